import JvmDerived
import JvmDerived.Pilot.@@N@@Statement
import JvmDerived.Pilot.@@N@@Code
set_option linter.unusedVariables false
set_option linter.unusedSimpArgs false
namespace Jvm.Pilot.@@N@@
open Jvm Jvm.ClassFile Sem Op Lib Jvm.Free Jvm.Stand Jvm.LawKit Jvm.RoadKit Bundle Jvm.Pilot.@@N@@.Jvm.D
/-! the walk in continuation style: 'Go .. A': from A the run comes to its end, and P holds there -/
def Go (p : Program) (e : Env) (below : List Frame) (P : Outcome → State → Prop) (A : State) : Prop := ∃ s₂ o, Steps p.tables e below A s₂ ∧ s₂.status = .running ∧ Ended s₂ below o ∧ P o s₂
theorem Go.by {p : Program} {e : Env} {below : List Frame} {P : Outcome → State → Prop} {A B : State} (h : ∀ t, Steps p.tables e below B t → Steps p.tables e below A t) (k : Go p e below P B) : Go p e below P A := by
  obtain ⟨s2, o, h1, h2⟩ := k
  exact ⟨s2, o, h _ h1, h2⟩
def End (s : State) (Q : Option Value → Heap → List Loc → Prop) (k n : Nat) (o : Outcome) (U : State) : Prop := ∃ v L, o = .returned v ∧ Q v U.heap L ∧ FrameEnd s o U L k n
section Ends
variable {p : Program} {l : Launch} {e : Env} {R : Room} {s : State} {m : MethodId} {args : Array Value} {below : List Frame} {meth : Method} {c : Code} {T : State} {locs : List Loc} {cells slots : Nat} {Q : Option Value → Heap → List Loc → Prop} {C S : Nat}
theorem Go.fin (X : Stand p l e R s m args below meth c T locs cells slots) {A : State} {v : Option Value} (hv : meth.sig.returnType = none → v = none) (hlk : meth.locks = false) (hk : cells ≤ C) (hn : slots ≤ S) (hQ : Q v T.heap locs)
    (k : ∀ fs, (∀ (f : JFrame) (acts : List Action), f.method = m → f.locked = none → f.entered = [] → (doReturn e (T.setTop f) acts v).1 = T.setFrames fs) → Steps p.tables e below A (T.setFrames fs)) : Go p e below (End s Q C S) A := by
  obtain ⟨fs, hr, hrun, hended, hW, hsame⟩ := X.leave (v := v) hv hlk
  exact ⟨_, _, k fs hr, hrun, hended, _, _, rfl, hQ, ⟨_, rfl⟩, hW, hsame.mono hk hn⟩
theorem Go.retZ (X : Stand p l e R s m args below meth c T locs cells slots) (hx : p.tables.exec = Jvm.exec) {pc : Nat} {Ls : Array Slot} {z : Int32} {t : FieldType} {rest : List Value} (hret : meth.sig.returnType = some t) (ht : t = .boolean ∨ t = .byte ∨ t = .char ∨ t = .short) (hlk : meth.locks = false)
    (hd : decode c.code pc = .ok (.ireturn, 1)) (hk : cells ≤ C) (hn : slots ≤ S) (hQ : Q (some (.int (nar t z))) T.heap locs) : Go p e below (End s Q C S) (T.setTop (mkF m pc Ls (.int z :: rest))) :=
  Go.fin X (fun h => by rw [hret] at h; cases h) hlk hk hn hQ fun fs hr => retN X hx hret ht hd hr
theorem Go.retI (X : Stand p l e R s m args below meth c T locs cells slots) (hx : p.tables.exec = Jvm.exec) {pc : Nat} {Ls : Array Slot} {z : Int32} {rest : List Value} (hret : meth.sig.returnType = some .int) (hlk : meth.locks = false)
    (hd : decode c.code pc = .ok (.ireturn, 1)) (hk : cells ≤ C) (hn : slots ≤ S) (hQ : Q (some (.int z)) T.heap locs) : Go p e below (End s Q C S) (T.setTop (mkF m pc Ls (.int z :: rest))) :=
  Go.fin X (fun h => by rw [hret] at h; cases h) hlk hk hn hQ fun fs hr => retOut X hx hret rfl (Or.inl ⟨rfl, Or.inl rfl, _, rfl⟩) hd hr
theorem Go.retR (X : Stand p l e R s m args below meth c T locs cells slots) (hx : p.tables.exec = Jvm.exec) {pc : Nat} {Ls : Array Slot} {w : Value} {t : FieldType} {rest : List Value} (hret : meth.sig.returnType = some t) (ht : t.isReference = true) (hw : w.isRef = true) (hlk : meth.locks = false)
    (hd : decode c.code pc = .ok (.areturn, 1)) (hk : cells ≤ C) (hn : slots ≤ S) (hQ : Q (some w) T.heap locs) : Go p e below (End s Q C S) (T.setTop (mkF m pc Ls (w :: rest))) :=
  Go.fin X (fun h => by rw [hret] at h; cases h) hlk hk hn hQ fun fs hr => retOut X hx hret (by cases t <;> cases w <;> first | rfl | (simp [FieldType.isReference] at ht) | (simp [Value.isRef] at hw)) (Or.inr (Or.inr (Or.inr (Or.inr ⟨rfl, ht, hw⟩)))) hd hr
theorem Go.retV (X : Stand p l e R s m args below meth c T locs cells slots) (hx : p.tables.exec = Jvm.exec) {pc : Nat} {Ls : Array Slot} (hret : meth.sig.returnType = none) (hlk : meth.locks = false)
    (hd : decode c.code pc = .ok (.return_, 1)) (hk : cells ≤ C) (hn : slots ≤ S) (hQ : Q none T.heap locs) : Go p e below (End s Q C S) (T.setTop (mkF m pc Ls [])) :=
  Go.fin X (fun _ => rfl) hlk hk hn hQ fun fs hr => X.returnOut hx hret hd hr
theorem own_eqi {t : Term} {n : Int32} {args : Array Value} {s : State} (h : (Cond.eq t (.int n)).before args s = true) : t.eval args s none [] s = some (.int n) := Cond.eq_int h (Term.int_eval n)
theorem own_n1 : nar .boolean (1 : Int32) = 1 := rfl
theorem own_n0 : nar .boolean (0 : Int32) = 0 := rfl
theorem own_wid (X : Stand p l e R s m args below meth c T locs cells slots) (hk : cells ≤ C) (hn : slots ≤ S) : Stand p l e R s m args below meth c T locs C S :=
  ⟨X.admits, X.cas, X.clock, X.frames, X.room, X.hears, X.method, X.code, X.here, X.tail, X.warmed, X.limits, X.bytes, X.same.mono hk hn⟩
end Ends
def Glob (Z : State) (wMAX_EVENTS_REACHED : Addr) (wNETWORK_TERMINATED : Addr) (wSUBSCRIPTION_EXPIRED : Addr) (wACCESS_TOKEN_EXPIRED : Addr) (wSUBSCRIPTION_DELETED : Addr) (wSINK_GONE : Addr) (wUNSENDABLE : Addr) (d_MAX_EVENTS_REACHED_description : Addr) (d_ACCESS_TOKEN_EXPIRED_description : Addr) (d_SUBSCRIPTION_DELETED_description : Addr) (d_SUBSCRIPTION_EXPIRED_description : Addr) (d_NETWORK_TERMINATED_description : Addr) : Prop := Sta Z Z.heap "com/example/portunus/portunus/reachability/TerminationReason" "MAX_EVENTS_REACHED" "Lcom/example/portunus/portunus/reachability/TerminationReason;" (.ref wMAX_EVENTS_REACHED) ∧ Exa Z Z.heap wMAX_EVENTS_REACHED "com/example/portunus/portunus/reachability/TerminationReason" ∧ Sta Z Z.heap "com/example/portunus/portunus/reachability/TerminationReason" "NETWORK_TERMINATED" "Lcom/example/portunus/portunus/reachability/TerminationReason;" (.ref wNETWORK_TERMINATED) ∧ Exa Z Z.heap wNETWORK_TERMINATED "com/example/portunus/portunus/reachability/TerminationReason" ∧ Sta Z Z.heap "com/example/portunus/portunus/reachability/TerminationReason" "SUBSCRIPTION_EXPIRED" "Lcom/example/portunus/portunus/reachability/TerminationReason;" (.ref wSUBSCRIPTION_EXPIRED) ∧ Exa Z Z.heap wSUBSCRIPTION_EXPIRED "com/example/portunus/portunus/reachability/TerminationReason" ∧ Sta Z Z.heap "com/example/portunus/portunus/reachability/TerminationReason" "ACCESS_TOKEN_EXPIRED" "Lcom/example/portunus/portunus/reachability/TerminationReason;" (.ref wACCESS_TOKEN_EXPIRED) ∧ Exa Z Z.heap wACCESS_TOKEN_EXPIRED "com/example/portunus/portunus/reachability/TerminationReason" ∧ Sta Z Z.heap "com/example/portunus/portunus/reachability/TerminationReason" "SUBSCRIPTION_DELETED" "Lcom/example/portunus/portunus/reachability/TerminationReason;" (.ref wSUBSCRIPTION_DELETED) ∧ Exa Z Z.heap wSUBSCRIPTION_DELETED "com/example/portunus/portunus/reachability/TerminationReason" ∧ Sta Z Z.heap "com/example/portunus/portunus/reachability/TerminationReason" "SINK_GONE" "Lcom/example/portunus/portunus/reachability/TerminationReason;" (.ref wSINK_GONE) ∧ Exa Z Z.heap wSINK_GONE "com/example/portunus/portunus/reachability/TerminationReason" ∧ Sta Z Z.heap "com/example/portunus/portunus/reachability/TerminationReason" "UNSENDABLE" "Lcom/example/portunus/portunus/reachability/TerminationReason;" (.ref wUNSENDABLE) ∧ Exa Z Z.heap wUNSENDABLE "com/example/portunus/portunus/reachability/TerminationReason" ∧ Fld Z Z.heap wMAX_EVENTS_REACHED "com/example/portunus/portunus/reachability/TerminationReason" "description" "Ljava/lang/String;" (.ref d_MAX_EVENTS_REACHED_description) ∧ Exa Z Z.heap d_MAX_EVENTS_REACHED_description "java/lang/String" ∧ Fld Z Z.heap wACCESS_TOKEN_EXPIRED "com/example/portunus/portunus/reachability/TerminationReason" "description" "Ljava/lang/String;" (.ref d_ACCESS_TOKEN_EXPIRED_description) ∧ Exa Z Z.heap d_ACCESS_TOKEN_EXPIRED_description "java/lang/String" ∧ Fld Z Z.heap wSINK_GONE "com/example/portunus/portunus/reachability/TerminationReason" "description" "Ljava/lang/String;" .null ∧ Fld Z Z.heap wUNSENDABLE "com/example/portunus/portunus/reachability/TerminationReason" "description" "Ljava/lang/String;" .null ∧ Fld Z Z.heap wSUBSCRIPTION_DELETED "com/example/portunus/portunus/reachability/TerminationReason" "description" "Ljava/lang/String;" (.ref d_SUBSCRIPTION_DELETED_description) ∧ Exa Z Z.heap d_SUBSCRIPTION_DELETED_description "java/lang/String" ∧ Fld Z Z.heap wSUBSCRIPTION_EXPIRED "com/example/portunus/portunus/reachability/TerminationReason" "description" "Ljava/lang/String;" (.ref d_SUBSCRIPTION_EXPIRED_description) ∧ Exa Z Z.heap d_SUBSCRIPTION_EXPIRED_description "java/lang/String" ∧ Fld Z Z.heap wNETWORK_TERMINATED "com/example/portunus/portunus/reachability/TerminationReason" "description" "Ljava/lang/String;" (.ref d_NETWORK_TERMINATED_description) ∧ Exa Z Z.heap d_NETWORK_TERMINATED_description "java/lang/String"
theorem own_lt7 (i : Int32) (h : 0 ≤ i.toInt ∧ i.toInt < 7) : i = 0 ∨ i = 1 ∨ i = 2 ∨ i = 3 ∨ i = 4 ∨ i = 5 ∨ i = 6 := by
  have q : i.toInt = 0 ∨ i.toInt = 1 ∨ i.toInt = 2 ∨ i.toInt = 3 ∨ i.toInt = 4 ∨ i.toInt = 5 ∨ i.toInt = 6 := by omega
  rcases q with q | q | q | q | q | q | q
  · exact Or.inl (Int32.toInt_inj.mp q)
  · exact Or.inr (Or.inl (Int32.toInt_inj.mp q))
  · exact Or.inr (Or.inr (Or.inl (Int32.toInt_inj.mp q)))
  · exact Or.inr (Or.inr (Or.inr (Or.inl (Int32.toInt_inj.mp q))))
  · exact Or.inr (Or.inr (Or.inr (Or.inr (Or.inl (Int32.toInt_inj.mp q)))))
  · exact Or.inr (Or.inr (Or.inr (Or.inr (Or.inr (Or.inl (Int32.toInt_inj.mp q))))))
  · exact Or.inr (Or.inr (Or.inr (Or.inr (Or.inr (Or.inr (Int32.toInt_inj.mp q))))))
theorem own_mod7 (x : Int32) : 0 ≤ ((x &&& (2147483647 : Int32)) % (7 : Int32)).toInt ∧ ((x &&& (2147483647 : Int32)) % (7 : Int32)).toInt < 7 := by
  have h1 : (x &&& (2147483647 : Int32)).toInt = x.toInt % (2 ^ 31 : Nat) := c_mask x 2147483647 31 (by decide) (by decide)
  have h2 := (c_irem (x &&& (2147483647 : Int32)) 7 7 rfl).1 (by omega)
  omega
theorem pn_0 : plainName "com/example/portunus/portunus/reachability/TerminationReason" = true := by first | (simp [plainName, overriddenIn]; done) | decide +kernel
theorem pd_0 : parseMethodDescriptor "()Z" = some ⟨[], some .boolean⟩ := by decide +kernel
theorem pd_1 : parseMethodDescriptor "()Ljava/lang/String;" = some ⟨[], some (.object "java/lang/String")⟩ := by decide +kernel
theorem pn_1 : plainName "com/example/portunus/portunus/reachability/TerminationReasonIsAnnouncedPinLaw" = true := by first | (simp [plainName, overriddenIn]; done) | decide +kernel
theorem d1_0 : decode prog_25_method_4_code 0 = .ok (.aload_n 0, 1) := by decide +kernel
theorem d1_1 : decode prog_25_method_4_code 1 = .ok (.getfield 44, 3) := by decide +kernel
theorem d1_4 : decode prog_25_method_4_code 4 = .ok (.ifnull 7, 3) := by decide +kernel
theorem d1_7 : decode prog_25_method_4_code 7 = .ok (.iconst 1, 1) := by decide +kernel
theorem d1_8 : decode prog_25_method_4_code 8 = .ok (.goto 4, 3) := by decide +kernel
theorem d1_12 : decode prog_25_method_4_code 12 = .ok (.ireturn, 1) := by decide +kernel
theorem ef_ann0 (m : MethodId) (x0 : Addr) : entryFrame m #[(.ref x0)] 1 = mkF m 0 #[.val (.ref x0)] [] := by first | (simp [entryFrame, mkF, argsToLocals, Value.category]; done) | rfl
def Q_ann0 (Z : State) (wMAX_EVENTS_REACHED : Addr) (wNETWORK_TERMINATED : Addr) (wSUBSCRIPTION_EXPIRED : Addr) (wACCESS_TOKEN_EXPIRED : Addr) (wSUBSCRIPTION_DELETED : Addr) (wSINK_GONE : Addr) (wUNSENDABLE : Addr) (d_MAX_EVENTS_REACHED_description : Addr) (d_ACCESS_TOKEN_EXPIRED_description : Addr) (d_SUBSCRIPTION_DELETED_description : Addr) (d_SUBSCRIPTION_EXPIRED_description : Addr) (d_NETWORK_TERMINATED_description : Addr) (a1 : Addr) (d1 : Addr) (h0 : Heap) (n0 : Nat) (v : Option Value) (h : Heap) (L : List Loc) : Prop := v = some (.int (1 : Int32)) ∧ Fr n0 L ∧ h = h0
set_option maxRecDepth 65536 in
set_option maxHeartbeats 40000000 in
theorem rm_ann0 (l : Launch) (Z : State) (a0 : Array Value) (hw : ∀ d ∈ tables_1, d.before a0 Z = true) (ws : List Jvm.Cond) (wMAX_EVENTS_REACHED : Addr) (wNETWORK_TERMINATED : Addr) (wSUBSCRIPTION_EXPIRED : Addr) (wACCESS_TOKEN_EXPIRED : Addr) (wSUBSCRIPTION_DELETED : Addr) (wSINK_GONE : Addr) (wUNSENDABLE : Addr) (d_MAX_EVENTS_REACHED_description : Addr) (d_ACCESS_TOKEN_EXPIRED_description : Addr) (d_SUBSCRIPTION_DELETED_description : Addr) (d_SUBSCRIPTION_EXPIRED_description : Addr) (d_NETWORK_TERMINATED_description : Addr) (hG : Glob Z wMAX_EVENTS_REACHED wNETWORK_TERMINATED wSUBSCRIPTION_EXPIRED wACCESS_TOKEN_EXPIRED wSUBSCRIPTION_DELETED wSINK_GONE wUNSENDABLE d_MAX_EVENTS_REACHED_description d_ACCESS_TOKEN_EXPIRED_description d_SUBSCRIPTION_DELETED_description d_SUBSCRIPTION_EXPIRED_description d_NETWORK_TERMINATED_description) (a1 : Addr) (d1 : Addr) (h0 : Heap) (n0 : Nat) (Z0 : n0 ≤ h0.size) (O0 : Old Z n0 h0) (P0 : Fld Z h0 a1 "com/example/portunus/portunus/reachability/TerminationReason" "description" "Ljava/lang/String;" (.ref d1)) :
    MetFree l (⟨"com/example/portunus/portunus/reachability/TerminationReason", "isAnnounced", "()Z"⟩ : MethodName) (head1 (Jvm.Cond.code (⟨"com/example/portunus/portunus/reachability/TerminationReason", "isAnnounced", "()Z"⟩ : MethodName) prog_25_method_4_code 1 (some .boolean) :: ws) ({ frames := 0, cells := 0, slots := 0, locals := 0 } : Room)) (fun a U => a = #[(.ref a1)] ∧ Z.Warmed39 U.vm ∧ U.heap = h0) (fun _ _ _ _ _ => True) (fun _ U o U' => ∃ v L, o = .returned v ∧ Q_ann0 Z wMAX_EVENTS_REACHED wNETWORK_TERMINATED wSUBSCRIPTION_EXPIRED wACCESS_TOKEN_EXPIRED wSUBSCRIPTION_DELETED wSINK_GONE wUNSENDABLE d_MAX_EVENTS_REACHED_description d_ACCESS_TOKEN_EXPIRED_description d_SUBSCRIPTION_DELETED_description d_SUBSCRIPTION_EXPIRED_description d_NETWORK_TERMINATED_description a1 d1 h0 n0 v U'.heap L ∧ FrameEnd U o U' L ({ frames := 0, cells := 0, slots := 0, locals := 0 } : Room).cells ({ frames := 0, cells := 0, slots := 0, locals := 0 } : Room).slots) := by
  refine MetFree.of_bodySF (plainFor_of_name pn_0) hisR ?_
  intro p e s m args below meth c s₁ Bd hml0 hP hK
  obtain ⟨rfl, hZ, hh⟩ := hP
  have hx := Bd.exec
  have hby := Bd.bytes
  have hml : c.maxLocals = 1 := hml0
  have hown : s.vm.findClass "com/example/portunus/portunus/reachability/TerminationReason" = some m.cls := findClass_of_methodNamed Bd.named
  have hnm := (name_of_methodNamed Bd.named Bd.method).1
  have hlk : meth.locks = false := BodyLoose.notSynchronized Bd
  have X0 : Stand p l e ({ frames := 0, cells := 0, slots := 0, locals := 0 } : Room) s m #[(.ref a1)] below meth c s₁ [] 0 0 := Stand.of_body Bd
  have e0 : s₁.heap = h0 := by rw [← hh, Bd.state]; rfl
  have N0 := Fr.nil n0
  obtain ⟨G0, G1, G2, G3, G4, G5, G6, G7, G8, G9, G10, G11, G12, G13, G14, G15, G16, G17, G18, G19, G20, G21, G22, G23, G24, G25⟩ := id hG
  show Go p e below (End s (Q_ann0 Z wMAX_EVENTS_REACHED wNETWORK_TERMINATED wSUBSCRIPTION_EXPIRED wACCESS_TOKEN_EXPIRED wSUBSCRIPTION_DELETED wSINK_GONE wUNSENDABLE d_MAX_EVENTS_REACHED_description d_ACCESS_TOKEN_EXPIRED_description d_SUBSCRIPTION_DELETED_description d_SUBSCRIPTION_EXPIRED_description d_NETWORK_TERMINATED_description a1 d1 h0 n0) ({ frames := 0, cells := 0, slots := 0, locals := 0 } : Room).cells ({ frames := 0, cells := 0, slots := 0, locals := 0 } : Room).slots) (s₁.setTop (entryFrame m #[(.ref a1)] 1))
  rw [ef_ann0]
  generalize hP : End s (Q_ann0 Z wMAX_EVENTS_REACHED wNETWORK_TERMINATED wSUBSCRIPTION_EXPIRED wACCESS_TOKEN_EXPIRED wSUBSCRIPTION_DELETED wSINK_GONE wUNSENDABLE d_MAX_EVENTS_REACHED_description d_ACCESS_TOKEN_EXPIRED_description d_SUBSCRIPTION_DELETED_description d_SUBSCRIPTION_EXPIRED_description d_NETWORK_TERMINATED_description a1 d1 h0 n0) ({ frames := 0, cells := 0, slots := 0, locals := 0 } : Room).cells ({ frames := 0, cells := 0, slots := 0, locals := 0 } : Room).slots = P
  show Go p e below P (s₁.setTop (mkF m 0 #[.val (.ref a1)] []))
  refine Go.by (fun _ => XS.aloadN X0.here hx rfl (hb hby d1_0) rfl rfl) ?_
  show Go p e below P (s₁.setTop (mkF m 1 #[.val (.ref a1)] [(.ref a1)]))
  obtain ⟨T1, X1, e1, st1⟩ := getF X0 hx hZ hown (host := "") (Or.inl (hw _ (List.mem_of_getElem? (i := 24) rfl))) Via.refl e0 P0 (g := (mkF m 1 #[.val (.ref a1)] [(.ref a1)])) rfl rfl (hb hby d1_1)
  refine Go.by (fun _ => st1 _) ?_
  show Go p e below P (T1.setTop (mkF m 4 #[.val (.ref a1)] [(.ref d1)]))
  refine Go.by (fun _ => XS.ifnullNo X1.here hx rfl (hb hby d1_4) rfl) ?_
  show Go p e below P (T1.setTop (mkF m 7 #[.val (.ref a1)] []))
  refine Go.by (fun _ => XS.iconst X1.here hx rfl (hb hby d1_7)) ?_
  show Go p e below P (T1.setTop (mkF m 8 #[.val (.ref a1)] [(.int (1 : Int32))]))
  refine Go.by (fun _ => XS.goto X1.here hx rfl (pc0 := 8) (pc' := 12) rfl (hb hby d1_8) (by decide) (by decide)) ?_
  show Go p e below P (T1.setTop (mkF m 12 #[.val (.ref a1)] [(.int (1 : Int32))]))
  subst hP
  refine Go.retZ X1 hx (t := .boolean) Bd.returns (by simp) hlk (hb hby d1_12) (Nat.le_of_ble_eq_true rfl) (Nat.le_of_ble_eq_true rfl) ?_
  rw [e1]
  exact ⟨rfl, N0, rfl⟩
theorem d2_0 : decode prog_25_method_5_code 0 = .ok (.aload_n 0, 1) := by decide +kernel
theorem d2_1 : decode prog_25_method_5_code 1 = .ok (.getfield 44, 3) := by decide +kernel
theorem d2_4 : decode prog_25_method_5_code 4 = .ok (.areturn, 1) := by decide +kernel
theorem ef_des0 (m : MethodId) (x0 : Addr) : entryFrame m #[(.ref x0)] 1 = mkF m 0 #[.val (.ref x0)] [] := by first | (simp [entryFrame, mkF, argsToLocals, Value.category]; done) | rfl
def Q_des0 (Z : State) (wMAX_EVENTS_REACHED : Addr) (wNETWORK_TERMINATED : Addr) (wSUBSCRIPTION_EXPIRED : Addr) (wACCESS_TOKEN_EXPIRED : Addr) (wSUBSCRIPTION_DELETED : Addr) (wSINK_GONE : Addr) (wUNSENDABLE : Addr) (d_MAX_EVENTS_REACHED_description : Addr) (d_ACCESS_TOKEN_EXPIRED_description : Addr) (d_SUBSCRIPTION_DELETED_description : Addr) (d_SUBSCRIPTION_EXPIRED_description : Addr) (d_NETWORK_TERMINATED_description : Addr) (a1 : Addr) (d1 : Addr) (h0 : Heap) (n0 : Nat) (v : Option Value) (h : Heap) (L : List Loc) : Prop := v = some (.ref d1) ∧ Fr n0 L ∧ h = h0
set_option maxRecDepth 65536 in
set_option maxHeartbeats 40000000 in
theorem rm_des0 (l : Launch) (Z : State) (a0 : Array Value) (hw : ∀ d ∈ tables_1, d.before a0 Z = true) (ws : List Jvm.Cond) (wMAX_EVENTS_REACHED : Addr) (wNETWORK_TERMINATED : Addr) (wSUBSCRIPTION_EXPIRED : Addr) (wACCESS_TOKEN_EXPIRED : Addr) (wSUBSCRIPTION_DELETED : Addr) (wSINK_GONE : Addr) (wUNSENDABLE : Addr) (d_MAX_EVENTS_REACHED_description : Addr) (d_ACCESS_TOKEN_EXPIRED_description : Addr) (d_SUBSCRIPTION_DELETED_description : Addr) (d_SUBSCRIPTION_EXPIRED_description : Addr) (d_NETWORK_TERMINATED_description : Addr) (hG : Glob Z wMAX_EVENTS_REACHED wNETWORK_TERMINATED wSUBSCRIPTION_EXPIRED wACCESS_TOKEN_EXPIRED wSUBSCRIPTION_DELETED wSINK_GONE wUNSENDABLE d_MAX_EVENTS_REACHED_description d_ACCESS_TOKEN_EXPIRED_description d_SUBSCRIPTION_DELETED_description d_SUBSCRIPTION_EXPIRED_description d_NETWORK_TERMINATED_description) (a1 : Addr) (d1 : Addr) (h0 : Heap) (n0 : Nat) (Z0 : n0 ≤ h0.size) (O0 : Old Z n0 h0) (P0 : Fld Z h0 a1 "com/example/portunus/portunus/reachability/TerminationReason" "description" "Ljava/lang/String;" (.ref d1)) :
    MetFree l (⟨"com/example/portunus/portunus/reachability/TerminationReason", "description", "()Ljava/lang/String;"⟩ : MethodName) (head1 (Jvm.Cond.code (⟨"com/example/portunus/portunus/reachability/TerminationReason", "description", "()Ljava/lang/String;"⟩ : MethodName) prog_25_method_5_code 1 (some (.object "java/lang/String")) :: ws) ({ frames := 0, cells := 0, slots := 0, locals := 0 } : Room)) (fun a U => a = #[(.ref a1)] ∧ Z.Warmed39 U.vm ∧ U.heap = h0) (fun _ _ _ _ _ => True) (fun _ U o U' => ∃ v L, o = .returned v ∧ Q_des0 Z wMAX_EVENTS_REACHED wNETWORK_TERMINATED wSUBSCRIPTION_EXPIRED wACCESS_TOKEN_EXPIRED wSUBSCRIPTION_DELETED wSINK_GONE wUNSENDABLE d_MAX_EVENTS_REACHED_description d_ACCESS_TOKEN_EXPIRED_description d_SUBSCRIPTION_DELETED_description d_SUBSCRIPTION_EXPIRED_description d_NETWORK_TERMINATED_description a1 d1 h0 n0 v U'.heap L ∧ FrameEnd U o U' L ({ frames := 0, cells := 0, slots := 0, locals := 0 } : Room).cells ({ frames := 0, cells := 0, slots := 0, locals := 0 } : Room).slots) := by
  refine MetFree.of_bodySF (plainFor_of_name pn_0) hisR ?_
  intro p e s m args below meth c s₁ Bd hml0 hP hK
  obtain ⟨rfl, hZ, hh⟩ := hP
  have hx := Bd.exec
  have hby := Bd.bytes
  have hml : c.maxLocals = 1 := hml0
  have hown : s.vm.findClass "com/example/portunus/portunus/reachability/TerminationReason" = some m.cls := findClass_of_methodNamed Bd.named
  have hnm := (name_of_methodNamed Bd.named Bd.method).1
  have hlk : meth.locks = false := BodyLoose.notSynchronized Bd
  have X0 : Stand p l e ({ frames := 0, cells := 0, slots := 0, locals := 0 } : Room) s m #[(.ref a1)] below meth c s₁ [] 0 0 := Stand.of_body Bd
  have e0 : s₁.heap = h0 := by rw [← hh, Bd.state]; rfl
  have N0 := Fr.nil n0
  obtain ⟨G0, G1, G2, G3, G4, G5, G6, G7, G8, G9, G10, G11, G12, G13, G14, G15, G16, G17, G18, G19, G20, G21, G22, G23, G24, G25⟩ := id hG
  show Go p e below (End s (Q_des0 Z wMAX_EVENTS_REACHED wNETWORK_TERMINATED wSUBSCRIPTION_EXPIRED wACCESS_TOKEN_EXPIRED wSUBSCRIPTION_DELETED wSINK_GONE wUNSENDABLE d_MAX_EVENTS_REACHED_description d_ACCESS_TOKEN_EXPIRED_description d_SUBSCRIPTION_DELETED_description d_SUBSCRIPTION_EXPIRED_description d_NETWORK_TERMINATED_description a1 d1 h0 n0) ({ frames := 0, cells := 0, slots := 0, locals := 0 } : Room).cells ({ frames := 0, cells := 0, slots := 0, locals := 0 } : Room).slots) (s₁.setTop (entryFrame m #[(.ref a1)] 1))
  rw [ef_des0]
  generalize hP : End s (Q_des0 Z wMAX_EVENTS_REACHED wNETWORK_TERMINATED wSUBSCRIPTION_EXPIRED wACCESS_TOKEN_EXPIRED wSUBSCRIPTION_DELETED wSINK_GONE wUNSENDABLE d_MAX_EVENTS_REACHED_description d_ACCESS_TOKEN_EXPIRED_description d_SUBSCRIPTION_DELETED_description d_SUBSCRIPTION_EXPIRED_description d_NETWORK_TERMINATED_description a1 d1 h0 n0) ({ frames := 0, cells := 0, slots := 0, locals := 0 } : Room).cells ({ frames := 0, cells := 0, slots := 0, locals := 0 } : Room).slots = P
  show Go p e below P (s₁.setTop (mkF m 0 #[.val (.ref a1)] []))
  refine Go.by (fun _ => XS.aloadN X0.here hx rfl (hb hby d2_0) rfl rfl) ?_
  show Go p e below P (s₁.setTop (mkF m 1 #[.val (.ref a1)] [(.ref a1)]))
  obtain ⟨T1, X1, e1, st1⟩ := getF X0 hx hZ hown (host := "") (Or.inl (hw _ (List.mem_of_getElem? (i := 24) rfl))) Via.refl e0 P0 (g := (mkF m 1 #[.val (.ref a1)] [(.ref a1)])) rfl rfl (hb hby d2_1)
  refine Go.by (fun _ => st1 _) ?_
  show Go p e below P (T1.setTop (mkF m 4 #[.val (.ref a1)] [(.ref d1)]))
  subst hP
  refine Go.retR X1 hx Bd.returns rfl rfl hlk (hb hby d2_4) (Nat.le_of_ble_eq_true rfl) (Nat.le_of_ble_eq_true rfl) ?_
  rw [e1]
  exact ⟨rfl, N0, rfl⟩
theorem d1_11 : decode prog_25_method_4_code 11 = .ok (.iconst 0, 1) := by decide +kernel
theorem ef_ann1 (m : MethodId) (x0 : Addr) : entryFrame m #[(.ref x0)] 1 = mkF m 0 #[.val (.ref x0)] [] := by first | (simp [entryFrame, mkF, argsToLocals, Value.category]; done) | rfl
def Q_ann1 (Z : State) (wMAX_EVENTS_REACHED : Addr) (wNETWORK_TERMINATED : Addr) (wSUBSCRIPTION_EXPIRED : Addr) (wACCESS_TOKEN_EXPIRED : Addr) (wSUBSCRIPTION_DELETED : Addr) (wSINK_GONE : Addr) (wUNSENDABLE : Addr) (d_MAX_EVENTS_REACHED_description : Addr) (d_ACCESS_TOKEN_EXPIRED_description : Addr) (d_SUBSCRIPTION_DELETED_description : Addr) (d_SUBSCRIPTION_EXPIRED_description : Addr) (d_NETWORK_TERMINATED_description : Addr) (a1 : Addr) (h0 : Heap) (n0 : Nat) (v : Option Value) (h : Heap) (L : List Loc) : Prop := v = some (.int (0 : Int32)) ∧ Fr n0 L ∧ h = h0
set_option maxRecDepth 65536 in
set_option maxHeartbeats 40000000 in
theorem rm_ann1 (l : Launch) (Z : State) (a0 : Array Value) (hw : ∀ d ∈ tables_1, d.before a0 Z = true) (ws : List Jvm.Cond) (wMAX_EVENTS_REACHED : Addr) (wNETWORK_TERMINATED : Addr) (wSUBSCRIPTION_EXPIRED : Addr) (wACCESS_TOKEN_EXPIRED : Addr) (wSUBSCRIPTION_DELETED : Addr) (wSINK_GONE : Addr) (wUNSENDABLE : Addr) (d_MAX_EVENTS_REACHED_description : Addr) (d_ACCESS_TOKEN_EXPIRED_description : Addr) (d_SUBSCRIPTION_DELETED_description : Addr) (d_SUBSCRIPTION_EXPIRED_description : Addr) (d_NETWORK_TERMINATED_description : Addr) (hG : Glob Z wMAX_EVENTS_REACHED wNETWORK_TERMINATED wSUBSCRIPTION_EXPIRED wACCESS_TOKEN_EXPIRED wSUBSCRIPTION_DELETED wSINK_GONE wUNSENDABLE d_MAX_EVENTS_REACHED_description d_ACCESS_TOKEN_EXPIRED_description d_SUBSCRIPTION_DELETED_description d_SUBSCRIPTION_EXPIRED_description d_NETWORK_TERMINATED_description) (a1 : Addr) (h0 : Heap) (n0 : Nat) (Z0 : n0 ≤ h0.size) (O0 : Old Z n0 h0) (P0 : Fld Z h0 a1 "com/example/portunus/portunus/reachability/TerminationReason" "description" "Ljava/lang/String;" .null) :
    MetFree l (⟨"com/example/portunus/portunus/reachability/TerminationReason", "isAnnounced", "()Z"⟩ : MethodName) (head1 (Jvm.Cond.code (⟨"com/example/portunus/portunus/reachability/TerminationReason", "isAnnounced", "()Z"⟩ : MethodName) prog_25_method_4_code 1 (some .boolean) :: ws) ({ frames := 0, cells := 0, slots := 0, locals := 0 } : Room)) (fun a U => a = #[(.ref a1)] ∧ Z.Warmed39 U.vm ∧ U.heap = h0) (fun _ _ _ _ _ => True) (fun _ U o U' => ∃ v L, o = .returned v ∧ Q_ann1 Z wMAX_EVENTS_REACHED wNETWORK_TERMINATED wSUBSCRIPTION_EXPIRED wACCESS_TOKEN_EXPIRED wSUBSCRIPTION_DELETED wSINK_GONE wUNSENDABLE d_MAX_EVENTS_REACHED_description d_ACCESS_TOKEN_EXPIRED_description d_SUBSCRIPTION_DELETED_description d_SUBSCRIPTION_EXPIRED_description d_NETWORK_TERMINATED_description a1 h0 n0 v U'.heap L ∧ FrameEnd U o U' L ({ frames := 0, cells := 0, slots := 0, locals := 0 } : Room).cells ({ frames := 0, cells := 0, slots := 0, locals := 0 } : Room).slots) := by
  refine MetFree.of_bodySF (plainFor_of_name pn_0) hisR ?_
  intro p e s m args below meth c s₁ Bd hml0 hP hK
  obtain ⟨rfl, hZ, hh⟩ := hP
  have hx := Bd.exec
  have hby := Bd.bytes
  have hml : c.maxLocals = 1 := hml0
  have hown : s.vm.findClass "com/example/portunus/portunus/reachability/TerminationReason" = some m.cls := findClass_of_methodNamed Bd.named
  have hnm := (name_of_methodNamed Bd.named Bd.method).1
  have hlk : meth.locks = false := BodyLoose.notSynchronized Bd
  have X0 : Stand p l e ({ frames := 0, cells := 0, slots := 0, locals := 0 } : Room) s m #[(.ref a1)] below meth c s₁ [] 0 0 := Stand.of_body Bd
  have e0 : s₁.heap = h0 := by rw [← hh, Bd.state]; rfl
  have N0 := Fr.nil n0
  obtain ⟨G0, G1, G2, G3, G4, G5, G6, G7, G8, G9, G10, G11, G12, G13, G14, G15, G16, G17, G18, G19, G20, G21, G22, G23, G24, G25⟩ := id hG
  show Go p e below (End s (Q_ann1 Z wMAX_EVENTS_REACHED wNETWORK_TERMINATED wSUBSCRIPTION_EXPIRED wACCESS_TOKEN_EXPIRED wSUBSCRIPTION_DELETED wSINK_GONE wUNSENDABLE d_MAX_EVENTS_REACHED_description d_ACCESS_TOKEN_EXPIRED_description d_SUBSCRIPTION_DELETED_description d_SUBSCRIPTION_EXPIRED_description d_NETWORK_TERMINATED_description a1 h0 n0) ({ frames := 0, cells := 0, slots := 0, locals := 0 } : Room).cells ({ frames := 0, cells := 0, slots := 0, locals := 0 } : Room).slots) (s₁.setTop (entryFrame m #[(.ref a1)] 1))
  rw [ef_ann1]
  generalize hP : End s (Q_ann1 Z wMAX_EVENTS_REACHED wNETWORK_TERMINATED wSUBSCRIPTION_EXPIRED wACCESS_TOKEN_EXPIRED wSUBSCRIPTION_DELETED wSINK_GONE wUNSENDABLE d_MAX_EVENTS_REACHED_description d_ACCESS_TOKEN_EXPIRED_description d_SUBSCRIPTION_DELETED_description d_SUBSCRIPTION_EXPIRED_description d_NETWORK_TERMINATED_description a1 h0 n0) ({ frames := 0, cells := 0, slots := 0, locals := 0 } : Room).cells ({ frames := 0, cells := 0, slots := 0, locals := 0 } : Room).slots = P
  show Go p e below P (s₁.setTop (mkF m 0 #[.val (.ref a1)] []))
  refine Go.by (fun _ => XS.aloadN X0.here hx rfl (hb hby d1_0) rfl rfl) ?_
  show Go p e below P (s₁.setTop (mkF m 1 #[.val (.ref a1)] [(.ref a1)]))
  obtain ⟨T1, X1, e1, st1⟩ := getF X0 hx hZ hown (host := "") (Or.inl (hw _ (List.mem_of_getElem? (i := 24) rfl))) Via.refl e0 P0 (g := (mkF m 1 #[.val (.ref a1)] [(.ref a1)])) rfl rfl (hb hby d1_1)
  refine Go.by (fun _ => st1 _) ?_
  show Go p e below P (T1.setTop (mkF m 4 #[.val (.ref a1)] [.null]))
  refine Go.by (fun _ => XS.ifnullYes X1.here hx rfl (pc0 := 4) (pc' := 11) rfl (hb hby d1_4) rfl (by decide) (by decide)) ?_
  show Go p e below P (T1.setTop (mkF m 11 #[.val (.ref a1)] []))
  refine Go.by (fun _ => XS.iconst X1.here hx rfl (hb hby d1_11)) ?_
  show Go p e below P (T1.setTop (mkF m 12 #[.val (.ref a1)] [(.int (0 : Int32))]))
  subst hP
  refine Go.retZ X1 hx (t := .boolean) Bd.returns (by simp) hlk (hb hby d1_12) (Nat.le_of_ble_eq_true rfl) (Nat.le_of_ble_eq_true rfl) ?_
  rw [e1]
  exact ⟨rfl, N0, rfl⟩
theorem ef_des1 (m : MethodId) (x0 : Addr) : entryFrame m #[(.ref x0)] 1 = mkF m 0 #[.val (.ref x0)] [] := by first | (simp [entryFrame, mkF, argsToLocals, Value.category]; done) | rfl
def Q_des1 (Z : State) (wMAX_EVENTS_REACHED : Addr) (wNETWORK_TERMINATED : Addr) (wSUBSCRIPTION_EXPIRED : Addr) (wACCESS_TOKEN_EXPIRED : Addr) (wSUBSCRIPTION_DELETED : Addr) (wSINK_GONE : Addr) (wUNSENDABLE : Addr) (d_MAX_EVENTS_REACHED_description : Addr) (d_ACCESS_TOKEN_EXPIRED_description : Addr) (d_SUBSCRIPTION_DELETED_description : Addr) (d_SUBSCRIPTION_EXPIRED_description : Addr) (d_NETWORK_TERMINATED_description : Addr) (a1 : Addr) (h0 : Heap) (n0 : Nat) (v : Option Value) (h : Heap) (L : List Loc) : Prop := v = some .null ∧ Fr n0 L ∧ h = h0
set_option maxRecDepth 65536 in
set_option maxHeartbeats 40000000 in
theorem rm_des1 (l : Launch) (Z : State) (a0 : Array Value) (hw : ∀ d ∈ tables_1, d.before a0 Z = true) (ws : List Jvm.Cond) (wMAX_EVENTS_REACHED : Addr) (wNETWORK_TERMINATED : Addr) (wSUBSCRIPTION_EXPIRED : Addr) (wACCESS_TOKEN_EXPIRED : Addr) (wSUBSCRIPTION_DELETED : Addr) (wSINK_GONE : Addr) (wUNSENDABLE : Addr) (d_MAX_EVENTS_REACHED_description : Addr) (d_ACCESS_TOKEN_EXPIRED_description : Addr) (d_SUBSCRIPTION_DELETED_description : Addr) (d_SUBSCRIPTION_EXPIRED_description : Addr) (d_NETWORK_TERMINATED_description : Addr) (hG : Glob Z wMAX_EVENTS_REACHED wNETWORK_TERMINATED wSUBSCRIPTION_EXPIRED wACCESS_TOKEN_EXPIRED wSUBSCRIPTION_DELETED wSINK_GONE wUNSENDABLE d_MAX_EVENTS_REACHED_description d_ACCESS_TOKEN_EXPIRED_description d_SUBSCRIPTION_DELETED_description d_SUBSCRIPTION_EXPIRED_description d_NETWORK_TERMINATED_description) (a1 : Addr) (h0 : Heap) (n0 : Nat) (Z0 : n0 ≤ h0.size) (O0 : Old Z n0 h0) (P0 : Fld Z h0 a1 "com/example/portunus/portunus/reachability/TerminationReason" "description" "Ljava/lang/String;" .null) :
    MetFree l (⟨"com/example/portunus/portunus/reachability/TerminationReason", "description", "()Ljava/lang/String;"⟩ : MethodName) (head1 (Jvm.Cond.code (⟨"com/example/portunus/portunus/reachability/TerminationReason", "description", "()Ljava/lang/String;"⟩ : MethodName) prog_25_method_5_code 1 (some (.object "java/lang/String")) :: ws) ({ frames := 0, cells := 0, slots := 0, locals := 0 } : Room)) (fun a U => a = #[(.ref a1)] ∧ Z.Warmed39 U.vm ∧ U.heap = h0) (fun _ _ _ _ _ => True) (fun _ U o U' => ∃ v L, o = .returned v ∧ Q_des1 Z wMAX_EVENTS_REACHED wNETWORK_TERMINATED wSUBSCRIPTION_EXPIRED wACCESS_TOKEN_EXPIRED wSUBSCRIPTION_DELETED wSINK_GONE wUNSENDABLE d_MAX_EVENTS_REACHED_description d_ACCESS_TOKEN_EXPIRED_description d_SUBSCRIPTION_DELETED_description d_SUBSCRIPTION_EXPIRED_description d_NETWORK_TERMINATED_description a1 h0 n0 v U'.heap L ∧ FrameEnd U o U' L ({ frames := 0, cells := 0, slots := 0, locals := 0 } : Room).cells ({ frames := 0, cells := 0, slots := 0, locals := 0 } : Room).slots) := by
  refine MetFree.of_bodySF (plainFor_of_name pn_0) hisR ?_
  intro p e s m args below meth c s₁ Bd hml0 hP hK
  obtain ⟨rfl, hZ, hh⟩ := hP
  have hx := Bd.exec
  have hby := Bd.bytes
  have hml : c.maxLocals = 1 := hml0
  have hown : s.vm.findClass "com/example/portunus/portunus/reachability/TerminationReason" = some m.cls := findClass_of_methodNamed Bd.named
  have hnm := (name_of_methodNamed Bd.named Bd.method).1
  have hlk : meth.locks = false := BodyLoose.notSynchronized Bd
  have X0 : Stand p l e ({ frames := 0, cells := 0, slots := 0, locals := 0 } : Room) s m #[(.ref a1)] below meth c s₁ [] 0 0 := Stand.of_body Bd
  have e0 : s₁.heap = h0 := by rw [← hh, Bd.state]; rfl
  have N0 := Fr.nil n0
  obtain ⟨G0, G1, G2, G3, G4, G5, G6, G7, G8, G9, G10, G11, G12, G13, G14, G15, G16, G17, G18, G19, G20, G21, G22, G23, G24, G25⟩ := id hG
  show Go p e below (End s (Q_des1 Z wMAX_EVENTS_REACHED wNETWORK_TERMINATED wSUBSCRIPTION_EXPIRED wACCESS_TOKEN_EXPIRED wSUBSCRIPTION_DELETED wSINK_GONE wUNSENDABLE d_MAX_EVENTS_REACHED_description d_ACCESS_TOKEN_EXPIRED_description d_SUBSCRIPTION_DELETED_description d_SUBSCRIPTION_EXPIRED_description d_NETWORK_TERMINATED_description a1 h0 n0) ({ frames := 0, cells := 0, slots := 0, locals := 0 } : Room).cells ({ frames := 0, cells := 0, slots := 0, locals := 0 } : Room).slots) (s₁.setTop (entryFrame m #[(.ref a1)] 1))
  rw [ef_des1]
  generalize hP : End s (Q_des1 Z wMAX_EVENTS_REACHED wNETWORK_TERMINATED wSUBSCRIPTION_EXPIRED wACCESS_TOKEN_EXPIRED wSUBSCRIPTION_DELETED wSINK_GONE wUNSENDABLE d_MAX_EVENTS_REACHED_description d_ACCESS_TOKEN_EXPIRED_description d_SUBSCRIPTION_DELETED_description d_SUBSCRIPTION_EXPIRED_description d_NETWORK_TERMINATED_description a1 h0 n0) ({ frames := 0, cells := 0, slots := 0, locals := 0 } : Room).cells ({ frames := 0, cells := 0, slots := 0, locals := 0 } : Room).slots = P
  show Go p e below P (s₁.setTop (mkF m 0 #[.val (.ref a1)] []))
  refine Go.by (fun _ => XS.aloadN X0.here hx rfl (hb hby d2_0) rfl rfl) ?_
  show Go p e below P (s₁.setTop (mkF m 1 #[.val (.ref a1)] [(.ref a1)]))
  obtain ⟨T1, X1, e1, st1⟩ := getF X0 hx hZ hown (host := "") (Or.inl (hw _ (List.mem_of_getElem? (i := 24) rfl))) Via.refl e0 P0 (g := (mkF m 1 #[.val (.ref a1)] [(.ref a1)])) rfl rfl (hb hby d2_1)
  refine Go.by (fun _ => st1 _) ?_
  show Go p e below P (T1.setTop (mkF m 4 #[.val (.ref a1)] [.null]))
  subst hP
  refine Go.retR X1 hx Bd.returns rfl rfl hlk (hb hby d2_4) (Nat.le_of_ble_eq_true rfl) (Nat.le_of_ble_eq_true rfl) ?_
  rw [e1]
  exact ⟨rfl, N0, rfl⟩
theorem ef_law (m : MethodId) (x0 : Int32) : entryFrame m #[(.int x0)] maxLocals = mkF m 0 #[.val (.int x0), .unset, .unset, .unset, .unset, .unset, .unset] [] := by first | (simp [entryFrame, mkF, argsToLocals, Value.category, maxLocals]; done) | rfl
def Q_law (Z : State) (wMAX_EVENTS_REACHED : Addr) (wNETWORK_TERMINATED : Addr) (wSUBSCRIPTION_EXPIRED : Addr) (wACCESS_TOKEN_EXPIRED : Addr) (wSUBSCRIPTION_DELETED : Addr) (wSINK_GONE : Addr) (wUNSENDABLE : Addr) (d_MAX_EVENTS_REACHED_description : Addr) (d_ACCESS_TOKEN_EXPIRED_description : Addr) (d_SUBSCRIPTION_DELETED_description : Addr) (d_SUBSCRIPTION_EXPIRED_description : Addr) (d_NETWORK_TERMINATED_description : Addr) (p0 : Int32) (h0 : Heap) (n0 : Nat) (v : Option Value) (h : Heap) (L : List Loc) : Prop := v = some (.int 1) ∧ Fr n0 L
set_option maxRecDepth 65536 in
set_option maxHeartbeats 40000000 in
theorem rm_law (l : Launch) (Z : State) (a0 : Array Value) (hw : ∀ d ∈ tables_1, d.before a0 Z = true) (ws : List Jvm.Cond) (wMAX_EVENTS_REACHED : Addr) (wNETWORK_TERMINATED : Addr) (wSUBSCRIPTION_EXPIRED : Addr) (wACCESS_TOKEN_EXPIRED : Addr) (wSUBSCRIPTION_DELETED : Addr) (wSINK_GONE : Addr) (wUNSENDABLE : Addr) (d_MAX_EVENTS_REACHED_description : Addr) (d_ACCESS_TOKEN_EXPIRED_description : Addr) (d_SUBSCRIPTION_DELETED_description : Addr) (d_SUBSCRIPTION_EXPIRED_description : Addr) (d_NETWORK_TERMINATED_description : Addr) (hG : Glob Z wMAX_EVENTS_REACHED wNETWORK_TERMINATED wSUBSCRIPTION_EXPIRED wACCESS_TOKEN_EXPIRED wSUBSCRIPTION_DELETED wSINK_GONE wUNSENDABLE d_MAX_EVENTS_REACHED_description d_ACCESS_TOKEN_EXPIRED_description d_SUBSCRIPTION_DELETED_description d_SUBSCRIPTION_EXPIRED_description d_NETWORK_TERMINATED_description) (p0 : Int32) (h0 : Heap) (n0 : Nat) (Z0 : n0 ≤ h0.size) (O0 : Old Z n0 h0) :
    MetFree l x (head1 (Jvm.Cond.code x code maxLocals ret :: ws) room_1) (fun a U => a = #[(.int p0)] ∧ Z.Warmed39 U.vm ∧ U.heap = h0) (fun _ _ _ _ _ => True) (fun _ U o U' => ∃ v L, o = .returned v ∧ Q_law Z wMAX_EVENTS_REACHED wNETWORK_TERMINATED wSUBSCRIPTION_EXPIRED wACCESS_TOKEN_EXPIRED wSUBSCRIPTION_DELETED wSINK_GONE wUNSENDABLE d_MAX_EVENTS_REACHED_description d_ACCESS_TOKEN_EXPIRED_description d_SUBSCRIPTION_DELETED_description d_SUBSCRIPTION_EXPIRED_description d_NETWORK_TERMINATED_description p0 h0 n0 v U'.heap L ∧ FrameEnd U o U' L 1 7) := by
  refine MetFree.of_bodySF (plainFor_of_name pn_1) hisR ?_
  intro p e s m args below meth c s₁ Bd hml0 hP hK
  obtain ⟨rfl, hZ, hh⟩ := hP
  have hx := Bd.exec
  have hby := Bd.bytes
  have hml : c.maxLocals = 7 := hml0
  have hown : s.vm.findClass "com/example/portunus/portunus/reachability/TerminationReasonIsAnnouncedPinLaw" = some m.cls := findClass_of_methodNamed Bd.named
  have hnm := (name_of_methodNamed Bd.named Bd.method).1
  have hlk : meth.locks = false := BodyLoose.notSynchronized Bd
  have X0 : Stand p l e room_1 s m #[(.int p0)] below meth c s₁ [] 0 0 := Stand.of_body Bd
  have e0 : s₁.heap = h0 := by rw [← hh, Bd.state]; rfl
  have N0 := Fr.nil n0
  obtain ⟨G0, G1, G2, G3, G4, G5, G6, G7, G8, G9, G10, G11, G12, G13, G14, G15, G16, G17, G18, G19, G20, G21, G22, G23, G24, G25⟩ := id hG
  show Go p e below (End s (Q_law Z wMAX_EVENTS_REACHED wNETWORK_TERMINATED wSUBSCRIPTION_EXPIRED wACCESS_TOKEN_EXPIRED wSUBSCRIPTION_DELETED wSINK_GONE wUNSENDABLE d_MAX_EVENTS_REACHED_description d_ACCESS_TOKEN_EXPIRED_description d_SUBSCRIPTION_DELETED_description d_SUBSCRIPTION_EXPIRED_description d_NETWORK_TERMINATED_description p0 h0 n0) 1 7) (s₁.setTop (entryFrame m #[(.int p0)] maxLocals))
  rw [ef_law]
  generalize hP : End s (Q_law Z wMAX_EVENTS_REACHED wNETWORK_TERMINATED wSUBSCRIPTION_EXPIRED wACCESS_TOKEN_EXPIRED wSUBSCRIPTION_DELETED wSINK_GONE wUNSENDABLE d_MAX_EVENTS_REACHED_description d_ACCESS_TOKEN_EXPIRED_description d_SUBSCRIPTION_DELETED_description d_SUBSCRIPTION_EXPIRED_description d_NETWORK_TERMINATED_description p0 h0 n0) 1 7 = P
  show Go p e below P (s₁.setTop (mkF m 0 #[.val (.int p0), .unset, .unset, .unset, .unset, .unset, .unset] []))
  refine Go.by (fun _ => XS.iloadN X0.here hx rfl (hb hby at_0) rfl) ?_
  show Go p e below P (s₁.setTop (mkF m 1 #[.val (.int p0), .unset, .unset, .unset, .unset, .unset, .unset] [(.int p0)]))
  refine Go.by (fun _ => X0.ldcInt hx hown (mvT hZ (hw _ (List.mem_of_getElem? (i := 0) rfl))) (g := (mkF m 1 #[.val (.int p0), .unset, .unset, .unset, .unset, .unset, .unset] [(.int p0)])) rfl (hb hby at_1) _) ?_
  show Go p e below P (s₁.setTop (mkF m 3 #[.val (.int p0), .unset, .unset, .unset, .unset, .unset, .unset] [(.int (2147483647 : Int32)), (.int p0)]))
  refine Go.by (fun _ => XS.iand X0.here hx rfl (hb hby at_3) rfl) ?_
  show Go p e below P (s₁.setTop (mkF m 4 #[.val (.int p0), .unset, .unset, .unset, .unset, .unset, .unset] [(.int (p0 &&& (2147483647 : Int32)))]))
  refine Go.by (fun _ => XS.bipush X0.here hx rfl (hb hby at_4)) ?_
  show Go p e below P (s₁.setTop (mkF m 6 #[.val (.int p0), .unset, .unset, .unset, .unset, .unset, .unset] [(.int (7 : Int32)), (.int (p0 &&& (2147483647 : Int32)))]))
  refine Go.by (fun _ => iremM X0 hx rfl (hb hby at_6) rfl (by decide)) ?_
  show Go p e below P (s₁.setTop (mkF m 7 #[.val (.int p0), .unset, .unset, .unset, .unset, .unset, .unset] [(.int ((p0 &&& (2147483647 : Int32)) % (7 : Int32)))]))
  generalize hv_i : ((p0 &&& (2147483647 : Int32)) % (7 : Int32)) = i
  refine Go.by (fun _ => XS.istoreN X0.here hx rfl (hb hby at_7) rfl (l' := #[.val (.int p0), .val (.int i), .unset, .unset, .unset, .unset, .unset]) rfl) ?_
  show Go p e below P (s₁.setTop (mkF m 8 #[.val (.int p0), .val (.int i), .unset, .unset, .unset, .unset, .unset] []))
  refine Go.by (fun _ => XS.bipush X0.here hx rfl (hb hby at_8)) ?_
  show Go p e below P (s₁.setTop (mkF m 10 #[.val (.int p0), .val (.int i), .unset, .unset, .unset, .unset, .unset] [(.int (7 : Int32))]))
  obtain ⟨T1, h1, k1, X1, e1, E1, A1, Ov1, st1⟩ := newR X0 hx hZ hown (hw _ (List.mem_of_getElem? (i := 1) rfl)) (hw _ (List.mem_of_getElem? (i := 2) rfl)) e0 (g := (mkF m 10 #[.val (.int p0), .val (.int i), .unset, .unset, .unset, .unset, .unset] [(.int (7 : Int32))])) rfl (hb hby at_10) rfl (by decide) (cap := 7) (by decide) (Nat.le_of_ble_eq_true rfl) (Nat.le_of_ble_eq_true rfl) (Nat.le_of_ble_eq_true rfl)
  obtain ⟨b1, q1⟩ : ∃ z, z = h0.size := ⟨_, rfl⟩
  rw [← q1] at A1 st1
  refine Go.by (fun _ => st1 _) ?_
  have g_b1 : n0 ≤ b1 := Nat.le_trans Z0 (Nat.le_of_eq q1.symm)
  have O1 := O0.ext E1
  have Z1 : n0 ≤ h1.size := Nat.le_trans Z0 E1.1
  have F2 : Arv Z h1 b1 k1 (.object "com/example/portunus/portunus/reachability/TerminationReason") (7 : Int32) [.null, .null, .null, .null, .null, .null, .null] .null := (Arv.new A1 (by decide)).pad (pad_rep [] .null 7)
  show Go p e below P (T1.setTop (mkF m 13 #[.val (.int p0), .val (.int i), .unset, .unset, .unset, .unset, .unset] [(.ref b1)]))
  refine Go.by (fun _ => XS.dup X1.here hx rfl (hb hby at_13) rfl rfl) ?_
  show Go p e below P (T1.setTop (mkF m 14 #[.val (.int p0), .val (.int i), .unset, .unset, .unset, .unset, .unset] [(.ref b1), (.ref b1)]))
  refine Go.by (fun _ => XS.iconst X1.here hx rfl (hb hby at_14)) ?_
  show Go p e below P (T1.setTop (mkF m 15 #[.val (.int p0), .val (.int i), .unset, .unset, .unset, .unset, .unset] [(.int (0 : Int32)), (.ref b1), (.ref b1)]))
  obtain ⟨T3, X3, e3, st3⟩ := getS2 X1 hx hZ hown (host := "") (Or.inl (hw _ (List.mem_of_getElem? (i := 3) rfl))) Via.refl e1 (G0.ext O1.2) (g := (mkF m 15 #[.val (.int p0), .val (.int i), .unset, .unset, .unset, .unset, .unset] [(.int (0 : Int32)), (.ref b1), (.ref b1)])) rfl (hb hby at_15)
  refine Go.by (fun _ => st3 _) ?_
  show Go p e below P (T3.setTop (mkF m 18 #[.val (.int p0), .val (.int i), .unset, .unset, .unset, .unset, .unset] [(.ref wMAX_EVENTS_REACHED), (.int (0 : Int32)), (.ref b1), (.ref b1)]))
  obtain ⟨cl4, Ar4, qc4, Sz4, Ng4, Hs4, Gf4⟩ := F2
  have hin4 : ¬ ((0 : Int32) < 0 ∨ cl4.slots.size ≤ ((0 : Int32)).toNatClampNeg) := inb_of Sz4 ⟨by decide, by decide⟩
  obtain ⟨T4, h4, X4, e4, W4, st4⟩ := stR X3 hx hZ e3 Ar4 (j := (0 : Int32)) hin4 rfl (Sto.ofV Ar4 qc4 Ov1 (Ins.self (G1.ext O1.2))) (g := (mkF m 18 #[.val (.int p0), .val (.int i), .unset, .unset, .unset, .unset, .unset] [(.ref wMAX_EVENTS_REACHED), (.int (0 : Int32)), (.ref b1), (.ref b1)])) rfl rfl (hb hby at_18)
  refine Go.by (fun _ => st4 _) ?_
  have O4 := O1.wr W4 g_b1
  have Z4 : n0 ≤ h4.size := Nat.le_trans Z1 (Keep.of_wr W4).1
  have F5 : Arv Z h4 b1 k1 (.object "com/example/portunus/portunus/reachability/TerminationReason") (7 : Int32) [(.ref wMAX_EVENTS_REACHED), .null, .null, .null, .null, .null, .null] .null := Arv.set Ar4 qc4 Sz4 Ng4 Hs4 Gf4 rfl W4 0 rfl (Nat.le_of_ble_eq_true rfl)
  have N4 := Fr.snoc X4 N0 g_b1
  show Go p e below P (T4.setTop (mkF m 19 #[.val (.int p0), .val (.int i), .unset, .unset, .unset, .unset, .unset] [(.ref b1)]))
  refine Go.by (fun _ => XS.dup X4.here hx rfl (hb hby at_19) rfl rfl) ?_
  show Go p e below P (T4.setTop (mkF m 20 #[.val (.int p0), .val (.int i), .unset, .unset, .unset, .unset, .unset] [(.ref b1), (.ref b1)]))
  refine Go.by (fun _ => XS.iconst X4.here hx rfl (hb hby at_20)) ?_
  show Go p e below P (T4.setTop (mkF m 21 #[.val (.int p0), .val (.int i), .unset, .unset, .unset, .unset, .unset] [(.int (1 : Int32)), (.ref b1), (.ref b1)]))
  obtain ⟨T6, X6, e6, st6⟩ := getS2 X4 hx hZ hown (host := "") (Or.inl (hw _ (List.mem_of_getElem? (i := 7) rfl))) Via.refl e4 (G2.ext O4.2) (g := (mkF m 21 #[.val (.int p0), .val (.int i), .unset, .unset, .unset, .unset, .unset] [(.int (1 : Int32)), (.ref b1), (.ref b1)])) rfl (hb hby at_21)
  refine Go.by (fun _ => st6 _) ?_
  show Go p e below P (T6.setTop (mkF m 24 #[.val (.int p0), .val (.int i), .unset, .unset, .unset, .unset, .unset] [(.ref wNETWORK_TERMINATED), (.int (1 : Int32)), (.ref b1), (.ref b1)]))
  obtain ⟨cl7, Ar7, qc7, Sz7, Ng7, Hs7, Gf7⟩ := F5
  have hin7 : ¬ ((1 : Int32) < 0 ∨ cl7.slots.size ≤ ((1 : Int32)).toNatClampNeg) := inb_of Sz7 ⟨by decide, by decide⟩
  obtain ⟨T7, h7, X7, e7, W7, st7⟩ := stR X6 hx hZ e6 Ar7 (j := (1 : Int32)) hin7 rfl (Sto.ofV Ar7 qc7 Ov1 (Ins.self (G3.ext O4.2))) (g := (mkF m 24 #[.val (.int p0), .val (.int i), .unset, .unset, .unset, .unset, .unset] [(.ref wNETWORK_TERMINATED), (.int (1 : Int32)), (.ref b1), (.ref b1)])) rfl rfl (hb hby at_24)
  refine Go.by (fun _ => st7 _) ?_
  have O7 := O4.wr W7 g_b1
  have Z7 : n0 ≤ h7.size := Nat.le_trans Z4 (Keep.of_wr W7).1
  have F8 : Arv Z h7 b1 k1 (.object "com/example/portunus/portunus/reachability/TerminationReason") (7 : Int32) [(.ref wMAX_EVENTS_REACHED), (.ref wNETWORK_TERMINATED), .null, .null, .null, .null, .null] .null := Arv.set Ar7 qc7 Sz7 Ng7 Hs7 Gf7 rfl W7 1 rfl (Nat.le_of_ble_eq_true rfl)
  have N7 := Fr.snoc X7 N4 g_b1
  show Go p e below P (T7.setTop (mkF m 25 #[.val (.int p0), .val (.int i), .unset, .unset, .unset, .unset, .unset] [(.ref b1)]))
  refine Go.by (fun _ => XS.dup X7.here hx rfl (hb hby at_25) rfl rfl) ?_
  show Go p e below P (T7.setTop (mkF m 26 #[.val (.int p0), .val (.int i), .unset, .unset, .unset, .unset, .unset] [(.ref b1), (.ref b1)]))
  refine Go.by (fun _ => XS.iconst X7.here hx rfl (hb hby at_26)) ?_
  show Go p e below P (T7.setTop (mkF m 27 #[.val (.int p0), .val (.int i), .unset, .unset, .unset, .unset, .unset] [(.int (2 : Int32)), (.ref b1), (.ref b1)]))
  obtain ⟨T9, X9, e9, st9⟩ := getS2 X7 hx hZ hown (host := "") (Or.inl (hw _ (List.mem_of_getElem? (i := 9) rfl))) Via.refl e7 (G4.ext O7.2) (g := (mkF m 27 #[.val (.int p0), .val (.int i), .unset, .unset, .unset, .unset, .unset] [(.int (2 : Int32)), (.ref b1), (.ref b1)])) rfl (hb hby at_27)
  refine Go.by (fun _ => st9 _) ?_
  show Go p e below P (T9.setTop (mkF m 30 #[.val (.int p0), .val (.int i), .unset, .unset, .unset, .unset, .unset] [(.ref wSUBSCRIPTION_EXPIRED), (.int (2 : Int32)), (.ref b1), (.ref b1)]))
  obtain ⟨cl10, Ar10, qc10, Sz10, Ng10, Hs10, Gf10⟩ := F8
  have hin10 : ¬ ((2 : Int32) < 0 ∨ cl10.slots.size ≤ ((2 : Int32)).toNatClampNeg) := inb_of Sz10 ⟨by decide, by decide⟩
  obtain ⟨T10, h10, X10, e10, W10, st10⟩ := stR X9 hx hZ e9 Ar10 (j := (2 : Int32)) hin10 rfl (Sto.ofV Ar10 qc10 Ov1 (Ins.self (G5.ext O7.2))) (g := (mkF m 30 #[.val (.int p0), .val (.int i), .unset, .unset, .unset, .unset, .unset] [(.ref wSUBSCRIPTION_EXPIRED), (.int (2 : Int32)), (.ref b1), (.ref b1)])) rfl rfl (hb hby at_30)
  refine Go.by (fun _ => st10 _) ?_
  have O10 := O7.wr W10 g_b1
  have Z10 : n0 ≤ h10.size := Nat.le_trans Z7 (Keep.of_wr W10).1
  have F11 : Arv Z h10 b1 k1 (.object "com/example/portunus/portunus/reachability/TerminationReason") (7 : Int32) [(.ref wMAX_EVENTS_REACHED), (.ref wNETWORK_TERMINATED), (.ref wSUBSCRIPTION_EXPIRED), .null, .null, .null, .null] .null := Arv.set Ar10 qc10 Sz10 Ng10 Hs10 Gf10 rfl W10 2 rfl (Nat.le_of_ble_eq_true rfl)
  have N10 := Fr.snoc X10 N7 g_b1
  show Go p e below P (T10.setTop (mkF m 31 #[.val (.int p0), .val (.int i), .unset, .unset, .unset, .unset, .unset] [(.ref b1)]))
  refine Go.by (fun _ => XS.dup X10.here hx rfl (hb hby at_31) rfl rfl) ?_
  show Go p e below P (T10.setTop (mkF m 32 #[.val (.int p0), .val (.int i), .unset, .unset, .unset, .unset, .unset] [(.ref b1), (.ref b1)]))
  refine Go.by (fun _ => XS.iconst X10.here hx rfl (hb hby at_32)) ?_
  show Go p e below P (T10.setTop (mkF m 33 #[.val (.int p0), .val (.int i), .unset, .unset, .unset, .unset, .unset] [(.int (3 : Int32)), (.ref b1), (.ref b1)]))
  obtain ⟨T12, X12, e12, st12⟩ := getS2 X10 hx hZ hown (host := "") (Or.inl (hw _ (List.mem_of_getElem? (i := 11) rfl))) Via.refl e10 (G6.ext O10.2) (g := (mkF m 33 #[.val (.int p0), .val (.int i), .unset, .unset, .unset, .unset, .unset] [(.int (3 : Int32)), (.ref b1), (.ref b1)])) rfl (hb hby at_33)
  refine Go.by (fun _ => st12 _) ?_
  show Go p e below P (T12.setTop (mkF m 36 #[.val (.int p0), .val (.int i), .unset, .unset, .unset, .unset, .unset] [(.ref wACCESS_TOKEN_EXPIRED), (.int (3 : Int32)), (.ref b1), (.ref b1)]))
  obtain ⟨cl13, Ar13, qc13, Sz13, Ng13, Hs13, Gf13⟩ := F11
  have hin13 : ¬ ((3 : Int32) < 0 ∨ cl13.slots.size ≤ ((3 : Int32)).toNatClampNeg) := inb_of Sz13 ⟨by decide, by decide⟩
  obtain ⟨T13, h13, X13, e13, W13, st13⟩ := stR X12 hx hZ e12 Ar13 (j := (3 : Int32)) hin13 rfl (Sto.ofV Ar13 qc13 Ov1 (Ins.self (G7.ext O10.2))) (g := (mkF m 36 #[.val (.int p0), .val (.int i), .unset, .unset, .unset, .unset, .unset] [(.ref wACCESS_TOKEN_EXPIRED), (.int (3 : Int32)), (.ref b1), (.ref b1)])) rfl rfl (hb hby at_36)
  refine Go.by (fun _ => st13 _) ?_
  have O13 := O10.wr W13 g_b1
  have Z13 : n0 ≤ h13.size := Nat.le_trans Z10 (Keep.of_wr W13).1
  have F14 : Arv Z h13 b1 k1 (.object "com/example/portunus/portunus/reachability/TerminationReason") (7 : Int32) [(.ref wMAX_EVENTS_REACHED), (.ref wNETWORK_TERMINATED), (.ref wSUBSCRIPTION_EXPIRED), (.ref wACCESS_TOKEN_EXPIRED), .null, .null, .null] .null := Arv.set Ar13 qc13 Sz13 Ng13 Hs13 Gf13 rfl W13 3 rfl (Nat.le_of_ble_eq_true rfl)
  have N13 := Fr.snoc X13 N10 g_b1
  show Go p e below P (T13.setTop (mkF m 37 #[.val (.int p0), .val (.int i), .unset, .unset, .unset, .unset, .unset] [(.ref b1)]))
  refine Go.by (fun _ => XS.dup X13.here hx rfl (hb hby at_37) rfl rfl) ?_
  show Go p e below P (T13.setTop (mkF m 38 #[.val (.int p0), .val (.int i), .unset, .unset, .unset, .unset, .unset] [(.ref b1), (.ref b1)]))
  refine Go.by (fun _ => XS.iconst X13.here hx rfl (hb hby at_38)) ?_
  show Go p e below P (T13.setTop (mkF m 39 #[.val (.int p0), .val (.int i), .unset, .unset, .unset, .unset, .unset] [(.int (4 : Int32)), (.ref b1), (.ref b1)]))
  obtain ⟨T15, X15, e15, st15⟩ := getS2 X13 hx hZ hown (host := "") (Or.inl (hw _ (List.mem_of_getElem? (i := 13) rfl))) Via.refl e13 (G8.ext O13.2) (g := (mkF m 39 #[.val (.int p0), .val (.int i), .unset, .unset, .unset, .unset, .unset] [(.int (4 : Int32)), (.ref b1), (.ref b1)])) rfl (hb hby at_39)
  refine Go.by (fun _ => st15 _) ?_
  show Go p e below P (T15.setTop (mkF m 42 #[.val (.int p0), .val (.int i), .unset, .unset, .unset, .unset, .unset] [(.ref wSUBSCRIPTION_DELETED), (.int (4 : Int32)), (.ref b1), (.ref b1)]))
  obtain ⟨cl16, Ar16, qc16, Sz16, Ng16, Hs16, Gf16⟩ := F14
  have hin16 : ¬ ((4 : Int32) < 0 ∨ cl16.slots.size ≤ ((4 : Int32)).toNatClampNeg) := inb_of Sz16 ⟨by decide, by decide⟩
  obtain ⟨T16, h16, X16, e16, W16, st16⟩ := stR X15 hx hZ e15 Ar16 (j := (4 : Int32)) hin16 rfl (Sto.ofV Ar16 qc16 Ov1 (Ins.self (G9.ext O13.2))) (g := (mkF m 42 #[.val (.int p0), .val (.int i), .unset, .unset, .unset, .unset, .unset] [(.ref wSUBSCRIPTION_DELETED), (.int (4 : Int32)), (.ref b1), (.ref b1)])) rfl rfl (hb hby at_42)
  refine Go.by (fun _ => st16 _) ?_
  have O16 := O13.wr W16 g_b1
  have Z16 : n0 ≤ h16.size := Nat.le_trans Z13 (Keep.of_wr W16).1
  have F17 : Arv Z h16 b1 k1 (.object "com/example/portunus/portunus/reachability/TerminationReason") (7 : Int32) [(.ref wMAX_EVENTS_REACHED), (.ref wNETWORK_TERMINATED), (.ref wSUBSCRIPTION_EXPIRED), (.ref wACCESS_TOKEN_EXPIRED), (.ref wSUBSCRIPTION_DELETED), .null, .null] .null := Arv.set Ar16 qc16 Sz16 Ng16 Hs16 Gf16 rfl W16 4 rfl (Nat.le_of_ble_eq_true rfl)
  have N16 := Fr.snoc X16 N13 g_b1
  show Go p e below P (T16.setTop (mkF m 43 #[.val (.int p0), .val (.int i), .unset, .unset, .unset, .unset, .unset] [(.ref b1)]))
  refine Go.by (fun _ => XS.dup X16.here hx rfl (hb hby at_43) rfl rfl) ?_
  show Go p e below P (T16.setTop (mkF m 44 #[.val (.int p0), .val (.int i), .unset, .unset, .unset, .unset, .unset] [(.ref b1), (.ref b1)]))
  refine Go.by (fun _ => XS.iconst X16.here hx rfl (hb hby at_44)) ?_
  show Go p e below P (T16.setTop (mkF m 45 #[.val (.int p0), .val (.int i), .unset, .unset, .unset, .unset, .unset] [(.int (5 : Int32)), (.ref b1), (.ref b1)]))
  obtain ⟨T18, X18, e18, st18⟩ := getS2 X16 hx hZ hown (host := "") (Or.inl (hw _ (List.mem_of_getElem? (i := 15) rfl))) Via.refl e16 (G10.ext O16.2) (g := (mkF m 45 #[.val (.int p0), .val (.int i), .unset, .unset, .unset, .unset, .unset] [(.int (5 : Int32)), (.ref b1), (.ref b1)])) rfl (hb hby at_45)
  refine Go.by (fun _ => st18 _) ?_
  show Go p e below P (T18.setTop (mkF m 48 #[.val (.int p0), .val (.int i), .unset, .unset, .unset, .unset, .unset] [(.ref wSINK_GONE), (.int (5 : Int32)), (.ref b1), (.ref b1)]))
  obtain ⟨cl19, Ar19, qc19, Sz19, Ng19, Hs19, Gf19⟩ := F17
  have hin19 : ¬ ((5 : Int32) < 0 ∨ cl19.slots.size ≤ ((5 : Int32)).toNatClampNeg) := inb_of Sz19 ⟨by decide, by decide⟩
  obtain ⟨T19, h19, X19, e19, W19, st19⟩ := stR X18 hx hZ e18 Ar19 (j := (5 : Int32)) hin19 rfl (Sto.ofV Ar19 qc19 Ov1 (Ins.self (G11.ext O16.2))) (g := (mkF m 48 #[.val (.int p0), .val (.int i), .unset, .unset, .unset, .unset, .unset] [(.ref wSINK_GONE), (.int (5 : Int32)), (.ref b1), (.ref b1)])) rfl rfl (hb hby at_48)
  refine Go.by (fun _ => st19 _) ?_
  have O19 := O16.wr W19 g_b1
  have Z19 : n0 ≤ h19.size := Nat.le_trans Z16 (Keep.of_wr W19).1
  have F20 : Arv Z h19 b1 k1 (.object "com/example/portunus/portunus/reachability/TerminationReason") (7 : Int32) [(.ref wMAX_EVENTS_REACHED), (.ref wNETWORK_TERMINATED), (.ref wSUBSCRIPTION_EXPIRED), (.ref wACCESS_TOKEN_EXPIRED), (.ref wSUBSCRIPTION_DELETED), (.ref wSINK_GONE), .null] .null := Arv.set Ar19 qc19 Sz19 Ng19 Hs19 Gf19 rfl W19 5 rfl (Nat.le_of_ble_eq_true rfl)
  have N19 := Fr.snoc X19 N16 g_b1
  show Go p e below P (T19.setTop (mkF m 49 #[.val (.int p0), .val (.int i), .unset, .unset, .unset, .unset, .unset] [(.ref b1)]))
  refine Go.by (fun _ => XS.dup X19.here hx rfl (hb hby at_49) rfl rfl) ?_
  show Go p e below P (T19.setTop (mkF m 50 #[.val (.int p0), .val (.int i), .unset, .unset, .unset, .unset, .unset] [(.ref b1), (.ref b1)]))
  refine Go.by (fun _ => XS.bipush X19.here hx rfl (hb hby at_50)) ?_
  show Go p e below P (T19.setTop (mkF m 52 #[.val (.int p0), .val (.int i), .unset, .unset, .unset, .unset, .unset] [(.int (6 : Int32)), (.ref b1), (.ref b1)]))
  obtain ⟨T21, X21, e21, st21⟩ := getS2 X19 hx hZ hown (host := "") (Or.inl (hw _ (List.mem_of_getElem? (i := 17) rfl))) Via.refl e19 (G12.ext O19.2) (g := (mkF m 52 #[.val (.int p0), .val (.int i), .unset, .unset, .unset, .unset, .unset] [(.int (6 : Int32)), (.ref b1), (.ref b1)])) rfl (hb hby at_52)
  refine Go.by (fun _ => st21 _) ?_
  show Go p e below P (T21.setTop (mkF m 55 #[.val (.int p0), .val (.int i), .unset, .unset, .unset, .unset, .unset] [(.ref wUNSENDABLE), (.int (6 : Int32)), (.ref b1), (.ref b1)]))
  obtain ⟨cl22, Ar22, qc22, Sz22, Ng22, Hs22, Gf22⟩ := F20
  have hin22 : ¬ ((6 : Int32) < 0 ∨ cl22.slots.size ≤ ((6 : Int32)).toNatClampNeg) := inb_of Sz22 ⟨by decide, by decide⟩
  obtain ⟨T22, h22, X22, e22, W22, st22⟩ := stR X21 hx hZ e21 Ar22 (j := (6 : Int32)) hin22 rfl (Sto.ofV Ar22 qc22 Ov1 (Ins.self (G13.ext O19.2))) (g := (mkF m 55 #[.val (.int p0), .val (.int i), .unset, .unset, .unset, .unset, .unset] [(.ref wUNSENDABLE), (.int (6 : Int32)), (.ref b1), (.ref b1)])) rfl rfl (hb hby at_55)
  refine Go.by (fun _ => st22 _) ?_
  have O22 := O19.wr W22 g_b1
  have Z22 : n0 ≤ h22.size := Nat.le_trans Z19 (Keep.of_wr W22).1
  have F23 : Arv Z h22 b1 k1 (.object "com/example/portunus/portunus/reachability/TerminationReason") (7 : Int32) [(.ref wMAX_EVENTS_REACHED), (.ref wNETWORK_TERMINATED), (.ref wSUBSCRIPTION_EXPIRED), (.ref wACCESS_TOKEN_EXPIRED), (.ref wSUBSCRIPTION_DELETED), (.ref wSINK_GONE), (.ref wUNSENDABLE)] .null := Arv.set Ar22 qc22 Sz22 Ng22 Hs22 Gf22 rfl W22 6 rfl (Nat.le_of_ble_eq_true rfl)
  have N22 := Fr.snoc X22 N19 g_b1
  show Go p e below P (T22.setTop (mkF m 56 #[.val (.int p0), .val (.int i), .unset, .unset, .unset, .unset, .unset] [(.ref b1)]))
  refine Go.by (fun _ => XS.astoreN X22.here hx rfl (hb hby at_56) rfl rfl (l' := #[.val (.int p0), .val (.int i), .val (.ref b1), .unset, .unset, .unset, .unset]) rfl) ?_
  show Go p e below P (T22.setTop (mkF m 57 #[.val (.int p0), .val (.int i), .val (.ref b1), .unset, .unset, .unset, .unset] []))
  have hi := own_lt7 i (hv_i ▸ own_mod7 p0)
  rcases hi with rfl | rfl | rfl | rfl | rfl | rfl | rfl
  · show Go p e below P (T22.setTop (mkF m 57 #[.val (.int p0), .val (.int (0 : Int32)), .val (.ref b1), .unset, .unset, .unset, .unset] []))
    refine Go.by (fun _ => XS.iloadN X22.here hx rfl (hb hby at_57) rfl) ?_
    show Go p e below P (T22.setTop (mkF m 58 #[.val (.int p0), .val (.int (0 : Int32)), .val (.ref b1), .unset, .unset, .unset, .unset] [(.int (0 : Int32))]))
    refine Go.by (fun _ => XS.iconst X22.here hx rfl (hb hby at_58)) ?_
    show Go p e below P (T22.setTop (mkF m 59 #[.val (.int p0), .val (.int (0 : Int32)), .val (.ref b1), .unset, .unset, .unset, .unset] [(.int (5 : Int32)), (.int (0 : Int32))]))
    have hc59 : (0 : Int32) < (5 : Int32) := by decide
    refine Go.by (fun _ => XS.icmpNo X22.here hx rfl (hb hby at_59) rfl (tlt hc59).2.1) ?_
    show Go p e below P (T22.setTop (mkF m 62 #[.val (.int p0), .val (.int (0 : Int32)), .val (.ref b1), .unset, .unset, .unset, .unset] []))
    refine Go.by (fun _ => XS.iconst X22.here hx rfl (hb hby at_62)) ?_
    show Go p e below P (T22.setTop (mkF m 63 #[.val (.int p0), .val (.int (0 : Int32)), .val (.ref b1), .unset, .unset, .unset, .unset] [(.int (1 : Int32))]))
    refine Go.by (fun _ => XS.goto X22.here hx rfl (pc0 := 63) (pc' := 67) rfl (hb hby at_63) (by decide) (by decide)) ?_
    show Go p e below P (T22.setTop (mkF m 67 #[.val (.int p0), .val (.int (0 : Int32)), .val (.ref b1), .unset, .unset, .unset, .unset] [(.int (1 : Int32))]))
    refine Go.by (fun _ => XS.istoreN X22.here hx rfl (hb hby at_67) rfl (l' := #[.val (.int p0), .val (.int (0 : Int32)), .val (.ref b1), .val (.int (1 : Int32)), .unset, .unset, .unset]) rfl) ?_
    show Go p e below P (T22.setTop (mkF m 68 #[.val (.int p0), .val (.int (0 : Int32)), .val (.ref b1), .val (.int (1 : Int32)), .unset, .unset, .unset] []))
    refine Go.by (fun _ => XS.aloadN X22.here hx rfl (hb hby at_68) rfl rfl) ?_
    show Go p e below P (T22.setTop (mkF m 69 #[.val (.int p0), .val (.int (0 : Int32)), .val (.ref b1), .val (.int (1 : Int32)), .unset, .unset, .unset] [(.ref b1)]))
    refine Go.by (fun _ => XS.iloadN X22.here hx rfl (hb hby at_69) rfl) ?_
    show Go p e below P (T22.setTop (mkF m 70 #[.val (.int p0), .val (.int (0 : Int32)), .val (.ref b1), .val (.int (1 : Int32)), .unset, .unset, .unset] [(.int (0 : Int32)), (.ref b1)]))
    obtain ⟨cl24, Ar24, qc24, Sz24, Ng24, Hs24, Gf24⟩ := F23
    have hin24 : ¬ ((0 : Int32) < 0 ∨ cl24.slots.size ≤ ((0 : Int32)).toNatClampNeg) := inb_of Sz24 ⟨by decide, by decide⟩
    refine Go.by (fun _ => X22.aaload hx (j := (0 : Int32)) (v := (.ref wMAX_EVENTS_REACHED)) (by rw [e22]; exact Ar24.1) (State.isArrayOf_alike hZ.alike Ar24.2.1) rfl Ar24.2.2 hin24 (Has.at Hs24 hin24 rfl) (g := (mkF m 70 #[.val (.int p0), .val (.int (0 : Int32)), .val (.ref b1), .val (.int (1 : Int32)), .unset, .unset, .unset] [(.int (0 : Int32)), (.ref b1)])) rfl rfl (hb hby at_70) _) ?_
    show Go p e below P (T22.setTop (mkF m 71 #[.val (.int p0), .val (.int (0 : Int32)), .val (.ref b1), .val (.int (1 : Int32)), .unset, .unset, .unset] [(.ref wMAX_EVENTS_REACHED)]))
    refine Go.by (fun _ => XS.astore X22.here hx rfl (hb hby at_71) rfl rfl (l' := #[.val (.int p0), .val (.int (0 : Int32)), .val (.ref b1), .val (.int (1 : Int32)), .val (.ref wMAX_EVENTS_REACHED), .unset, .unset]) rfl) ?_
    show Go p e below P (T22.setTop (mkF m 73 #[.val (.int p0), .val (.int (0 : Int32)), .val (.ref b1), .val (.int (1 : Int32)), .val (.ref wMAX_EVENTS_REACHED), .unset, .unset] []))
    refine Go.by (fun _ => XS.aload X22.here hx rfl (hb hby at_73) rfl rfl) ?_
    show Go p e below P (T22.setTop (mkF m 75 #[.val (.int p0), .val (.int (0 : Int32)), .val (.ref b1), .val (.int (1 : Int32)), .val (.ref wMAX_EVENTS_REACHED), .unset, .unset] [(.ref wMAX_EVENTS_REACHED)]))
    obtain ⟨cq25, kq25, qa25, qb25, qc25⟩ := isOf hZ e22 (G1.ext O22.2)
    obtain ⟨_, _, ⟨T25, L25, k25, n25⟩, -, X25, ⟨Lc25, hQ25, l25, y25, z25⟩, st25⟩ := X22.virtualBack hx (y := (⟨"com/example/portunus/portunus/reachability/TerminationReason", "isAnnounced", "()Z"⟩ : MethodName)) (z := (⟨"com/example/portunus/portunus/reachability/TerminationReason", "isAnnounced", "()Z"⟩ : MethodName)) hown (mvT hZ (hw _ (List.mem_of_getElem? (i := 19) rfl))) (mvT hZ (hw _ (List.mem_of_getElem? (i := 20) rfl))) (notFace_of_selects (args := #[]) (mvT hZ (hw _ (List.mem_of_getElem? (i := 22) rfl)))) (mvT hZ (hw _ (List.mem_of_getElem? (i := 22) rfl))) (mvT hZ (hw _ (List.mem_of_getElem? (i := 21) rfl))) (by decide) (backOf (W := 0) (rm_ann0 l Z a0 hw [] wMAX_EVENTS_REACHED wNETWORK_TERMINATED wSUBSCRIPTION_EXPIRED wACCESS_TOKEN_EXPIRED wSUBSCRIPTION_DELETED wSINK_GONE wUNSENDABLE d_MAX_EVENTS_REACHED_description d_ACCESS_TOKEN_EXPIRED_description d_SUBSCRIPTION_DELETED_description d_SUBSCRIPTION_EXPIRED_description d_NETWORK_TERMINATED_description hG wMAX_EVENTS_REACHED d_MAX_EVENTS_REACHED_description h22 n0 Z22 O22 (G14.ext O22.2) ) hZ (hw _ (List.mem_of_getElem? (i := 23) rfl)) (hw _ (List.mem_of_getElem? (i := 4) rfl)) (Nat.le_of_ble_eq_true rfl) (Nat.le_of_ble_eq_true rfl)) qa25 qc25 (g := (mkF m 75 #[.val (.int p0), .val (.int (0 : Int32)), .val (.ref b1), .val (.int (1 : Int32)), .val (.ref wMAX_EVENTS_REACHED), .unset, .unset] [(.ref wMAX_EVENTS_REACHED)])) rfl (by rw [hml]; rfl) (Steps.refl _) (argsL := []) (rest := []) (lenOf pd_0 rfl) rfl (by show 2 * 0 + _ ≤ _; exact Nat.le_of_eq rfl) (hb hby at_75) (fun _ _ => ⟨rfl, e22, (Nat.le_of_ble_eq_true rfl : 1 + 0 ≤ _), (Nat.le_of_ble_eq_true rfl : 7 + 0 ≤ _)⟩)
    dsimp only [Pt.U, Pt.locs, Pt.cells, Pt.slots] at X25 l25 y25 z25 st25 hQ25
    subst l25 y25 z25
    obtain ⟨rfl, Nq25, eq25⟩ := hQ25
    have N25 := Fr.app N22 Nq25
    refine Go.by (fun _ k => st25.trans k) ?_
    show Go p e below P (T25.setTop (mkF m 78 #[.val (.int p0), .val (.int (0 : Int32)), .val (.ref b1), .val (.int (1 : Int32)), .val (.ref wMAX_EVENTS_REACHED), .unset, .unset] [(.int (1 : Int32))]))
    refine Go.by (fun _ => XS.istore X25.here hx rfl (hb hby at_78) rfl (l' := #[.val (.int p0), .val (.int (0 : Int32)), .val (.ref b1), .val (.int (1 : Int32)), .val (.ref wMAX_EVENTS_REACHED), .val (.int (1 : Int32)), .unset]) rfl) ?_
    show Go p e below P (T25.setTop (mkF m 80 #[.val (.int p0), .val (.int (0 : Int32)), .val (.ref b1), .val (.int (1 : Int32)), .val (.ref wMAX_EVENTS_REACHED), .val (.int (1 : Int32)), .unset] []))
    refine Go.by (fun _ => XS.aload X25.here hx rfl (hb hby at_80) rfl rfl) ?_
    show Go p e below P (T25.setTop (mkF m 82 #[.val (.int p0), .val (.int (0 : Int32)), .val (.ref b1), .val (.int (1 : Int32)), .val (.ref wMAX_EVENTS_REACHED), .val (.int (1 : Int32)), .unset] [(.ref wMAX_EVENTS_REACHED)]))
    obtain ⟨cq26, kq26, qa26, qb26, qc26⟩ := isOf hZ eq25 (G1.ext O22.2)
    obtain ⟨_, _, ⟨T26, L26, k26, n26⟩, -, X26, ⟨Lc26, hQ26, l26, y26, z26⟩, st26⟩ := X25.virtualBack hx (y := (⟨"com/example/portunus/portunus/reachability/TerminationReason", "description", "()Ljava/lang/String;"⟩ : MethodName)) (z := (⟨"com/example/portunus/portunus/reachability/TerminationReason", "description", "()Ljava/lang/String;"⟩ : MethodName)) hown (mvT hZ (hw _ (List.mem_of_getElem? (i := 26) rfl))) (mvT hZ (hw _ (List.mem_of_getElem? (i := 27) rfl))) (notFace_of_selects (args := #[]) (mvT hZ (hw _ (List.mem_of_getElem? (i := 29) rfl)))) (mvT hZ (hw _ (List.mem_of_getElem? (i := 29) rfl))) (mvT hZ (hw _ (List.mem_of_getElem? (i := 28) rfl))) (by decide) (backOf (W := 0) (rm_des0 l Z a0 hw [] wMAX_EVENTS_REACHED wNETWORK_TERMINATED wSUBSCRIPTION_EXPIRED wACCESS_TOKEN_EXPIRED wSUBSCRIPTION_DELETED wSINK_GONE wUNSENDABLE d_MAX_EVENTS_REACHED_description d_ACCESS_TOKEN_EXPIRED_description d_SUBSCRIPTION_DELETED_description d_SUBSCRIPTION_EXPIRED_description d_NETWORK_TERMINATED_description hG wMAX_EVENTS_REACHED d_MAX_EVENTS_REACHED_description h22 n0 Z22 O22 (G14.ext O22.2) ) hZ (hw _ (List.mem_of_getElem? (i := 30) rfl)) (hw _ (List.mem_of_getElem? (i := 4) rfl)) (Nat.le_of_ble_eq_true rfl) (Nat.le_of_ble_eq_true rfl)) qa26 qc26 (g := (mkF m 82 #[.val (.int p0), .val (.int (0 : Int32)), .val (.ref b1), .val (.int (1 : Int32)), .val (.ref wMAX_EVENTS_REACHED), .val (.int (1 : Int32)), .unset] [(.ref wMAX_EVENTS_REACHED)])) rfl (by rw [hml]; rfl) (Steps.refl _) (argsL := []) (rest := []) (lenOf pd_1 rfl) rfl (by show 2 * 0 + _ ≤ _; exact Nat.le_of_eq rfl) (hb hby at_82) (fun _ _ => ⟨rfl, eq25, (Nat.le_of_ble_eq_true rfl : 1 + 0 ≤ _), (Nat.le_of_ble_eq_true rfl : 7 + 0 ≤ _)⟩)
    dsimp only [Pt.U, Pt.locs, Pt.cells, Pt.slots] at X26 l26 y26 z26 st26 hQ26
    subst l26 y26 z26
    obtain ⟨rfl, Nq26, eq26⟩ := hQ26
    have N26 := Fr.app N25 Nq26
    refine Go.by (fun _ k => st26.trans k) ?_
    show Go p e below P (T26.setTop (mkF m 85 #[.val (.int p0), .val (.int (0 : Int32)), .val (.ref b1), .val (.int (1 : Int32)), .val (.ref wMAX_EVENTS_REACHED), .val (.int (1 : Int32)), .unset] [(.ref d_MAX_EVENTS_REACHED_description)]))
    refine Go.by (fun _ => XS.ifnullNo X26.here hx rfl (hb hby at_85) rfl) ?_
    show Go p e below P (T26.setTop (mkF m 88 #[.val (.int p0), .val (.int (0 : Int32)), .val (.ref b1), .val (.int (1 : Int32)), .val (.ref wMAX_EVENTS_REACHED), .val (.int (1 : Int32)), .unset] []))
    refine Go.by (fun _ => XS.iconst X26.here hx rfl (hb hby at_88)) ?_
    show Go p e below P (T26.setTop (mkF m 89 #[.val (.int p0), .val (.int (0 : Int32)), .val (.ref b1), .val (.int (1 : Int32)), .val (.ref wMAX_EVENTS_REACHED), .val (.int (1 : Int32)), .unset] [(.int (1 : Int32))]))
    refine Go.by (fun _ => XS.goto X26.here hx rfl (pc0 := 89) (pc' := 93) rfl (hb hby at_89) (by decide) (by decide)) ?_
    show Go p e below P (T26.setTop (mkF m 93 #[.val (.int p0), .val (.int (0 : Int32)), .val (.ref b1), .val (.int (1 : Int32)), .val (.ref wMAX_EVENTS_REACHED), .val (.int (1 : Int32)), .unset] [(.int (1 : Int32))]))
    refine Go.by (fun _ => XS.istore X26.here hx rfl (hb hby at_93) rfl (l' := #[.val (.int p0), .val (.int (0 : Int32)), .val (.ref b1), .val (.int (1 : Int32)), .val (.ref wMAX_EVENTS_REACHED), .val (.int (1 : Int32)), .val (.int (1 : Int32))]) rfl) ?_
    show Go p e below P (T26.setTop (mkF m 95 #[.val (.int p0), .val (.int (0 : Int32)), .val (.ref b1), .val (.int (1 : Int32)), .val (.ref wMAX_EVENTS_REACHED), .val (.int (1 : Int32)), .val (.int (1 : Int32))] []))
    refine Go.by (fun _ => XS.iload X26.here hx rfl (hb hby at_95) rfl) ?_
    show Go p e below P (T26.setTop (mkF m 97 #[.val (.int p0), .val (.int (0 : Int32)), .val (.ref b1), .val (.int (1 : Int32)), .val (.ref wMAX_EVENTS_REACHED), .val (.int (1 : Int32)), .val (.int (1 : Int32))] [(.int (1 : Int32))]))
    refine Go.by (fun _ => XS.iloadN X26.here hx rfl (hb hby at_97) rfl) ?_
    show Go p e below P (T26.setTop (mkF m 98 #[.val (.int p0), .val (.int (0 : Int32)), .val (.ref b1), .val (.int (1 : Int32)), .val (.ref wMAX_EVENTS_REACHED), .val (.int (1 : Int32)), .val (.int (1 : Int32))] [(.int (1 : Int32)), (.int (1 : Int32))]))
    have hc98 : (1 : Int32) = (1 : Int32) := by decide
    refine Go.by (fun _ => XS.icmpNo X26.here hx rfl (hb hby at_98) rfl (teq hc98).2) ?_
    show Go p e below P (T26.setTop (mkF m 101 #[.val (.int p0), .val (.int (0 : Int32)), .val (.ref b1), .val (.int (1 : Int32)), .val (.ref wMAX_EVENTS_REACHED), .val (.int (1 : Int32)), .val (.int (1 : Int32))] []))
    refine Go.by (fun _ => XS.iload X26.here hx rfl (hb hby at_101) rfl) ?_
    show Go p e below P (T26.setTop (mkF m 103 #[.val (.int p0), .val (.int (0 : Int32)), .val (.ref b1), .val (.int (1 : Int32)), .val (.ref wMAX_EVENTS_REACHED), .val (.int (1 : Int32)), .val (.int (1 : Int32))] [(.int (1 : Int32))]))
    refine Go.by (fun _ => XS.iload X26.here hx rfl (hb hby at_103) rfl) ?_
    show Go p e below P (T26.setTop (mkF m 105 #[.val (.int p0), .val (.int (0 : Int32)), .val (.ref b1), .val (.int (1 : Int32)), .val (.ref wMAX_EVENTS_REACHED), .val (.int (1 : Int32)), .val (.int (1 : Int32))] [(.int (1 : Int32)), (.int (1 : Int32))]))
    have hc105 : (1 : Int32) = (1 : Int32) := by decide
    refine Go.by (fun _ => XS.icmpNo X26.here hx rfl (hb hby at_105) rfl (teq hc105).2) ?_
    show Go p e below P (T26.setTop (mkF m 108 #[.val (.int p0), .val (.int (0 : Int32)), .val (.ref b1), .val (.int (1 : Int32)), .val (.ref wMAX_EVENTS_REACHED), .val (.int (1 : Int32)), .val (.int (1 : Int32))] []))
    refine Go.by (fun _ => XS.iconst X26.here hx rfl (hb hby at_108)) ?_
    show Go p e below P (T26.setTop (mkF m 109 #[.val (.int p0), .val (.int (0 : Int32)), .val (.ref b1), .val (.int (1 : Int32)), .val (.ref wMAX_EVENTS_REACHED), .val (.int (1 : Int32)), .val (.int (1 : Int32))] [(.int (1 : Int32))]))
    refine Go.by (fun _ => XS.goto X26.here hx rfl (pc0 := 109) (pc' := 113) rfl (hb hby at_109) (by decide) (by decide)) ?_
    show Go p e below P (T26.setTop (mkF m 113 #[.val (.int p0), .val (.int (0 : Int32)), .val (.ref b1), .val (.int (1 : Int32)), .val (.ref wMAX_EVENTS_REACHED), .val (.int (1 : Int32)), .val (.int (1 : Int32))] [(.int (1 : Int32))]))
    subst hP
    refine Go.retZ X26 hx (t := .boolean) Bd.returns (by simp) hlk (hb hby at_113) (Nat.le_of_ble_eq_true rfl) (Nat.le_of_ble_eq_true rfl) ?_
    rw [eq26]
    exact ⟨rfl, N26⟩
  · show Go p e below P (T22.setTop (mkF m 57 #[.val (.int p0), .val (.int (1 : Int32)), .val (.ref b1), .unset, .unset, .unset, .unset] []))
    refine Go.by (fun _ => XS.iloadN X22.here hx rfl (hb hby at_57) rfl) ?_
    show Go p e below P (T22.setTop (mkF m 58 #[.val (.int p0), .val (.int (1 : Int32)), .val (.ref b1), .unset, .unset, .unset, .unset] [(.int (1 : Int32))]))
    refine Go.by (fun _ => XS.iconst X22.here hx rfl (hb hby at_58)) ?_
    show Go p e below P (T22.setTop (mkF m 59 #[.val (.int p0), .val (.int (1 : Int32)), .val (.ref b1), .unset, .unset, .unset, .unset] [(.int (5 : Int32)), (.int (1 : Int32))]))
    have hc59 : (1 : Int32) < (5 : Int32) := by decide
    refine Go.by (fun _ => XS.icmpNo X22.here hx rfl (hb hby at_59) rfl (tlt hc59).2.1) ?_
    show Go p e below P (T22.setTop (mkF m 62 #[.val (.int p0), .val (.int (1 : Int32)), .val (.ref b1), .unset, .unset, .unset, .unset] []))
    refine Go.by (fun _ => XS.iconst X22.here hx rfl (hb hby at_62)) ?_
    show Go p e below P (T22.setTop (mkF m 63 #[.val (.int p0), .val (.int (1 : Int32)), .val (.ref b1), .unset, .unset, .unset, .unset] [(.int (1 : Int32))]))
    refine Go.by (fun _ => XS.goto X22.here hx rfl (pc0 := 63) (pc' := 67) rfl (hb hby at_63) (by decide) (by decide)) ?_
    show Go p e below P (T22.setTop (mkF m 67 #[.val (.int p0), .val (.int (1 : Int32)), .val (.ref b1), .unset, .unset, .unset, .unset] [(.int (1 : Int32))]))
    refine Go.by (fun _ => XS.istoreN X22.here hx rfl (hb hby at_67) rfl (l' := #[.val (.int p0), .val (.int (1 : Int32)), .val (.ref b1), .val (.int (1 : Int32)), .unset, .unset, .unset]) rfl) ?_
    show Go p e below P (T22.setTop (mkF m 68 #[.val (.int p0), .val (.int (1 : Int32)), .val (.ref b1), .val (.int (1 : Int32)), .unset, .unset, .unset] []))
    refine Go.by (fun _ => XS.aloadN X22.here hx rfl (hb hby at_68) rfl rfl) ?_
    show Go p e below P (T22.setTop (mkF m 69 #[.val (.int p0), .val (.int (1 : Int32)), .val (.ref b1), .val (.int (1 : Int32)), .unset, .unset, .unset] [(.ref b1)]))
    refine Go.by (fun _ => XS.iloadN X22.here hx rfl (hb hby at_69) rfl) ?_
    show Go p e below P (T22.setTop (mkF m 70 #[.val (.int p0), .val (.int (1 : Int32)), .val (.ref b1), .val (.int (1 : Int32)), .unset, .unset, .unset] [(.int (1 : Int32)), (.ref b1)]))
    obtain ⟨cl27, Ar27, qc27, Sz27, Ng27, Hs27, Gf27⟩ := F23
    have hin27 : ¬ ((1 : Int32) < 0 ∨ cl27.slots.size ≤ ((1 : Int32)).toNatClampNeg) := inb_of Sz27 ⟨by decide, by decide⟩
    refine Go.by (fun _ => X22.aaload hx (j := (1 : Int32)) (v := (.ref wNETWORK_TERMINATED)) (by rw [e22]; exact Ar27.1) (State.isArrayOf_alike hZ.alike Ar27.2.1) rfl Ar27.2.2 hin27 (Has.at Hs27 hin27 rfl) (g := (mkF m 70 #[.val (.int p0), .val (.int (1 : Int32)), .val (.ref b1), .val (.int (1 : Int32)), .unset, .unset, .unset] [(.int (1 : Int32)), (.ref b1)])) rfl rfl (hb hby at_70) _) ?_
    show Go p e below P (T22.setTop (mkF m 71 #[.val (.int p0), .val (.int (1 : Int32)), .val (.ref b1), .val (.int (1 : Int32)), .unset, .unset, .unset] [(.ref wNETWORK_TERMINATED)]))
    refine Go.by (fun _ => XS.astore X22.here hx rfl (hb hby at_71) rfl rfl (l' := #[.val (.int p0), .val (.int (1 : Int32)), .val (.ref b1), .val (.int (1 : Int32)), .val (.ref wNETWORK_TERMINATED), .unset, .unset]) rfl) ?_
    show Go p e below P (T22.setTop (mkF m 73 #[.val (.int p0), .val (.int (1 : Int32)), .val (.ref b1), .val (.int (1 : Int32)), .val (.ref wNETWORK_TERMINATED), .unset, .unset] []))
    refine Go.by (fun _ => XS.aload X22.here hx rfl (hb hby at_73) rfl rfl) ?_
    show Go p e below P (T22.setTop (mkF m 75 #[.val (.int p0), .val (.int (1 : Int32)), .val (.ref b1), .val (.int (1 : Int32)), .val (.ref wNETWORK_TERMINATED), .unset, .unset] [(.ref wNETWORK_TERMINATED)]))
    obtain ⟨cq28, kq28, qa28, qb28, qc28⟩ := isOf hZ e22 (G3.ext O22.2)
    obtain ⟨_, _, ⟨T28, L28, k28, n28⟩, -, X28, ⟨Lc28, hQ28, l28, y28, z28⟩, st28⟩ := X22.virtualBack hx (y := (⟨"com/example/portunus/portunus/reachability/TerminationReason", "isAnnounced", "()Z"⟩ : MethodName)) (z := (⟨"com/example/portunus/portunus/reachability/TerminationReason", "isAnnounced", "()Z"⟩ : MethodName)) hown (mvT hZ (hw _ (List.mem_of_getElem? (i := 19) rfl))) (mvT hZ (hw _ (List.mem_of_getElem? (i := 20) rfl))) (notFace_of_selects (args := #[]) (mvT hZ (hw _ (List.mem_of_getElem? (i := 22) rfl)))) (mvT hZ (hw _ (List.mem_of_getElem? (i := 22) rfl))) (mvT hZ (hw _ (List.mem_of_getElem? (i := 21) rfl))) (by decide) (backOf (W := 0) (rm_ann0 l Z a0 hw [] wMAX_EVENTS_REACHED wNETWORK_TERMINATED wSUBSCRIPTION_EXPIRED wACCESS_TOKEN_EXPIRED wSUBSCRIPTION_DELETED wSINK_GONE wUNSENDABLE d_MAX_EVENTS_REACHED_description d_ACCESS_TOKEN_EXPIRED_description d_SUBSCRIPTION_DELETED_description d_SUBSCRIPTION_EXPIRED_description d_NETWORK_TERMINATED_description hG wNETWORK_TERMINATED d_NETWORK_TERMINATED_description h22 n0 Z22 O22 (G24.ext O22.2) ) hZ (hw _ (List.mem_of_getElem? (i := 23) rfl)) (hw _ (List.mem_of_getElem? (i := 4) rfl)) (Nat.le_of_ble_eq_true rfl) (Nat.le_of_ble_eq_true rfl)) qa28 qc28 (g := (mkF m 75 #[.val (.int p0), .val (.int (1 : Int32)), .val (.ref b1), .val (.int (1 : Int32)), .val (.ref wNETWORK_TERMINATED), .unset, .unset] [(.ref wNETWORK_TERMINATED)])) rfl (by rw [hml]; rfl) (Steps.refl _) (argsL := []) (rest := []) (lenOf pd_0 rfl) rfl (by show 2 * 0 + _ ≤ _; exact Nat.le_of_eq rfl) (hb hby at_75) (fun _ _ => ⟨rfl, e22, (Nat.le_of_ble_eq_true rfl : 1 + 0 ≤ _), (Nat.le_of_ble_eq_true rfl : 7 + 0 ≤ _)⟩)
    dsimp only [Pt.U, Pt.locs, Pt.cells, Pt.slots] at X28 l28 y28 z28 st28 hQ28
    subst l28 y28 z28
    obtain ⟨rfl, Nq28, eq28⟩ := hQ28
    have N28 := Fr.app N22 Nq28
    refine Go.by (fun _ k => st28.trans k) ?_
    show Go p e below P (T28.setTop (mkF m 78 #[.val (.int p0), .val (.int (1 : Int32)), .val (.ref b1), .val (.int (1 : Int32)), .val (.ref wNETWORK_TERMINATED), .unset, .unset] [(.int (1 : Int32))]))
    refine Go.by (fun _ => XS.istore X28.here hx rfl (hb hby at_78) rfl (l' := #[.val (.int p0), .val (.int (1 : Int32)), .val (.ref b1), .val (.int (1 : Int32)), .val (.ref wNETWORK_TERMINATED), .val (.int (1 : Int32)), .unset]) rfl) ?_
    show Go p e below P (T28.setTop (mkF m 80 #[.val (.int p0), .val (.int (1 : Int32)), .val (.ref b1), .val (.int (1 : Int32)), .val (.ref wNETWORK_TERMINATED), .val (.int (1 : Int32)), .unset] []))
    refine Go.by (fun _ => XS.aload X28.here hx rfl (hb hby at_80) rfl rfl) ?_
    show Go p e below P (T28.setTop (mkF m 82 #[.val (.int p0), .val (.int (1 : Int32)), .val (.ref b1), .val (.int (1 : Int32)), .val (.ref wNETWORK_TERMINATED), .val (.int (1 : Int32)), .unset] [(.ref wNETWORK_TERMINATED)]))
    obtain ⟨cq29, kq29, qa29, qb29, qc29⟩ := isOf hZ eq28 (G3.ext O22.2)
    obtain ⟨_, _, ⟨T29, L29, k29, n29⟩, -, X29, ⟨Lc29, hQ29, l29, y29, z29⟩, st29⟩ := X28.virtualBack hx (y := (⟨"com/example/portunus/portunus/reachability/TerminationReason", "description", "()Ljava/lang/String;"⟩ : MethodName)) (z := (⟨"com/example/portunus/portunus/reachability/TerminationReason", "description", "()Ljava/lang/String;"⟩ : MethodName)) hown (mvT hZ (hw _ (List.mem_of_getElem? (i := 26) rfl))) (mvT hZ (hw _ (List.mem_of_getElem? (i := 27) rfl))) (notFace_of_selects (args := #[]) (mvT hZ (hw _ (List.mem_of_getElem? (i := 29) rfl)))) (mvT hZ (hw _ (List.mem_of_getElem? (i := 29) rfl))) (mvT hZ (hw _ (List.mem_of_getElem? (i := 28) rfl))) (by decide) (backOf (W := 0) (rm_des0 l Z a0 hw [] wMAX_EVENTS_REACHED wNETWORK_TERMINATED wSUBSCRIPTION_EXPIRED wACCESS_TOKEN_EXPIRED wSUBSCRIPTION_DELETED wSINK_GONE wUNSENDABLE d_MAX_EVENTS_REACHED_description d_ACCESS_TOKEN_EXPIRED_description d_SUBSCRIPTION_DELETED_description d_SUBSCRIPTION_EXPIRED_description d_NETWORK_TERMINATED_description hG wNETWORK_TERMINATED d_NETWORK_TERMINATED_description h22 n0 Z22 O22 (G24.ext O22.2) ) hZ (hw _ (List.mem_of_getElem? (i := 30) rfl)) (hw _ (List.mem_of_getElem? (i := 4) rfl)) (Nat.le_of_ble_eq_true rfl) (Nat.le_of_ble_eq_true rfl)) qa29 qc29 (g := (mkF m 82 #[.val (.int p0), .val (.int (1 : Int32)), .val (.ref b1), .val (.int (1 : Int32)), .val (.ref wNETWORK_TERMINATED), .val (.int (1 : Int32)), .unset] [(.ref wNETWORK_TERMINATED)])) rfl (by rw [hml]; rfl) (Steps.refl _) (argsL := []) (rest := []) (lenOf pd_1 rfl) rfl (by show 2 * 0 + _ ≤ _; exact Nat.le_of_eq rfl) (hb hby at_82) (fun _ _ => ⟨rfl, eq28, (Nat.le_of_ble_eq_true rfl : 1 + 0 ≤ _), (Nat.le_of_ble_eq_true rfl : 7 + 0 ≤ _)⟩)
    dsimp only [Pt.U, Pt.locs, Pt.cells, Pt.slots] at X29 l29 y29 z29 st29 hQ29
    subst l29 y29 z29
    obtain ⟨rfl, Nq29, eq29⟩ := hQ29
    have N29 := Fr.app N28 Nq29
    refine Go.by (fun _ k => st29.trans k) ?_
    show Go p e below P (T29.setTop (mkF m 85 #[.val (.int p0), .val (.int (1 : Int32)), .val (.ref b1), .val (.int (1 : Int32)), .val (.ref wNETWORK_TERMINATED), .val (.int (1 : Int32)), .unset] [(.ref d_NETWORK_TERMINATED_description)]))
    refine Go.by (fun _ => XS.ifnullNo X29.here hx rfl (hb hby at_85) rfl) ?_
    show Go p e below P (T29.setTop (mkF m 88 #[.val (.int p0), .val (.int (1 : Int32)), .val (.ref b1), .val (.int (1 : Int32)), .val (.ref wNETWORK_TERMINATED), .val (.int (1 : Int32)), .unset] []))
    refine Go.by (fun _ => XS.iconst X29.here hx rfl (hb hby at_88)) ?_
    show Go p e below P (T29.setTop (mkF m 89 #[.val (.int p0), .val (.int (1 : Int32)), .val (.ref b1), .val (.int (1 : Int32)), .val (.ref wNETWORK_TERMINATED), .val (.int (1 : Int32)), .unset] [(.int (1 : Int32))]))
    refine Go.by (fun _ => XS.goto X29.here hx rfl (pc0 := 89) (pc' := 93) rfl (hb hby at_89) (by decide) (by decide)) ?_
    show Go p e below P (T29.setTop (mkF m 93 #[.val (.int p0), .val (.int (1 : Int32)), .val (.ref b1), .val (.int (1 : Int32)), .val (.ref wNETWORK_TERMINATED), .val (.int (1 : Int32)), .unset] [(.int (1 : Int32))]))
    refine Go.by (fun _ => XS.istore X29.here hx rfl (hb hby at_93) rfl (l' := #[.val (.int p0), .val (.int (1 : Int32)), .val (.ref b1), .val (.int (1 : Int32)), .val (.ref wNETWORK_TERMINATED), .val (.int (1 : Int32)), .val (.int (1 : Int32))]) rfl) ?_
    show Go p e below P (T29.setTop (mkF m 95 #[.val (.int p0), .val (.int (1 : Int32)), .val (.ref b1), .val (.int (1 : Int32)), .val (.ref wNETWORK_TERMINATED), .val (.int (1 : Int32)), .val (.int (1 : Int32))] []))
    refine Go.by (fun _ => XS.iload X29.here hx rfl (hb hby at_95) rfl) ?_
    show Go p e below P (T29.setTop (mkF m 97 #[.val (.int p0), .val (.int (1 : Int32)), .val (.ref b1), .val (.int (1 : Int32)), .val (.ref wNETWORK_TERMINATED), .val (.int (1 : Int32)), .val (.int (1 : Int32))] [(.int (1 : Int32))]))
    refine Go.by (fun _ => XS.iloadN X29.here hx rfl (hb hby at_97) rfl) ?_
    show Go p e below P (T29.setTop (mkF m 98 #[.val (.int p0), .val (.int (1 : Int32)), .val (.ref b1), .val (.int (1 : Int32)), .val (.ref wNETWORK_TERMINATED), .val (.int (1 : Int32)), .val (.int (1 : Int32))] [(.int (1 : Int32)), (.int (1 : Int32))]))
    have hc98 : (1 : Int32) = (1 : Int32) := by decide
    refine Go.by (fun _ => XS.icmpNo X29.here hx rfl (hb hby at_98) rfl (teq hc98).2) ?_
    show Go p e below P (T29.setTop (mkF m 101 #[.val (.int p0), .val (.int (1 : Int32)), .val (.ref b1), .val (.int (1 : Int32)), .val (.ref wNETWORK_TERMINATED), .val (.int (1 : Int32)), .val (.int (1 : Int32))] []))
    refine Go.by (fun _ => XS.iload X29.here hx rfl (hb hby at_101) rfl) ?_
    show Go p e below P (T29.setTop (mkF m 103 #[.val (.int p0), .val (.int (1 : Int32)), .val (.ref b1), .val (.int (1 : Int32)), .val (.ref wNETWORK_TERMINATED), .val (.int (1 : Int32)), .val (.int (1 : Int32))] [(.int (1 : Int32))]))
    refine Go.by (fun _ => XS.iload X29.here hx rfl (hb hby at_103) rfl) ?_
    show Go p e below P (T29.setTop (mkF m 105 #[.val (.int p0), .val (.int (1 : Int32)), .val (.ref b1), .val (.int (1 : Int32)), .val (.ref wNETWORK_TERMINATED), .val (.int (1 : Int32)), .val (.int (1 : Int32))] [(.int (1 : Int32)), (.int (1 : Int32))]))
    have hc105 : (1 : Int32) = (1 : Int32) := by decide
    refine Go.by (fun _ => XS.icmpNo X29.here hx rfl (hb hby at_105) rfl (teq hc105).2) ?_
    show Go p e below P (T29.setTop (mkF m 108 #[.val (.int p0), .val (.int (1 : Int32)), .val (.ref b1), .val (.int (1 : Int32)), .val (.ref wNETWORK_TERMINATED), .val (.int (1 : Int32)), .val (.int (1 : Int32))] []))
    refine Go.by (fun _ => XS.iconst X29.here hx rfl (hb hby at_108)) ?_
    show Go p e below P (T29.setTop (mkF m 109 #[.val (.int p0), .val (.int (1 : Int32)), .val (.ref b1), .val (.int (1 : Int32)), .val (.ref wNETWORK_TERMINATED), .val (.int (1 : Int32)), .val (.int (1 : Int32))] [(.int (1 : Int32))]))
    refine Go.by (fun _ => XS.goto X29.here hx rfl (pc0 := 109) (pc' := 113) rfl (hb hby at_109) (by decide) (by decide)) ?_
    show Go p e below P (T29.setTop (mkF m 113 #[.val (.int p0), .val (.int (1 : Int32)), .val (.ref b1), .val (.int (1 : Int32)), .val (.ref wNETWORK_TERMINATED), .val (.int (1 : Int32)), .val (.int (1 : Int32))] [(.int (1 : Int32))]))
    subst hP
    refine Go.retZ X29 hx (t := .boolean) Bd.returns (by simp) hlk (hb hby at_113) (Nat.le_of_ble_eq_true rfl) (Nat.le_of_ble_eq_true rfl) ?_
    rw [eq29]
    exact ⟨rfl, N29⟩
  · show Go p e below P (T22.setTop (mkF m 57 #[.val (.int p0), .val (.int (2 : Int32)), .val (.ref b1), .unset, .unset, .unset, .unset] []))
    refine Go.by (fun _ => XS.iloadN X22.here hx rfl (hb hby at_57) rfl) ?_
    show Go p e below P (T22.setTop (mkF m 58 #[.val (.int p0), .val (.int (2 : Int32)), .val (.ref b1), .unset, .unset, .unset, .unset] [(.int (2 : Int32))]))
    refine Go.by (fun _ => XS.iconst X22.here hx rfl (hb hby at_58)) ?_
    show Go p e below P (T22.setTop (mkF m 59 #[.val (.int p0), .val (.int (2 : Int32)), .val (.ref b1), .unset, .unset, .unset, .unset] [(.int (5 : Int32)), (.int (2 : Int32))]))
    have hc59 : (2 : Int32) < (5 : Int32) := by decide
    refine Go.by (fun _ => XS.icmpNo X22.here hx rfl (hb hby at_59) rfl (tlt hc59).2.1) ?_
    show Go p e below P (T22.setTop (mkF m 62 #[.val (.int p0), .val (.int (2 : Int32)), .val (.ref b1), .unset, .unset, .unset, .unset] []))
    refine Go.by (fun _ => XS.iconst X22.here hx rfl (hb hby at_62)) ?_
    show Go p e below P (T22.setTop (mkF m 63 #[.val (.int p0), .val (.int (2 : Int32)), .val (.ref b1), .unset, .unset, .unset, .unset] [(.int (1 : Int32))]))
    refine Go.by (fun _ => XS.goto X22.here hx rfl (pc0 := 63) (pc' := 67) rfl (hb hby at_63) (by decide) (by decide)) ?_
    show Go p e below P (T22.setTop (mkF m 67 #[.val (.int p0), .val (.int (2 : Int32)), .val (.ref b1), .unset, .unset, .unset, .unset] [(.int (1 : Int32))]))
    refine Go.by (fun _ => XS.istoreN X22.here hx rfl (hb hby at_67) rfl (l' := #[.val (.int p0), .val (.int (2 : Int32)), .val (.ref b1), .val (.int (1 : Int32)), .unset, .unset, .unset]) rfl) ?_
    show Go p e below P (T22.setTop (mkF m 68 #[.val (.int p0), .val (.int (2 : Int32)), .val (.ref b1), .val (.int (1 : Int32)), .unset, .unset, .unset] []))
    refine Go.by (fun _ => XS.aloadN X22.here hx rfl (hb hby at_68) rfl rfl) ?_
    show Go p e below P (T22.setTop (mkF m 69 #[.val (.int p0), .val (.int (2 : Int32)), .val (.ref b1), .val (.int (1 : Int32)), .unset, .unset, .unset] [(.ref b1)]))
    refine Go.by (fun _ => XS.iloadN X22.here hx rfl (hb hby at_69) rfl) ?_
    show Go p e below P (T22.setTop (mkF m 70 #[.val (.int p0), .val (.int (2 : Int32)), .val (.ref b1), .val (.int (1 : Int32)), .unset, .unset, .unset] [(.int (2 : Int32)), (.ref b1)]))
    obtain ⟨cl30, Ar30, qc30, Sz30, Ng30, Hs30, Gf30⟩ := F23
    have hin30 : ¬ ((2 : Int32) < 0 ∨ cl30.slots.size ≤ ((2 : Int32)).toNatClampNeg) := inb_of Sz30 ⟨by decide, by decide⟩
    refine Go.by (fun _ => X22.aaload hx (j := (2 : Int32)) (v := (.ref wSUBSCRIPTION_EXPIRED)) (by rw [e22]; exact Ar30.1) (State.isArrayOf_alike hZ.alike Ar30.2.1) rfl Ar30.2.2 hin30 (Has.at Hs30 hin30 rfl) (g := (mkF m 70 #[.val (.int p0), .val (.int (2 : Int32)), .val (.ref b1), .val (.int (1 : Int32)), .unset, .unset, .unset] [(.int (2 : Int32)), (.ref b1)])) rfl rfl (hb hby at_70) _) ?_
    show Go p e below P (T22.setTop (mkF m 71 #[.val (.int p0), .val (.int (2 : Int32)), .val (.ref b1), .val (.int (1 : Int32)), .unset, .unset, .unset] [(.ref wSUBSCRIPTION_EXPIRED)]))
    refine Go.by (fun _ => XS.astore X22.here hx rfl (hb hby at_71) rfl rfl (l' := #[.val (.int p0), .val (.int (2 : Int32)), .val (.ref b1), .val (.int (1 : Int32)), .val (.ref wSUBSCRIPTION_EXPIRED), .unset, .unset]) rfl) ?_
    show Go p e below P (T22.setTop (mkF m 73 #[.val (.int p0), .val (.int (2 : Int32)), .val (.ref b1), .val (.int (1 : Int32)), .val (.ref wSUBSCRIPTION_EXPIRED), .unset, .unset] []))
    refine Go.by (fun _ => XS.aload X22.here hx rfl (hb hby at_73) rfl rfl) ?_
    show Go p e below P (T22.setTop (mkF m 75 #[.val (.int p0), .val (.int (2 : Int32)), .val (.ref b1), .val (.int (1 : Int32)), .val (.ref wSUBSCRIPTION_EXPIRED), .unset, .unset] [(.ref wSUBSCRIPTION_EXPIRED)]))
    obtain ⟨cq31, kq31, qa31, qb31, qc31⟩ := isOf hZ e22 (G5.ext O22.2)
    obtain ⟨_, _, ⟨T31, L31, k31, n31⟩, -, X31, ⟨Lc31, hQ31, l31, y31, z31⟩, st31⟩ := X22.virtualBack hx (y := (⟨"com/example/portunus/portunus/reachability/TerminationReason", "isAnnounced", "()Z"⟩ : MethodName)) (z := (⟨"com/example/portunus/portunus/reachability/TerminationReason", "isAnnounced", "()Z"⟩ : MethodName)) hown (mvT hZ (hw _ (List.mem_of_getElem? (i := 19) rfl))) (mvT hZ (hw _ (List.mem_of_getElem? (i := 20) rfl))) (notFace_of_selects (args := #[]) (mvT hZ (hw _ (List.mem_of_getElem? (i := 22) rfl)))) (mvT hZ (hw _ (List.mem_of_getElem? (i := 22) rfl))) (mvT hZ (hw _ (List.mem_of_getElem? (i := 21) rfl))) (by decide) (backOf (W := 0) (rm_ann0 l Z a0 hw [] wMAX_EVENTS_REACHED wNETWORK_TERMINATED wSUBSCRIPTION_EXPIRED wACCESS_TOKEN_EXPIRED wSUBSCRIPTION_DELETED wSINK_GONE wUNSENDABLE d_MAX_EVENTS_REACHED_description d_ACCESS_TOKEN_EXPIRED_description d_SUBSCRIPTION_DELETED_description d_SUBSCRIPTION_EXPIRED_description d_NETWORK_TERMINATED_description hG wSUBSCRIPTION_EXPIRED d_SUBSCRIPTION_EXPIRED_description h22 n0 Z22 O22 (G22.ext O22.2) ) hZ (hw _ (List.mem_of_getElem? (i := 23) rfl)) (hw _ (List.mem_of_getElem? (i := 4) rfl)) (Nat.le_of_ble_eq_true rfl) (Nat.le_of_ble_eq_true rfl)) qa31 qc31 (g := (mkF m 75 #[.val (.int p0), .val (.int (2 : Int32)), .val (.ref b1), .val (.int (1 : Int32)), .val (.ref wSUBSCRIPTION_EXPIRED), .unset, .unset] [(.ref wSUBSCRIPTION_EXPIRED)])) rfl (by rw [hml]; rfl) (Steps.refl _) (argsL := []) (rest := []) (lenOf pd_0 rfl) rfl (by show 2 * 0 + _ ≤ _; exact Nat.le_of_eq rfl) (hb hby at_75) (fun _ _ => ⟨rfl, e22, (Nat.le_of_ble_eq_true rfl : 1 + 0 ≤ _), (Nat.le_of_ble_eq_true rfl : 7 + 0 ≤ _)⟩)
    dsimp only [Pt.U, Pt.locs, Pt.cells, Pt.slots] at X31 l31 y31 z31 st31 hQ31
    subst l31 y31 z31
    obtain ⟨rfl, Nq31, eq31⟩ := hQ31
    have N31 := Fr.app N22 Nq31
    refine Go.by (fun _ k => st31.trans k) ?_
    show Go p e below P (T31.setTop (mkF m 78 #[.val (.int p0), .val (.int (2 : Int32)), .val (.ref b1), .val (.int (1 : Int32)), .val (.ref wSUBSCRIPTION_EXPIRED), .unset, .unset] [(.int (1 : Int32))]))
    refine Go.by (fun _ => XS.istore X31.here hx rfl (hb hby at_78) rfl (l' := #[.val (.int p0), .val (.int (2 : Int32)), .val (.ref b1), .val (.int (1 : Int32)), .val (.ref wSUBSCRIPTION_EXPIRED), .val (.int (1 : Int32)), .unset]) rfl) ?_
    show Go p e below P (T31.setTop (mkF m 80 #[.val (.int p0), .val (.int (2 : Int32)), .val (.ref b1), .val (.int (1 : Int32)), .val (.ref wSUBSCRIPTION_EXPIRED), .val (.int (1 : Int32)), .unset] []))
    refine Go.by (fun _ => XS.aload X31.here hx rfl (hb hby at_80) rfl rfl) ?_
    show Go p e below P (T31.setTop (mkF m 82 #[.val (.int p0), .val (.int (2 : Int32)), .val (.ref b1), .val (.int (1 : Int32)), .val (.ref wSUBSCRIPTION_EXPIRED), .val (.int (1 : Int32)), .unset] [(.ref wSUBSCRIPTION_EXPIRED)]))
    obtain ⟨cq32, kq32, qa32, qb32, qc32⟩ := isOf hZ eq31 (G5.ext O22.2)
    obtain ⟨_, _, ⟨T32, L32, k32, n32⟩, -, X32, ⟨Lc32, hQ32, l32, y32, z32⟩, st32⟩ := X31.virtualBack hx (y := (⟨"com/example/portunus/portunus/reachability/TerminationReason", "description", "()Ljava/lang/String;"⟩ : MethodName)) (z := (⟨"com/example/portunus/portunus/reachability/TerminationReason", "description", "()Ljava/lang/String;"⟩ : MethodName)) hown (mvT hZ (hw _ (List.mem_of_getElem? (i := 26) rfl))) (mvT hZ (hw _ (List.mem_of_getElem? (i := 27) rfl))) (notFace_of_selects (args := #[]) (mvT hZ (hw _ (List.mem_of_getElem? (i := 29) rfl)))) (mvT hZ (hw _ (List.mem_of_getElem? (i := 29) rfl))) (mvT hZ (hw _ (List.mem_of_getElem? (i := 28) rfl))) (by decide) (backOf (W := 0) (rm_des0 l Z a0 hw [] wMAX_EVENTS_REACHED wNETWORK_TERMINATED wSUBSCRIPTION_EXPIRED wACCESS_TOKEN_EXPIRED wSUBSCRIPTION_DELETED wSINK_GONE wUNSENDABLE d_MAX_EVENTS_REACHED_description d_ACCESS_TOKEN_EXPIRED_description d_SUBSCRIPTION_DELETED_description d_SUBSCRIPTION_EXPIRED_description d_NETWORK_TERMINATED_description hG wSUBSCRIPTION_EXPIRED d_SUBSCRIPTION_EXPIRED_description h22 n0 Z22 O22 (G22.ext O22.2) ) hZ (hw _ (List.mem_of_getElem? (i := 30) rfl)) (hw _ (List.mem_of_getElem? (i := 4) rfl)) (Nat.le_of_ble_eq_true rfl) (Nat.le_of_ble_eq_true rfl)) qa32 qc32 (g := (mkF m 82 #[.val (.int p0), .val (.int (2 : Int32)), .val (.ref b1), .val (.int (1 : Int32)), .val (.ref wSUBSCRIPTION_EXPIRED), .val (.int (1 : Int32)), .unset] [(.ref wSUBSCRIPTION_EXPIRED)])) rfl (by rw [hml]; rfl) (Steps.refl _) (argsL := []) (rest := []) (lenOf pd_1 rfl) rfl (by show 2 * 0 + _ ≤ _; exact Nat.le_of_eq rfl) (hb hby at_82) (fun _ _ => ⟨rfl, eq31, (Nat.le_of_ble_eq_true rfl : 1 + 0 ≤ _), (Nat.le_of_ble_eq_true rfl : 7 + 0 ≤ _)⟩)
    dsimp only [Pt.U, Pt.locs, Pt.cells, Pt.slots] at X32 l32 y32 z32 st32 hQ32
    subst l32 y32 z32
    obtain ⟨rfl, Nq32, eq32⟩ := hQ32
    have N32 := Fr.app N31 Nq32
    refine Go.by (fun _ k => st32.trans k) ?_
    show Go p e below P (T32.setTop (mkF m 85 #[.val (.int p0), .val (.int (2 : Int32)), .val (.ref b1), .val (.int (1 : Int32)), .val (.ref wSUBSCRIPTION_EXPIRED), .val (.int (1 : Int32)), .unset] [(.ref d_SUBSCRIPTION_EXPIRED_description)]))
    refine Go.by (fun _ => XS.ifnullNo X32.here hx rfl (hb hby at_85) rfl) ?_
    show Go p e below P (T32.setTop (mkF m 88 #[.val (.int p0), .val (.int (2 : Int32)), .val (.ref b1), .val (.int (1 : Int32)), .val (.ref wSUBSCRIPTION_EXPIRED), .val (.int (1 : Int32)), .unset] []))
    refine Go.by (fun _ => XS.iconst X32.here hx rfl (hb hby at_88)) ?_
    show Go p e below P (T32.setTop (mkF m 89 #[.val (.int p0), .val (.int (2 : Int32)), .val (.ref b1), .val (.int (1 : Int32)), .val (.ref wSUBSCRIPTION_EXPIRED), .val (.int (1 : Int32)), .unset] [(.int (1 : Int32))]))
    refine Go.by (fun _ => XS.goto X32.here hx rfl (pc0 := 89) (pc' := 93) rfl (hb hby at_89) (by decide) (by decide)) ?_
    show Go p e below P (T32.setTop (mkF m 93 #[.val (.int p0), .val (.int (2 : Int32)), .val (.ref b1), .val (.int (1 : Int32)), .val (.ref wSUBSCRIPTION_EXPIRED), .val (.int (1 : Int32)), .unset] [(.int (1 : Int32))]))
    refine Go.by (fun _ => XS.istore X32.here hx rfl (hb hby at_93) rfl (l' := #[.val (.int p0), .val (.int (2 : Int32)), .val (.ref b1), .val (.int (1 : Int32)), .val (.ref wSUBSCRIPTION_EXPIRED), .val (.int (1 : Int32)), .val (.int (1 : Int32))]) rfl) ?_
    show Go p e below P (T32.setTop (mkF m 95 #[.val (.int p0), .val (.int (2 : Int32)), .val (.ref b1), .val (.int (1 : Int32)), .val (.ref wSUBSCRIPTION_EXPIRED), .val (.int (1 : Int32)), .val (.int (1 : Int32))] []))
    refine Go.by (fun _ => XS.iload X32.here hx rfl (hb hby at_95) rfl) ?_
    show Go p e below P (T32.setTop (mkF m 97 #[.val (.int p0), .val (.int (2 : Int32)), .val (.ref b1), .val (.int (1 : Int32)), .val (.ref wSUBSCRIPTION_EXPIRED), .val (.int (1 : Int32)), .val (.int (1 : Int32))] [(.int (1 : Int32))]))
    refine Go.by (fun _ => XS.iloadN X32.here hx rfl (hb hby at_97) rfl) ?_
    show Go p e below P (T32.setTop (mkF m 98 #[.val (.int p0), .val (.int (2 : Int32)), .val (.ref b1), .val (.int (1 : Int32)), .val (.ref wSUBSCRIPTION_EXPIRED), .val (.int (1 : Int32)), .val (.int (1 : Int32))] [(.int (1 : Int32)), (.int (1 : Int32))]))
    have hc98 : (1 : Int32) = (1 : Int32) := by decide
    refine Go.by (fun _ => XS.icmpNo X32.here hx rfl (hb hby at_98) rfl (teq hc98).2) ?_
    show Go p e below P (T32.setTop (mkF m 101 #[.val (.int p0), .val (.int (2 : Int32)), .val (.ref b1), .val (.int (1 : Int32)), .val (.ref wSUBSCRIPTION_EXPIRED), .val (.int (1 : Int32)), .val (.int (1 : Int32))] []))
    refine Go.by (fun _ => XS.iload X32.here hx rfl (hb hby at_101) rfl) ?_
    show Go p e below P (T32.setTop (mkF m 103 #[.val (.int p0), .val (.int (2 : Int32)), .val (.ref b1), .val (.int (1 : Int32)), .val (.ref wSUBSCRIPTION_EXPIRED), .val (.int (1 : Int32)), .val (.int (1 : Int32))] [(.int (1 : Int32))]))
    refine Go.by (fun _ => XS.iload X32.here hx rfl (hb hby at_103) rfl) ?_
    show Go p e below P (T32.setTop (mkF m 105 #[.val (.int p0), .val (.int (2 : Int32)), .val (.ref b1), .val (.int (1 : Int32)), .val (.ref wSUBSCRIPTION_EXPIRED), .val (.int (1 : Int32)), .val (.int (1 : Int32))] [(.int (1 : Int32)), (.int (1 : Int32))]))
    have hc105 : (1 : Int32) = (1 : Int32) := by decide
    refine Go.by (fun _ => XS.icmpNo X32.here hx rfl (hb hby at_105) rfl (teq hc105).2) ?_
    show Go p e below P (T32.setTop (mkF m 108 #[.val (.int p0), .val (.int (2 : Int32)), .val (.ref b1), .val (.int (1 : Int32)), .val (.ref wSUBSCRIPTION_EXPIRED), .val (.int (1 : Int32)), .val (.int (1 : Int32))] []))
    refine Go.by (fun _ => XS.iconst X32.here hx rfl (hb hby at_108)) ?_
    show Go p e below P (T32.setTop (mkF m 109 #[.val (.int p0), .val (.int (2 : Int32)), .val (.ref b1), .val (.int (1 : Int32)), .val (.ref wSUBSCRIPTION_EXPIRED), .val (.int (1 : Int32)), .val (.int (1 : Int32))] [(.int (1 : Int32))]))
    refine Go.by (fun _ => XS.goto X32.here hx rfl (pc0 := 109) (pc' := 113) rfl (hb hby at_109) (by decide) (by decide)) ?_
    show Go p e below P (T32.setTop (mkF m 113 #[.val (.int p0), .val (.int (2 : Int32)), .val (.ref b1), .val (.int (1 : Int32)), .val (.ref wSUBSCRIPTION_EXPIRED), .val (.int (1 : Int32)), .val (.int (1 : Int32))] [(.int (1 : Int32))]))
    subst hP
    refine Go.retZ X32 hx (t := .boolean) Bd.returns (by simp) hlk (hb hby at_113) (Nat.le_of_ble_eq_true rfl) (Nat.le_of_ble_eq_true rfl) ?_
    rw [eq32]
    exact ⟨rfl, N32⟩
  · show Go p e below P (T22.setTop (mkF m 57 #[.val (.int p0), .val (.int (3 : Int32)), .val (.ref b1), .unset, .unset, .unset, .unset] []))
    refine Go.by (fun _ => XS.iloadN X22.here hx rfl (hb hby at_57) rfl) ?_
    show Go p e below P (T22.setTop (mkF m 58 #[.val (.int p0), .val (.int (3 : Int32)), .val (.ref b1), .unset, .unset, .unset, .unset] [(.int (3 : Int32))]))
    refine Go.by (fun _ => XS.iconst X22.here hx rfl (hb hby at_58)) ?_
    show Go p e below P (T22.setTop (mkF m 59 #[.val (.int p0), .val (.int (3 : Int32)), .val (.ref b1), .unset, .unset, .unset, .unset] [(.int (5 : Int32)), (.int (3 : Int32))]))
    have hc59 : (3 : Int32) < (5 : Int32) := by decide
    refine Go.by (fun _ => XS.icmpNo X22.here hx rfl (hb hby at_59) rfl (tlt hc59).2.1) ?_
    show Go p e below P (T22.setTop (mkF m 62 #[.val (.int p0), .val (.int (3 : Int32)), .val (.ref b1), .unset, .unset, .unset, .unset] []))
    refine Go.by (fun _ => XS.iconst X22.here hx rfl (hb hby at_62)) ?_
    show Go p e below P (T22.setTop (mkF m 63 #[.val (.int p0), .val (.int (3 : Int32)), .val (.ref b1), .unset, .unset, .unset, .unset] [(.int (1 : Int32))]))
    refine Go.by (fun _ => XS.goto X22.here hx rfl (pc0 := 63) (pc' := 67) rfl (hb hby at_63) (by decide) (by decide)) ?_
    show Go p e below P (T22.setTop (mkF m 67 #[.val (.int p0), .val (.int (3 : Int32)), .val (.ref b1), .unset, .unset, .unset, .unset] [(.int (1 : Int32))]))
    refine Go.by (fun _ => XS.istoreN X22.here hx rfl (hb hby at_67) rfl (l' := #[.val (.int p0), .val (.int (3 : Int32)), .val (.ref b1), .val (.int (1 : Int32)), .unset, .unset, .unset]) rfl) ?_
    show Go p e below P (T22.setTop (mkF m 68 #[.val (.int p0), .val (.int (3 : Int32)), .val (.ref b1), .val (.int (1 : Int32)), .unset, .unset, .unset] []))
    refine Go.by (fun _ => XS.aloadN X22.here hx rfl (hb hby at_68) rfl rfl) ?_
    show Go p e below P (T22.setTop (mkF m 69 #[.val (.int p0), .val (.int (3 : Int32)), .val (.ref b1), .val (.int (1 : Int32)), .unset, .unset, .unset] [(.ref b1)]))
    refine Go.by (fun _ => XS.iloadN X22.here hx rfl (hb hby at_69) rfl) ?_
    show Go p e below P (T22.setTop (mkF m 70 #[.val (.int p0), .val (.int (3 : Int32)), .val (.ref b1), .val (.int (1 : Int32)), .unset, .unset, .unset] [(.int (3 : Int32)), (.ref b1)]))
    obtain ⟨cl33, Ar33, qc33, Sz33, Ng33, Hs33, Gf33⟩ := F23
    have hin33 : ¬ ((3 : Int32) < 0 ∨ cl33.slots.size ≤ ((3 : Int32)).toNatClampNeg) := inb_of Sz33 ⟨by decide, by decide⟩
    refine Go.by (fun _ => X22.aaload hx (j := (3 : Int32)) (v := (.ref wACCESS_TOKEN_EXPIRED)) (by rw [e22]; exact Ar33.1) (State.isArrayOf_alike hZ.alike Ar33.2.1) rfl Ar33.2.2 hin33 (Has.at Hs33 hin33 rfl) (g := (mkF m 70 #[.val (.int p0), .val (.int (3 : Int32)), .val (.ref b1), .val (.int (1 : Int32)), .unset, .unset, .unset] [(.int (3 : Int32)), (.ref b1)])) rfl rfl (hb hby at_70) _) ?_
    show Go p e below P (T22.setTop (mkF m 71 #[.val (.int p0), .val (.int (3 : Int32)), .val (.ref b1), .val (.int (1 : Int32)), .unset, .unset, .unset] [(.ref wACCESS_TOKEN_EXPIRED)]))
    refine Go.by (fun _ => XS.astore X22.here hx rfl (hb hby at_71) rfl rfl (l' := #[.val (.int p0), .val (.int (3 : Int32)), .val (.ref b1), .val (.int (1 : Int32)), .val (.ref wACCESS_TOKEN_EXPIRED), .unset, .unset]) rfl) ?_
    show Go p e below P (T22.setTop (mkF m 73 #[.val (.int p0), .val (.int (3 : Int32)), .val (.ref b1), .val (.int (1 : Int32)), .val (.ref wACCESS_TOKEN_EXPIRED), .unset, .unset] []))
    refine Go.by (fun _ => XS.aload X22.here hx rfl (hb hby at_73) rfl rfl) ?_
    show Go p e below P (T22.setTop (mkF m 75 #[.val (.int p0), .val (.int (3 : Int32)), .val (.ref b1), .val (.int (1 : Int32)), .val (.ref wACCESS_TOKEN_EXPIRED), .unset, .unset] [(.ref wACCESS_TOKEN_EXPIRED)]))
    obtain ⟨cq34, kq34, qa34, qb34, qc34⟩ := isOf hZ e22 (G7.ext O22.2)
    obtain ⟨_, _, ⟨T34, L34, k34, n34⟩, -, X34, ⟨Lc34, hQ34, l34, y34, z34⟩, st34⟩ := X22.virtualBack hx (y := (⟨"com/example/portunus/portunus/reachability/TerminationReason", "isAnnounced", "()Z"⟩ : MethodName)) (z := (⟨"com/example/portunus/portunus/reachability/TerminationReason", "isAnnounced", "()Z"⟩ : MethodName)) hown (mvT hZ (hw _ (List.mem_of_getElem? (i := 19) rfl))) (mvT hZ (hw _ (List.mem_of_getElem? (i := 20) rfl))) (notFace_of_selects (args := #[]) (mvT hZ (hw _ (List.mem_of_getElem? (i := 22) rfl)))) (mvT hZ (hw _ (List.mem_of_getElem? (i := 22) rfl))) (mvT hZ (hw _ (List.mem_of_getElem? (i := 21) rfl))) (by decide) (backOf (W := 0) (rm_ann0 l Z a0 hw [] wMAX_EVENTS_REACHED wNETWORK_TERMINATED wSUBSCRIPTION_EXPIRED wACCESS_TOKEN_EXPIRED wSUBSCRIPTION_DELETED wSINK_GONE wUNSENDABLE d_MAX_EVENTS_REACHED_description d_ACCESS_TOKEN_EXPIRED_description d_SUBSCRIPTION_DELETED_description d_SUBSCRIPTION_EXPIRED_description d_NETWORK_TERMINATED_description hG wACCESS_TOKEN_EXPIRED d_ACCESS_TOKEN_EXPIRED_description h22 n0 Z22 O22 (G16.ext O22.2) ) hZ (hw _ (List.mem_of_getElem? (i := 23) rfl)) (hw _ (List.mem_of_getElem? (i := 4) rfl)) (Nat.le_of_ble_eq_true rfl) (Nat.le_of_ble_eq_true rfl)) qa34 qc34 (g := (mkF m 75 #[.val (.int p0), .val (.int (3 : Int32)), .val (.ref b1), .val (.int (1 : Int32)), .val (.ref wACCESS_TOKEN_EXPIRED), .unset, .unset] [(.ref wACCESS_TOKEN_EXPIRED)])) rfl (by rw [hml]; rfl) (Steps.refl _) (argsL := []) (rest := []) (lenOf pd_0 rfl) rfl (by show 2 * 0 + _ ≤ _; exact Nat.le_of_eq rfl) (hb hby at_75) (fun _ _ => ⟨rfl, e22, (Nat.le_of_ble_eq_true rfl : 1 + 0 ≤ _), (Nat.le_of_ble_eq_true rfl : 7 + 0 ≤ _)⟩)
    dsimp only [Pt.U, Pt.locs, Pt.cells, Pt.slots] at X34 l34 y34 z34 st34 hQ34
    subst l34 y34 z34
    obtain ⟨rfl, Nq34, eq34⟩ := hQ34
    have N34 := Fr.app N22 Nq34
    refine Go.by (fun _ k => st34.trans k) ?_
    show Go p e below P (T34.setTop (mkF m 78 #[.val (.int p0), .val (.int (3 : Int32)), .val (.ref b1), .val (.int (1 : Int32)), .val (.ref wACCESS_TOKEN_EXPIRED), .unset, .unset] [(.int (1 : Int32))]))
    refine Go.by (fun _ => XS.istore X34.here hx rfl (hb hby at_78) rfl (l' := #[.val (.int p0), .val (.int (3 : Int32)), .val (.ref b1), .val (.int (1 : Int32)), .val (.ref wACCESS_TOKEN_EXPIRED), .val (.int (1 : Int32)), .unset]) rfl) ?_
    show Go p e below P (T34.setTop (mkF m 80 #[.val (.int p0), .val (.int (3 : Int32)), .val (.ref b1), .val (.int (1 : Int32)), .val (.ref wACCESS_TOKEN_EXPIRED), .val (.int (1 : Int32)), .unset] []))
    refine Go.by (fun _ => XS.aload X34.here hx rfl (hb hby at_80) rfl rfl) ?_
    show Go p e below P (T34.setTop (mkF m 82 #[.val (.int p0), .val (.int (3 : Int32)), .val (.ref b1), .val (.int (1 : Int32)), .val (.ref wACCESS_TOKEN_EXPIRED), .val (.int (1 : Int32)), .unset] [(.ref wACCESS_TOKEN_EXPIRED)]))
    obtain ⟨cq35, kq35, qa35, qb35, qc35⟩ := isOf hZ eq34 (G7.ext O22.2)
    obtain ⟨_, _, ⟨T35, L35, k35, n35⟩, -, X35, ⟨Lc35, hQ35, l35, y35, z35⟩, st35⟩ := X34.virtualBack hx (y := (⟨"com/example/portunus/portunus/reachability/TerminationReason", "description", "()Ljava/lang/String;"⟩ : MethodName)) (z := (⟨"com/example/portunus/portunus/reachability/TerminationReason", "description", "()Ljava/lang/String;"⟩ : MethodName)) hown (mvT hZ (hw _ (List.mem_of_getElem? (i := 26) rfl))) (mvT hZ (hw _ (List.mem_of_getElem? (i := 27) rfl))) (notFace_of_selects (args := #[]) (mvT hZ (hw _ (List.mem_of_getElem? (i := 29) rfl)))) (mvT hZ (hw _ (List.mem_of_getElem? (i := 29) rfl))) (mvT hZ (hw _ (List.mem_of_getElem? (i := 28) rfl))) (by decide) (backOf (W := 0) (rm_des0 l Z a0 hw [] wMAX_EVENTS_REACHED wNETWORK_TERMINATED wSUBSCRIPTION_EXPIRED wACCESS_TOKEN_EXPIRED wSUBSCRIPTION_DELETED wSINK_GONE wUNSENDABLE d_MAX_EVENTS_REACHED_description d_ACCESS_TOKEN_EXPIRED_description d_SUBSCRIPTION_DELETED_description d_SUBSCRIPTION_EXPIRED_description d_NETWORK_TERMINATED_description hG wACCESS_TOKEN_EXPIRED d_ACCESS_TOKEN_EXPIRED_description h22 n0 Z22 O22 (G16.ext O22.2) ) hZ (hw _ (List.mem_of_getElem? (i := 30) rfl)) (hw _ (List.mem_of_getElem? (i := 4) rfl)) (Nat.le_of_ble_eq_true rfl) (Nat.le_of_ble_eq_true rfl)) qa35 qc35 (g := (mkF m 82 #[.val (.int p0), .val (.int (3 : Int32)), .val (.ref b1), .val (.int (1 : Int32)), .val (.ref wACCESS_TOKEN_EXPIRED), .val (.int (1 : Int32)), .unset] [(.ref wACCESS_TOKEN_EXPIRED)])) rfl (by rw [hml]; rfl) (Steps.refl _) (argsL := []) (rest := []) (lenOf pd_1 rfl) rfl (by show 2 * 0 + _ ≤ _; exact Nat.le_of_eq rfl) (hb hby at_82) (fun _ _ => ⟨rfl, eq34, (Nat.le_of_ble_eq_true rfl : 1 + 0 ≤ _), (Nat.le_of_ble_eq_true rfl : 7 + 0 ≤ _)⟩)
    dsimp only [Pt.U, Pt.locs, Pt.cells, Pt.slots] at X35 l35 y35 z35 st35 hQ35
    subst l35 y35 z35
    obtain ⟨rfl, Nq35, eq35⟩ := hQ35
    have N35 := Fr.app N34 Nq35
    refine Go.by (fun _ k => st35.trans k) ?_
    show Go p e below P (T35.setTop (mkF m 85 #[.val (.int p0), .val (.int (3 : Int32)), .val (.ref b1), .val (.int (1 : Int32)), .val (.ref wACCESS_TOKEN_EXPIRED), .val (.int (1 : Int32)), .unset] [(.ref d_ACCESS_TOKEN_EXPIRED_description)]))
    refine Go.by (fun _ => XS.ifnullNo X35.here hx rfl (hb hby at_85) rfl) ?_
    show Go p e below P (T35.setTop (mkF m 88 #[.val (.int p0), .val (.int (3 : Int32)), .val (.ref b1), .val (.int (1 : Int32)), .val (.ref wACCESS_TOKEN_EXPIRED), .val (.int (1 : Int32)), .unset] []))
    refine Go.by (fun _ => XS.iconst X35.here hx rfl (hb hby at_88)) ?_
    show Go p e below P (T35.setTop (mkF m 89 #[.val (.int p0), .val (.int (3 : Int32)), .val (.ref b1), .val (.int (1 : Int32)), .val (.ref wACCESS_TOKEN_EXPIRED), .val (.int (1 : Int32)), .unset] [(.int (1 : Int32))]))
    refine Go.by (fun _ => XS.goto X35.here hx rfl (pc0 := 89) (pc' := 93) rfl (hb hby at_89) (by decide) (by decide)) ?_
    show Go p e below P (T35.setTop (mkF m 93 #[.val (.int p0), .val (.int (3 : Int32)), .val (.ref b1), .val (.int (1 : Int32)), .val (.ref wACCESS_TOKEN_EXPIRED), .val (.int (1 : Int32)), .unset] [(.int (1 : Int32))]))
    refine Go.by (fun _ => XS.istore X35.here hx rfl (hb hby at_93) rfl (l' := #[.val (.int p0), .val (.int (3 : Int32)), .val (.ref b1), .val (.int (1 : Int32)), .val (.ref wACCESS_TOKEN_EXPIRED), .val (.int (1 : Int32)), .val (.int (1 : Int32))]) rfl) ?_
    show Go p e below P (T35.setTop (mkF m 95 #[.val (.int p0), .val (.int (3 : Int32)), .val (.ref b1), .val (.int (1 : Int32)), .val (.ref wACCESS_TOKEN_EXPIRED), .val (.int (1 : Int32)), .val (.int (1 : Int32))] []))
    refine Go.by (fun _ => XS.iload X35.here hx rfl (hb hby at_95) rfl) ?_
    show Go p e below P (T35.setTop (mkF m 97 #[.val (.int p0), .val (.int (3 : Int32)), .val (.ref b1), .val (.int (1 : Int32)), .val (.ref wACCESS_TOKEN_EXPIRED), .val (.int (1 : Int32)), .val (.int (1 : Int32))] [(.int (1 : Int32))]))
    refine Go.by (fun _ => XS.iloadN X35.here hx rfl (hb hby at_97) rfl) ?_
    show Go p e below P (T35.setTop (mkF m 98 #[.val (.int p0), .val (.int (3 : Int32)), .val (.ref b1), .val (.int (1 : Int32)), .val (.ref wACCESS_TOKEN_EXPIRED), .val (.int (1 : Int32)), .val (.int (1 : Int32))] [(.int (1 : Int32)), (.int (1 : Int32))]))
    have hc98 : (1 : Int32) = (1 : Int32) := by decide
    refine Go.by (fun _ => XS.icmpNo X35.here hx rfl (hb hby at_98) rfl (teq hc98).2) ?_
    show Go p e below P (T35.setTop (mkF m 101 #[.val (.int p0), .val (.int (3 : Int32)), .val (.ref b1), .val (.int (1 : Int32)), .val (.ref wACCESS_TOKEN_EXPIRED), .val (.int (1 : Int32)), .val (.int (1 : Int32))] []))
    refine Go.by (fun _ => XS.iload X35.here hx rfl (hb hby at_101) rfl) ?_
    show Go p e below P (T35.setTop (mkF m 103 #[.val (.int p0), .val (.int (3 : Int32)), .val (.ref b1), .val (.int (1 : Int32)), .val (.ref wACCESS_TOKEN_EXPIRED), .val (.int (1 : Int32)), .val (.int (1 : Int32))] [(.int (1 : Int32))]))
    refine Go.by (fun _ => XS.iload X35.here hx rfl (hb hby at_103) rfl) ?_
    show Go p e below P (T35.setTop (mkF m 105 #[.val (.int p0), .val (.int (3 : Int32)), .val (.ref b1), .val (.int (1 : Int32)), .val (.ref wACCESS_TOKEN_EXPIRED), .val (.int (1 : Int32)), .val (.int (1 : Int32))] [(.int (1 : Int32)), (.int (1 : Int32))]))
    have hc105 : (1 : Int32) = (1 : Int32) := by decide
    refine Go.by (fun _ => XS.icmpNo X35.here hx rfl (hb hby at_105) rfl (teq hc105).2) ?_
    show Go p e below P (T35.setTop (mkF m 108 #[.val (.int p0), .val (.int (3 : Int32)), .val (.ref b1), .val (.int (1 : Int32)), .val (.ref wACCESS_TOKEN_EXPIRED), .val (.int (1 : Int32)), .val (.int (1 : Int32))] []))
    refine Go.by (fun _ => XS.iconst X35.here hx rfl (hb hby at_108)) ?_
    show Go p e below P (T35.setTop (mkF m 109 #[.val (.int p0), .val (.int (3 : Int32)), .val (.ref b1), .val (.int (1 : Int32)), .val (.ref wACCESS_TOKEN_EXPIRED), .val (.int (1 : Int32)), .val (.int (1 : Int32))] [(.int (1 : Int32))]))
    refine Go.by (fun _ => XS.goto X35.here hx rfl (pc0 := 109) (pc' := 113) rfl (hb hby at_109) (by decide) (by decide)) ?_
    show Go p e below P (T35.setTop (mkF m 113 #[.val (.int p0), .val (.int (3 : Int32)), .val (.ref b1), .val (.int (1 : Int32)), .val (.ref wACCESS_TOKEN_EXPIRED), .val (.int (1 : Int32)), .val (.int (1 : Int32))] [(.int (1 : Int32))]))
    subst hP
    refine Go.retZ X35 hx (t := .boolean) Bd.returns (by simp) hlk (hb hby at_113) (Nat.le_of_ble_eq_true rfl) (Nat.le_of_ble_eq_true rfl) ?_
    rw [eq35]
    exact ⟨rfl, N35⟩
  · show Go p e below P (T22.setTop (mkF m 57 #[.val (.int p0), .val (.int (4 : Int32)), .val (.ref b1), .unset, .unset, .unset, .unset] []))
    refine Go.by (fun _ => XS.iloadN X22.here hx rfl (hb hby at_57) rfl) ?_
    show Go p e below P (T22.setTop (mkF m 58 #[.val (.int p0), .val (.int (4 : Int32)), .val (.ref b1), .unset, .unset, .unset, .unset] [(.int (4 : Int32))]))
    refine Go.by (fun _ => XS.iconst X22.here hx rfl (hb hby at_58)) ?_
    show Go p e below P (T22.setTop (mkF m 59 #[.val (.int p0), .val (.int (4 : Int32)), .val (.ref b1), .unset, .unset, .unset, .unset] [(.int (5 : Int32)), (.int (4 : Int32))]))
    have hc59 : (4 : Int32) < (5 : Int32) := by decide
    refine Go.by (fun _ => XS.icmpNo X22.here hx rfl (hb hby at_59) rfl (tlt hc59).2.1) ?_
    show Go p e below P (T22.setTop (mkF m 62 #[.val (.int p0), .val (.int (4 : Int32)), .val (.ref b1), .unset, .unset, .unset, .unset] []))
    refine Go.by (fun _ => XS.iconst X22.here hx rfl (hb hby at_62)) ?_
    show Go p e below P (T22.setTop (mkF m 63 #[.val (.int p0), .val (.int (4 : Int32)), .val (.ref b1), .unset, .unset, .unset, .unset] [(.int (1 : Int32))]))
    refine Go.by (fun _ => XS.goto X22.here hx rfl (pc0 := 63) (pc' := 67) rfl (hb hby at_63) (by decide) (by decide)) ?_
    show Go p e below P (T22.setTop (mkF m 67 #[.val (.int p0), .val (.int (4 : Int32)), .val (.ref b1), .unset, .unset, .unset, .unset] [(.int (1 : Int32))]))
    refine Go.by (fun _ => XS.istoreN X22.here hx rfl (hb hby at_67) rfl (l' := #[.val (.int p0), .val (.int (4 : Int32)), .val (.ref b1), .val (.int (1 : Int32)), .unset, .unset, .unset]) rfl) ?_
    show Go p e below P (T22.setTop (mkF m 68 #[.val (.int p0), .val (.int (4 : Int32)), .val (.ref b1), .val (.int (1 : Int32)), .unset, .unset, .unset] []))
    refine Go.by (fun _ => XS.aloadN X22.here hx rfl (hb hby at_68) rfl rfl) ?_
    show Go p e below P (T22.setTop (mkF m 69 #[.val (.int p0), .val (.int (4 : Int32)), .val (.ref b1), .val (.int (1 : Int32)), .unset, .unset, .unset] [(.ref b1)]))
    refine Go.by (fun _ => XS.iloadN X22.here hx rfl (hb hby at_69) rfl) ?_
    show Go p e below P (T22.setTop (mkF m 70 #[.val (.int p0), .val (.int (4 : Int32)), .val (.ref b1), .val (.int (1 : Int32)), .unset, .unset, .unset] [(.int (4 : Int32)), (.ref b1)]))
    obtain ⟨cl36, Ar36, qc36, Sz36, Ng36, Hs36, Gf36⟩ := F23
    have hin36 : ¬ ((4 : Int32) < 0 ∨ cl36.slots.size ≤ ((4 : Int32)).toNatClampNeg) := inb_of Sz36 ⟨by decide, by decide⟩
    refine Go.by (fun _ => X22.aaload hx (j := (4 : Int32)) (v := (.ref wSUBSCRIPTION_DELETED)) (by rw [e22]; exact Ar36.1) (State.isArrayOf_alike hZ.alike Ar36.2.1) rfl Ar36.2.2 hin36 (Has.at Hs36 hin36 rfl) (g := (mkF m 70 #[.val (.int p0), .val (.int (4 : Int32)), .val (.ref b1), .val (.int (1 : Int32)), .unset, .unset, .unset] [(.int (4 : Int32)), (.ref b1)])) rfl rfl (hb hby at_70) _) ?_
    show Go p e below P (T22.setTop (mkF m 71 #[.val (.int p0), .val (.int (4 : Int32)), .val (.ref b1), .val (.int (1 : Int32)), .unset, .unset, .unset] [(.ref wSUBSCRIPTION_DELETED)]))
    refine Go.by (fun _ => XS.astore X22.here hx rfl (hb hby at_71) rfl rfl (l' := #[.val (.int p0), .val (.int (4 : Int32)), .val (.ref b1), .val (.int (1 : Int32)), .val (.ref wSUBSCRIPTION_DELETED), .unset, .unset]) rfl) ?_
    show Go p e below P (T22.setTop (mkF m 73 #[.val (.int p0), .val (.int (4 : Int32)), .val (.ref b1), .val (.int (1 : Int32)), .val (.ref wSUBSCRIPTION_DELETED), .unset, .unset] []))
    refine Go.by (fun _ => XS.aload X22.here hx rfl (hb hby at_73) rfl rfl) ?_
    show Go p e below P (T22.setTop (mkF m 75 #[.val (.int p0), .val (.int (4 : Int32)), .val (.ref b1), .val (.int (1 : Int32)), .val (.ref wSUBSCRIPTION_DELETED), .unset, .unset] [(.ref wSUBSCRIPTION_DELETED)]))
    obtain ⟨cq37, kq37, qa37, qb37, qc37⟩ := isOf hZ e22 (G9.ext O22.2)
    obtain ⟨_, _, ⟨T37, L37, k37, n37⟩, -, X37, ⟨Lc37, hQ37, l37, y37, z37⟩, st37⟩ := X22.virtualBack hx (y := (⟨"com/example/portunus/portunus/reachability/TerminationReason", "isAnnounced", "()Z"⟩ : MethodName)) (z := (⟨"com/example/portunus/portunus/reachability/TerminationReason", "isAnnounced", "()Z"⟩ : MethodName)) hown (mvT hZ (hw _ (List.mem_of_getElem? (i := 19) rfl))) (mvT hZ (hw _ (List.mem_of_getElem? (i := 20) rfl))) (notFace_of_selects (args := #[]) (mvT hZ (hw _ (List.mem_of_getElem? (i := 22) rfl)))) (mvT hZ (hw _ (List.mem_of_getElem? (i := 22) rfl))) (mvT hZ (hw _ (List.mem_of_getElem? (i := 21) rfl))) (by decide) (backOf (W := 0) (rm_ann0 l Z a0 hw [] wMAX_EVENTS_REACHED wNETWORK_TERMINATED wSUBSCRIPTION_EXPIRED wACCESS_TOKEN_EXPIRED wSUBSCRIPTION_DELETED wSINK_GONE wUNSENDABLE d_MAX_EVENTS_REACHED_description d_ACCESS_TOKEN_EXPIRED_description d_SUBSCRIPTION_DELETED_description d_SUBSCRIPTION_EXPIRED_description d_NETWORK_TERMINATED_description hG wSUBSCRIPTION_DELETED d_SUBSCRIPTION_DELETED_description h22 n0 Z22 O22 (G20.ext O22.2) ) hZ (hw _ (List.mem_of_getElem? (i := 23) rfl)) (hw _ (List.mem_of_getElem? (i := 4) rfl)) (Nat.le_of_ble_eq_true rfl) (Nat.le_of_ble_eq_true rfl)) qa37 qc37 (g := (mkF m 75 #[.val (.int p0), .val (.int (4 : Int32)), .val (.ref b1), .val (.int (1 : Int32)), .val (.ref wSUBSCRIPTION_DELETED), .unset, .unset] [(.ref wSUBSCRIPTION_DELETED)])) rfl (by rw [hml]; rfl) (Steps.refl _) (argsL := []) (rest := []) (lenOf pd_0 rfl) rfl (by show 2 * 0 + _ ≤ _; exact Nat.le_of_eq rfl) (hb hby at_75) (fun _ _ => ⟨rfl, e22, (Nat.le_of_ble_eq_true rfl : 1 + 0 ≤ _), (Nat.le_of_ble_eq_true rfl : 7 + 0 ≤ _)⟩)
    dsimp only [Pt.U, Pt.locs, Pt.cells, Pt.slots] at X37 l37 y37 z37 st37 hQ37
    subst l37 y37 z37
    obtain ⟨rfl, Nq37, eq37⟩ := hQ37
    have N37 := Fr.app N22 Nq37
    refine Go.by (fun _ k => st37.trans k) ?_
    show Go p e below P (T37.setTop (mkF m 78 #[.val (.int p0), .val (.int (4 : Int32)), .val (.ref b1), .val (.int (1 : Int32)), .val (.ref wSUBSCRIPTION_DELETED), .unset, .unset] [(.int (1 : Int32))]))
    refine Go.by (fun _ => XS.istore X37.here hx rfl (hb hby at_78) rfl (l' := #[.val (.int p0), .val (.int (4 : Int32)), .val (.ref b1), .val (.int (1 : Int32)), .val (.ref wSUBSCRIPTION_DELETED), .val (.int (1 : Int32)), .unset]) rfl) ?_
    show Go p e below P (T37.setTop (mkF m 80 #[.val (.int p0), .val (.int (4 : Int32)), .val (.ref b1), .val (.int (1 : Int32)), .val (.ref wSUBSCRIPTION_DELETED), .val (.int (1 : Int32)), .unset] []))
    refine Go.by (fun _ => XS.aload X37.here hx rfl (hb hby at_80) rfl rfl) ?_
    show Go p e below P (T37.setTop (mkF m 82 #[.val (.int p0), .val (.int (4 : Int32)), .val (.ref b1), .val (.int (1 : Int32)), .val (.ref wSUBSCRIPTION_DELETED), .val (.int (1 : Int32)), .unset] [(.ref wSUBSCRIPTION_DELETED)]))
    obtain ⟨cq38, kq38, qa38, qb38, qc38⟩ := isOf hZ eq37 (G9.ext O22.2)
    obtain ⟨_, _, ⟨T38, L38, k38, n38⟩, -, X38, ⟨Lc38, hQ38, l38, y38, z38⟩, st38⟩ := X37.virtualBack hx (y := (⟨"com/example/portunus/portunus/reachability/TerminationReason", "description", "()Ljava/lang/String;"⟩ : MethodName)) (z := (⟨"com/example/portunus/portunus/reachability/TerminationReason", "description", "()Ljava/lang/String;"⟩ : MethodName)) hown (mvT hZ (hw _ (List.mem_of_getElem? (i := 26) rfl))) (mvT hZ (hw _ (List.mem_of_getElem? (i := 27) rfl))) (notFace_of_selects (args := #[]) (mvT hZ (hw _ (List.mem_of_getElem? (i := 29) rfl)))) (mvT hZ (hw _ (List.mem_of_getElem? (i := 29) rfl))) (mvT hZ (hw _ (List.mem_of_getElem? (i := 28) rfl))) (by decide) (backOf (W := 0) (rm_des0 l Z a0 hw [] wMAX_EVENTS_REACHED wNETWORK_TERMINATED wSUBSCRIPTION_EXPIRED wACCESS_TOKEN_EXPIRED wSUBSCRIPTION_DELETED wSINK_GONE wUNSENDABLE d_MAX_EVENTS_REACHED_description d_ACCESS_TOKEN_EXPIRED_description d_SUBSCRIPTION_DELETED_description d_SUBSCRIPTION_EXPIRED_description d_NETWORK_TERMINATED_description hG wSUBSCRIPTION_DELETED d_SUBSCRIPTION_DELETED_description h22 n0 Z22 O22 (G20.ext O22.2) ) hZ (hw _ (List.mem_of_getElem? (i := 30) rfl)) (hw _ (List.mem_of_getElem? (i := 4) rfl)) (Nat.le_of_ble_eq_true rfl) (Nat.le_of_ble_eq_true rfl)) qa38 qc38 (g := (mkF m 82 #[.val (.int p0), .val (.int (4 : Int32)), .val (.ref b1), .val (.int (1 : Int32)), .val (.ref wSUBSCRIPTION_DELETED), .val (.int (1 : Int32)), .unset] [(.ref wSUBSCRIPTION_DELETED)])) rfl (by rw [hml]; rfl) (Steps.refl _) (argsL := []) (rest := []) (lenOf pd_1 rfl) rfl (by show 2 * 0 + _ ≤ _; exact Nat.le_of_eq rfl) (hb hby at_82) (fun _ _ => ⟨rfl, eq37, (Nat.le_of_ble_eq_true rfl : 1 + 0 ≤ _), (Nat.le_of_ble_eq_true rfl : 7 + 0 ≤ _)⟩)
    dsimp only [Pt.U, Pt.locs, Pt.cells, Pt.slots] at X38 l38 y38 z38 st38 hQ38
    subst l38 y38 z38
    obtain ⟨rfl, Nq38, eq38⟩ := hQ38
    have N38 := Fr.app N37 Nq38
    refine Go.by (fun _ k => st38.trans k) ?_
    show Go p e below P (T38.setTop (mkF m 85 #[.val (.int p0), .val (.int (4 : Int32)), .val (.ref b1), .val (.int (1 : Int32)), .val (.ref wSUBSCRIPTION_DELETED), .val (.int (1 : Int32)), .unset] [(.ref d_SUBSCRIPTION_DELETED_description)]))
    refine Go.by (fun _ => XS.ifnullNo X38.here hx rfl (hb hby at_85) rfl) ?_
    show Go p e below P (T38.setTop (mkF m 88 #[.val (.int p0), .val (.int (4 : Int32)), .val (.ref b1), .val (.int (1 : Int32)), .val (.ref wSUBSCRIPTION_DELETED), .val (.int (1 : Int32)), .unset] []))
    refine Go.by (fun _ => XS.iconst X38.here hx rfl (hb hby at_88)) ?_
    show Go p e below P (T38.setTop (mkF m 89 #[.val (.int p0), .val (.int (4 : Int32)), .val (.ref b1), .val (.int (1 : Int32)), .val (.ref wSUBSCRIPTION_DELETED), .val (.int (1 : Int32)), .unset] [(.int (1 : Int32))]))
    refine Go.by (fun _ => XS.goto X38.here hx rfl (pc0 := 89) (pc' := 93) rfl (hb hby at_89) (by decide) (by decide)) ?_
    show Go p e below P (T38.setTop (mkF m 93 #[.val (.int p0), .val (.int (4 : Int32)), .val (.ref b1), .val (.int (1 : Int32)), .val (.ref wSUBSCRIPTION_DELETED), .val (.int (1 : Int32)), .unset] [(.int (1 : Int32))]))
    refine Go.by (fun _ => XS.istore X38.here hx rfl (hb hby at_93) rfl (l' := #[.val (.int p0), .val (.int (4 : Int32)), .val (.ref b1), .val (.int (1 : Int32)), .val (.ref wSUBSCRIPTION_DELETED), .val (.int (1 : Int32)), .val (.int (1 : Int32))]) rfl) ?_
    show Go p e below P (T38.setTop (mkF m 95 #[.val (.int p0), .val (.int (4 : Int32)), .val (.ref b1), .val (.int (1 : Int32)), .val (.ref wSUBSCRIPTION_DELETED), .val (.int (1 : Int32)), .val (.int (1 : Int32))] []))
    refine Go.by (fun _ => XS.iload X38.here hx rfl (hb hby at_95) rfl) ?_
    show Go p e below P (T38.setTop (mkF m 97 #[.val (.int p0), .val (.int (4 : Int32)), .val (.ref b1), .val (.int (1 : Int32)), .val (.ref wSUBSCRIPTION_DELETED), .val (.int (1 : Int32)), .val (.int (1 : Int32))] [(.int (1 : Int32))]))
    refine Go.by (fun _ => XS.iloadN X38.here hx rfl (hb hby at_97) rfl) ?_
    show Go p e below P (T38.setTop (mkF m 98 #[.val (.int p0), .val (.int (4 : Int32)), .val (.ref b1), .val (.int (1 : Int32)), .val (.ref wSUBSCRIPTION_DELETED), .val (.int (1 : Int32)), .val (.int (1 : Int32))] [(.int (1 : Int32)), (.int (1 : Int32))]))
    have hc98 : (1 : Int32) = (1 : Int32) := by decide
    refine Go.by (fun _ => XS.icmpNo X38.here hx rfl (hb hby at_98) rfl (teq hc98).2) ?_
    show Go p e below P (T38.setTop (mkF m 101 #[.val (.int p0), .val (.int (4 : Int32)), .val (.ref b1), .val (.int (1 : Int32)), .val (.ref wSUBSCRIPTION_DELETED), .val (.int (1 : Int32)), .val (.int (1 : Int32))] []))
    refine Go.by (fun _ => XS.iload X38.here hx rfl (hb hby at_101) rfl) ?_
    show Go p e below P (T38.setTop (mkF m 103 #[.val (.int p0), .val (.int (4 : Int32)), .val (.ref b1), .val (.int (1 : Int32)), .val (.ref wSUBSCRIPTION_DELETED), .val (.int (1 : Int32)), .val (.int (1 : Int32))] [(.int (1 : Int32))]))
    refine Go.by (fun _ => XS.iload X38.here hx rfl (hb hby at_103) rfl) ?_
    show Go p e below P (T38.setTop (mkF m 105 #[.val (.int p0), .val (.int (4 : Int32)), .val (.ref b1), .val (.int (1 : Int32)), .val (.ref wSUBSCRIPTION_DELETED), .val (.int (1 : Int32)), .val (.int (1 : Int32))] [(.int (1 : Int32)), (.int (1 : Int32))]))
    have hc105 : (1 : Int32) = (1 : Int32) := by decide
    refine Go.by (fun _ => XS.icmpNo X38.here hx rfl (hb hby at_105) rfl (teq hc105).2) ?_
    show Go p e below P (T38.setTop (mkF m 108 #[.val (.int p0), .val (.int (4 : Int32)), .val (.ref b1), .val (.int (1 : Int32)), .val (.ref wSUBSCRIPTION_DELETED), .val (.int (1 : Int32)), .val (.int (1 : Int32))] []))
    refine Go.by (fun _ => XS.iconst X38.here hx rfl (hb hby at_108)) ?_
    show Go p e below P (T38.setTop (mkF m 109 #[.val (.int p0), .val (.int (4 : Int32)), .val (.ref b1), .val (.int (1 : Int32)), .val (.ref wSUBSCRIPTION_DELETED), .val (.int (1 : Int32)), .val (.int (1 : Int32))] [(.int (1 : Int32))]))
    refine Go.by (fun _ => XS.goto X38.here hx rfl (pc0 := 109) (pc' := 113) rfl (hb hby at_109) (by decide) (by decide)) ?_
    show Go p e below P (T38.setTop (mkF m 113 #[.val (.int p0), .val (.int (4 : Int32)), .val (.ref b1), .val (.int (1 : Int32)), .val (.ref wSUBSCRIPTION_DELETED), .val (.int (1 : Int32)), .val (.int (1 : Int32))] [(.int (1 : Int32))]))
    subst hP
    refine Go.retZ X38 hx (t := .boolean) Bd.returns (by simp) hlk (hb hby at_113) (Nat.le_of_ble_eq_true rfl) (Nat.le_of_ble_eq_true rfl) ?_
    rw [eq38]
    exact ⟨rfl, N38⟩
  · show Go p e below P (T22.setTop (mkF m 57 #[.val (.int p0), .val (.int (5 : Int32)), .val (.ref b1), .unset, .unset, .unset, .unset] []))
    refine Go.by (fun _ => XS.iloadN X22.here hx rfl (hb hby at_57) rfl) ?_
    show Go p e below P (T22.setTop (mkF m 58 #[.val (.int p0), .val (.int (5 : Int32)), .val (.ref b1), .unset, .unset, .unset, .unset] [(.int (5 : Int32))]))
    refine Go.by (fun _ => XS.iconst X22.here hx rfl (hb hby at_58)) ?_
    show Go p e below P (T22.setTop (mkF m 59 #[.val (.int p0), .val (.int (5 : Int32)), .val (.ref b1), .unset, .unset, .unset, .unset] [(.int (5 : Int32)), (.int (5 : Int32))]))
    have hc59 : ¬ ((5 : Int32) < (5 : Int32)) := by decide
    refine Go.by (fun _ => XS.icmpYes X22.here hx rfl (pc0 := 59) (pc' := 66) rfl (hb hby at_59) rfl (flt hc59).2.1 (by decide) (by decide)) ?_
    show Go p e below P (T22.setTop (mkF m 66 #[.val (.int p0), .val (.int (5 : Int32)), .val (.ref b1), .unset, .unset, .unset, .unset] []))
    refine Go.by (fun _ => XS.iconst X22.here hx rfl (hb hby at_66)) ?_
    show Go p e below P (T22.setTop (mkF m 67 #[.val (.int p0), .val (.int (5 : Int32)), .val (.ref b1), .unset, .unset, .unset, .unset] [(.int (0 : Int32))]))
    refine Go.by (fun _ => XS.istoreN X22.here hx rfl (hb hby at_67) rfl (l' := #[.val (.int p0), .val (.int (5 : Int32)), .val (.ref b1), .val (.int (0 : Int32)), .unset, .unset, .unset]) rfl) ?_
    show Go p e below P (T22.setTop (mkF m 68 #[.val (.int p0), .val (.int (5 : Int32)), .val (.ref b1), .val (.int (0 : Int32)), .unset, .unset, .unset] []))
    refine Go.by (fun _ => XS.aloadN X22.here hx rfl (hb hby at_68) rfl rfl) ?_
    show Go p e below P (T22.setTop (mkF m 69 #[.val (.int p0), .val (.int (5 : Int32)), .val (.ref b1), .val (.int (0 : Int32)), .unset, .unset, .unset] [(.ref b1)]))
    refine Go.by (fun _ => XS.iloadN X22.here hx rfl (hb hby at_69) rfl) ?_
    show Go p e below P (T22.setTop (mkF m 70 #[.val (.int p0), .val (.int (5 : Int32)), .val (.ref b1), .val (.int (0 : Int32)), .unset, .unset, .unset] [(.int (5 : Int32)), (.ref b1)]))
    obtain ⟨cl39, Ar39, qc39, Sz39, Ng39, Hs39, Gf39⟩ := F23
    have hin39 : ¬ ((5 : Int32) < 0 ∨ cl39.slots.size ≤ ((5 : Int32)).toNatClampNeg) := inb_of Sz39 ⟨by decide, by decide⟩
    refine Go.by (fun _ => X22.aaload hx (j := (5 : Int32)) (v := (.ref wSINK_GONE)) (by rw [e22]; exact Ar39.1) (State.isArrayOf_alike hZ.alike Ar39.2.1) rfl Ar39.2.2 hin39 (Has.at Hs39 hin39 rfl) (g := (mkF m 70 #[.val (.int p0), .val (.int (5 : Int32)), .val (.ref b1), .val (.int (0 : Int32)), .unset, .unset, .unset] [(.int (5 : Int32)), (.ref b1)])) rfl rfl (hb hby at_70) _) ?_
    show Go p e below P (T22.setTop (mkF m 71 #[.val (.int p0), .val (.int (5 : Int32)), .val (.ref b1), .val (.int (0 : Int32)), .unset, .unset, .unset] [(.ref wSINK_GONE)]))
    refine Go.by (fun _ => XS.astore X22.here hx rfl (hb hby at_71) rfl rfl (l' := #[.val (.int p0), .val (.int (5 : Int32)), .val (.ref b1), .val (.int (0 : Int32)), .val (.ref wSINK_GONE), .unset, .unset]) rfl) ?_
    show Go p e below P (T22.setTop (mkF m 73 #[.val (.int p0), .val (.int (5 : Int32)), .val (.ref b1), .val (.int (0 : Int32)), .val (.ref wSINK_GONE), .unset, .unset] []))
    refine Go.by (fun _ => XS.aload X22.here hx rfl (hb hby at_73) rfl rfl) ?_
    show Go p e below P (T22.setTop (mkF m 75 #[.val (.int p0), .val (.int (5 : Int32)), .val (.ref b1), .val (.int (0 : Int32)), .val (.ref wSINK_GONE), .unset, .unset] [(.ref wSINK_GONE)]))
    obtain ⟨cq40, kq40, qa40, qb40, qc40⟩ := isOf hZ e22 (G11.ext O22.2)
    obtain ⟨_, _, ⟨T40, L40, k40, n40⟩, -, X40, ⟨Lc40, hQ40, l40, y40, z40⟩, st40⟩ := X22.virtualBack hx (y := (⟨"com/example/portunus/portunus/reachability/TerminationReason", "isAnnounced", "()Z"⟩ : MethodName)) (z := (⟨"com/example/portunus/portunus/reachability/TerminationReason", "isAnnounced", "()Z"⟩ : MethodName)) hown (mvT hZ (hw _ (List.mem_of_getElem? (i := 19) rfl))) (mvT hZ (hw _ (List.mem_of_getElem? (i := 20) rfl))) (notFace_of_selects (args := #[]) (mvT hZ (hw _ (List.mem_of_getElem? (i := 22) rfl)))) (mvT hZ (hw _ (List.mem_of_getElem? (i := 22) rfl))) (mvT hZ (hw _ (List.mem_of_getElem? (i := 21) rfl))) (by decide) (backOf (W := 0) (rm_ann1 l Z a0 hw [] wMAX_EVENTS_REACHED wNETWORK_TERMINATED wSUBSCRIPTION_EXPIRED wACCESS_TOKEN_EXPIRED wSUBSCRIPTION_DELETED wSINK_GONE wUNSENDABLE d_MAX_EVENTS_REACHED_description d_ACCESS_TOKEN_EXPIRED_description d_SUBSCRIPTION_DELETED_description d_SUBSCRIPTION_EXPIRED_description d_NETWORK_TERMINATED_description hG wSINK_GONE h22 n0 Z22 O22 (G18.ext O22.2) ) hZ (hw _ (List.mem_of_getElem? (i := 23) rfl)) (hw _ (List.mem_of_getElem? (i := 4) rfl)) (Nat.le_of_ble_eq_true rfl) (Nat.le_of_ble_eq_true rfl)) qa40 qc40 (g := (mkF m 75 #[.val (.int p0), .val (.int (5 : Int32)), .val (.ref b1), .val (.int (0 : Int32)), .val (.ref wSINK_GONE), .unset, .unset] [(.ref wSINK_GONE)])) rfl (by rw [hml]; rfl) (Steps.refl _) (argsL := []) (rest := []) (lenOf pd_0 rfl) rfl (by show 2 * 0 + _ ≤ _; exact Nat.le_of_eq rfl) (hb hby at_75) (fun _ _ => ⟨rfl, e22, (Nat.le_of_ble_eq_true rfl : 1 + 0 ≤ _), (Nat.le_of_ble_eq_true rfl : 7 + 0 ≤ _)⟩)
    dsimp only [Pt.U, Pt.locs, Pt.cells, Pt.slots] at X40 l40 y40 z40 st40 hQ40
    subst l40 y40 z40
    obtain ⟨rfl, Nq40, eq40⟩ := hQ40
    have N40 := Fr.app N22 Nq40
    refine Go.by (fun _ k => st40.trans k) ?_
    show Go p e below P (T40.setTop (mkF m 78 #[.val (.int p0), .val (.int (5 : Int32)), .val (.ref b1), .val (.int (0 : Int32)), .val (.ref wSINK_GONE), .unset, .unset] [(.int (0 : Int32))]))
    refine Go.by (fun _ => XS.istore X40.here hx rfl (hb hby at_78) rfl (l' := #[.val (.int p0), .val (.int (5 : Int32)), .val (.ref b1), .val (.int (0 : Int32)), .val (.ref wSINK_GONE), .val (.int (0 : Int32)), .unset]) rfl) ?_
    show Go p e below P (T40.setTop (mkF m 80 #[.val (.int p0), .val (.int (5 : Int32)), .val (.ref b1), .val (.int (0 : Int32)), .val (.ref wSINK_GONE), .val (.int (0 : Int32)), .unset] []))
    refine Go.by (fun _ => XS.aload X40.here hx rfl (hb hby at_80) rfl rfl) ?_
    show Go p e below P (T40.setTop (mkF m 82 #[.val (.int p0), .val (.int (5 : Int32)), .val (.ref b1), .val (.int (0 : Int32)), .val (.ref wSINK_GONE), .val (.int (0 : Int32)), .unset] [(.ref wSINK_GONE)]))
    obtain ⟨cq41, kq41, qa41, qb41, qc41⟩ := isOf hZ eq40 (G11.ext O22.2)
    obtain ⟨_, _, ⟨T41, L41, k41, n41⟩, -, X41, ⟨Lc41, hQ41, l41, y41, z41⟩, st41⟩ := X40.virtualBack hx (y := (⟨"com/example/portunus/portunus/reachability/TerminationReason", "description", "()Ljava/lang/String;"⟩ : MethodName)) (z := (⟨"com/example/portunus/portunus/reachability/TerminationReason", "description", "()Ljava/lang/String;"⟩ : MethodName)) hown (mvT hZ (hw _ (List.mem_of_getElem? (i := 26) rfl))) (mvT hZ (hw _ (List.mem_of_getElem? (i := 27) rfl))) (notFace_of_selects (args := #[]) (mvT hZ (hw _ (List.mem_of_getElem? (i := 29) rfl)))) (mvT hZ (hw _ (List.mem_of_getElem? (i := 29) rfl))) (mvT hZ (hw _ (List.mem_of_getElem? (i := 28) rfl))) (by decide) (backOf (W := 0) (rm_des1 l Z a0 hw [] wMAX_EVENTS_REACHED wNETWORK_TERMINATED wSUBSCRIPTION_EXPIRED wACCESS_TOKEN_EXPIRED wSUBSCRIPTION_DELETED wSINK_GONE wUNSENDABLE d_MAX_EVENTS_REACHED_description d_ACCESS_TOKEN_EXPIRED_description d_SUBSCRIPTION_DELETED_description d_SUBSCRIPTION_EXPIRED_description d_NETWORK_TERMINATED_description hG wSINK_GONE h22 n0 Z22 O22 (G18.ext O22.2) ) hZ (hw _ (List.mem_of_getElem? (i := 30) rfl)) (hw _ (List.mem_of_getElem? (i := 4) rfl)) (Nat.le_of_ble_eq_true rfl) (Nat.le_of_ble_eq_true rfl)) qa41 qc41 (g := (mkF m 82 #[.val (.int p0), .val (.int (5 : Int32)), .val (.ref b1), .val (.int (0 : Int32)), .val (.ref wSINK_GONE), .val (.int (0 : Int32)), .unset] [(.ref wSINK_GONE)])) rfl (by rw [hml]; rfl) (Steps.refl _) (argsL := []) (rest := []) (lenOf pd_1 rfl) rfl (by show 2 * 0 + _ ≤ _; exact Nat.le_of_eq rfl) (hb hby at_82) (fun _ _ => ⟨rfl, eq40, (Nat.le_of_ble_eq_true rfl : 1 + 0 ≤ _), (Nat.le_of_ble_eq_true rfl : 7 + 0 ≤ _)⟩)
    dsimp only [Pt.U, Pt.locs, Pt.cells, Pt.slots] at X41 l41 y41 z41 st41 hQ41
    subst l41 y41 z41
    obtain ⟨rfl, Nq41, eq41⟩ := hQ41
    have N41 := Fr.app N40 Nq41
    refine Go.by (fun _ k => st41.trans k) ?_
    show Go p e below P (T41.setTop (mkF m 85 #[.val (.int p0), .val (.int (5 : Int32)), .val (.ref b1), .val (.int (0 : Int32)), .val (.ref wSINK_GONE), .val (.int (0 : Int32)), .unset] [.null]))
    refine Go.by (fun _ => XS.ifnullYes X41.here hx rfl (pc0 := 85) (pc' := 92) rfl (hb hby at_85) rfl (by decide) (by decide)) ?_
    show Go p e below P (T41.setTop (mkF m 92 #[.val (.int p0), .val (.int (5 : Int32)), .val (.ref b1), .val (.int (0 : Int32)), .val (.ref wSINK_GONE), .val (.int (0 : Int32)), .unset] []))
    refine Go.by (fun _ => XS.iconst X41.here hx rfl (hb hby at_92)) ?_
    show Go p e below P (T41.setTop (mkF m 93 #[.val (.int p0), .val (.int (5 : Int32)), .val (.ref b1), .val (.int (0 : Int32)), .val (.ref wSINK_GONE), .val (.int (0 : Int32)), .unset] [(.int (0 : Int32))]))
    refine Go.by (fun _ => XS.istore X41.here hx rfl (hb hby at_93) rfl (l' := #[.val (.int p0), .val (.int (5 : Int32)), .val (.ref b1), .val (.int (0 : Int32)), .val (.ref wSINK_GONE), .val (.int (0 : Int32)), .val (.int (0 : Int32))]) rfl) ?_
    show Go p e below P (T41.setTop (mkF m 95 #[.val (.int p0), .val (.int (5 : Int32)), .val (.ref b1), .val (.int (0 : Int32)), .val (.ref wSINK_GONE), .val (.int (0 : Int32)), .val (.int (0 : Int32))] []))
    refine Go.by (fun _ => XS.iload X41.here hx rfl (hb hby at_95) rfl) ?_
    show Go p e below P (T41.setTop (mkF m 97 #[.val (.int p0), .val (.int (5 : Int32)), .val (.ref b1), .val (.int (0 : Int32)), .val (.ref wSINK_GONE), .val (.int (0 : Int32)), .val (.int (0 : Int32))] [(.int (0 : Int32))]))
    refine Go.by (fun _ => XS.iloadN X41.here hx rfl (hb hby at_97) rfl) ?_
    show Go p e below P (T41.setTop (mkF m 98 #[.val (.int p0), .val (.int (5 : Int32)), .val (.ref b1), .val (.int (0 : Int32)), .val (.ref wSINK_GONE), .val (.int (0 : Int32)), .val (.int (0 : Int32))] [(.int (0 : Int32)), (.int (0 : Int32))]))
    have hc98 : (0 : Int32) = (0 : Int32) := by decide
    refine Go.by (fun _ => XS.icmpNo X41.here hx rfl (hb hby at_98) rfl (teq hc98).2) ?_
    show Go p e below P (T41.setTop (mkF m 101 #[.val (.int p0), .val (.int (5 : Int32)), .val (.ref b1), .val (.int (0 : Int32)), .val (.ref wSINK_GONE), .val (.int (0 : Int32)), .val (.int (0 : Int32))] []))
    refine Go.by (fun _ => XS.iload X41.here hx rfl (hb hby at_101) rfl) ?_
    show Go p e below P (T41.setTop (mkF m 103 #[.val (.int p0), .val (.int (5 : Int32)), .val (.ref b1), .val (.int (0 : Int32)), .val (.ref wSINK_GONE), .val (.int (0 : Int32)), .val (.int (0 : Int32))] [(.int (0 : Int32))]))
    refine Go.by (fun _ => XS.iload X41.here hx rfl (hb hby at_103) rfl) ?_
    show Go p e below P (T41.setTop (mkF m 105 #[.val (.int p0), .val (.int (5 : Int32)), .val (.ref b1), .val (.int (0 : Int32)), .val (.ref wSINK_GONE), .val (.int (0 : Int32)), .val (.int (0 : Int32))] [(.int (0 : Int32)), (.int (0 : Int32))]))
    have hc105 : (0 : Int32) = (0 : Int32) := by decide
    refine Go.by (fun _ => XS.icmpNo X41.here hx rfl (hb hby at_105) rfl (teq hc105).2) ?_
    show Go p e below P (T41.setTop (mkF m 108 #[.val (.int p0), .val (.int (5 : Int32)), .val (.ref b1), .val (.int (0 : Int32)), .val (.ref wSINK_GONE), .val (.int (0 : Int32)), .val (.int (0 : Int32))] []))
    refine Go.by (fun _ => XS.iconst X41.here hx rfl (hb hby at_108)) ?_
    show Go p e below P (T41.setTop (mkF m 109 #[.val (.int p0), .val (.int (5 : Int32)), .val (.ref b1), .val (.int (0 : Int32)), .val (.ref wSINK_GONE), .val (.int (0 : Int32)), .val (.int (0 : Int32))] [(.int (1 : Int32))]))
    refine Go.by (fun _ => XS.goto X41.here hx rfl (pc0 := 109) (pc' := 113) rfl (hb hby at_109) (by decide) (by decide)) ?_
    show Go p e below P (T41.setTop (mkF m 113 #[.val (.int p0), .val (.int (5 : Int32)), .val (.ref b1), .val (.int (0 : Int32)), .val (.ref wSINK_GONE), .val (.int (0 : Int32)), .val (.int (0 : Int32))] [(.int (1 : Int32))]))
    subst hP
    refine Go.retZ X41 hx (t := .boolean) Bd.returns (by simp) hlk (hb hby at_113) (Nat.le_of_ble_eq_true rfl) (Nat.le_of_ble_eq_true rfl) ?_
    rw [eq41]
    exact ⟨rfl, N41⟩
  · show Go p e below P (T22.setTop (mkF m 57 #[.val (.int p0), .val (.int (6 : Int32)), .val (.ref b1), .unset, .unset, .unset, .unset] []))
    refine Go.by (fun _ => XS.iloadN X22.here hx rfl (hb hby at_57) rfl) ?_
    show Go p e below P (T22.setTop (mkF m 58 #[.val (.int p0), .val (.int (6 : Int32)), .val (.ref b1), .unset, .unset, .unset, .unset] [(.int (6 : Int32))]))
    refine Go.by (fun _ => XS.iconst X22.here hx rfl (hb hby at_58)) ?_
    show Go p e below P (T22.setTop (mkF m 59 #[.val (.int p0), .val (.int (6 : Int32)), .val (.ref b1), .unset, .unset, .unset, .unset] [(.int (5 : Int32)), (.int (6 : Int32))]))
    have hc59 : ¬ ((6 : Int32) < (5 : Int32)) := by decide
    refine Go.by (fun _ => XS.icmpYes X22.here hx rfl (pc0 := 59) (pc' := 66) rfl (hb hby at_59) rfl (flt hc59).2.1 (by decide) (by decide)) ?_
    show Go p e below P (T22.setTop (mkF m 66 #[.val (.int p0), .val (.int (6 : Int32)), .val (.ref b1), .unset, .unset, .unset, .unset] []))
    refine Go.by (fun _ => XS.iconst X22.here hx rfl (hb hby at_66)) ?_
    show Go p e below P (T22.setTop (mkF m 67 #[.val (.int p0), .val (.int (6 : Int32)), .val (.ref b1), .unset, .unset, .unset, .unset] [(.int (0 : Int32))]))
    refine Go.by (fun _ => XS.istoreN X22.here hx rfl (hb hby at_67) rfl (l' := #[.val (.int p0), .val (.int (6 : Int32)), .val (.ref b1), .val (.int (0 : Int32)), .unset, .unset, .unset]) rfl) ?_
    show Go p e below P (T22.setTop (mkF m 68 #[.val (.int p0), .val (.int (6 : Int32)), .val (.ref b1), .val (.int (0 : Int32)), .unset, .unset, .unset] []))
    refine Go.by (fun _ => XS.aloadN X22.here hx rfl (hb hby at_68) rfl rfl) ?_
    show Go p e below P (T22.setTop (mkF m 69 #[.val (.int p0), .val (.int (6 : Int32)), .val (.ref b1), .val (.int (0 : Int32)), .unset, .unset, .unset] [(.ref b1)]))
    refine Go.by (fun _ => XS.iloadN X22.here hx rfl (hb hby at_69) rfl) ?_
    show Go p e below P (T22.setTop (mkF m 70 #[.val (.int p0), .val (.int (6 : Int32)), .val (.ref b1), .val (.int (0 : Int32)), .unset, .unset, .unset] [(.int (6 : Int32)), (.ref b1)]))
    obtain ⟨cl42, Ar42, qc42, Sz42, Ng42, Hs42, Gf42⟩ := F23
    have hin42 : ¬ ((6 : Int32) < 0 ∨ cl42.slots.size ≤ ((6 : Int32)).toNatClampNeg) := inb_of Sz42 ⟨by decide, by decide⟩
    refine Go.by (fun _ => X22.aaload hx (j := (6 : Int32)) (v := (.ref wUNSENDABLE)) (by rw [e22]; exact Ar42.1) (State.isArrayOf_alike hZ.alike Ar42.2.1) rfl Ar42.2.2 hin42 (Has.at Hs42 hin42 rfl) (g := (mkF m 70 #[.val (.int p0), .val (.int (6 : Int32)), .val (.ref b1), .val (.int (0 : Int32)), .unset, .unset, .unset] [(.int (6 : Int32)), (.ref b1)])) rfl rfl (hb hby at_70) _) ?_
    show Go p e below P (T22.setTop (mkF m 71 #[.val (.int p0), .val (.int (6 : Int32)), .val (.ref b1), .val (.int (0 : Int32)), .unset, .unset, .unset] [(.ref wUNSENDABLE)]))
    refine Go.by (fun _ => XS.astore X22.here hx rfl (hb hby at_71) rfl rfl (l' := #[.val (.int p0), .val (.int (6 : Int32)), .val (.ref b1), .val (.int (0 : Int32)), .val (.ref wUNSENDABLE), .unset, .unset]) rfl) ?_
    show Go p e below P (T22.setTop (mkF m 73 #[.val (.int p0), .val (.int (6 : Int32)), .val (.ref b1), .val (.int (0 : Int32)), .val (.ref wUNSENDABLE), .unset, .unset] []))
    refine Go.by (fun _ => XS.aload X22.here hx rfl (hb hby at_73) rfl rfl) ?_
    show Go p e below P (T22.setTop (mkF m 75 #[.val (.int p0), .val (.int (6 : Int32)), .val (.ref b1), .val (.int (0 : Int32)), .val (.ref wUNSENDABLE), .unset, .unset] [(.ref wUNSENDABLE)]))
    obtain ⟨cq43, kq43, qa43, qb43, qc43⟩ := isOf hZ e22 (G13.ext O22.2)
    obtain ⟨_, _, ⟨T43, L43, k43, n43⟩, -, X43, ⟨Lc43, hQ43, l43, y43, z43⟩, st43⟩ := X22.virtualBack hx (y := (⟨"com/example/portunus/portunus/reachability/TerminationReason", "isAnnounced", "()Z"⟩ : MethodName)) (z := (⟨"com/example/portunus/portunus/reachability/TerminationReason", "isAnnounced", "()Z"⟩ : MethodName)) hown (mvT hZ (hw _ (List.mem_of_getElem? (i := 19) rfl))) (mvT hZ (hw _ (List.mem_of_getElem? (i := 20) rfl))) (notFace_of_selects (args := #[]) (mvT hZ (hw _ (List.mem_of_getElem? (i := 22) rfl)))) (mvT hZ (hw _ (List.mem_of_getElem? (i := 22) rfl))) (mvT hZ (hw _ (List.mem_of_getElem? (i := 21) rfl))) (by decide) (backOf (W := 0) (rm_ann1 l Z a0 hw [] wMAX_EVENTS_REACHED wNETWORK_TERMINATED wSUBSCRIPTION_EXPIRED wACCESS_TOKEN_EXPIRED wSUBSCRIPTION_DELETED wSINK_GONE wUNSENDABLE d_MAX_EVENTS_REACHED_description d_ACCESS_TOKEN_EXPIRED_description d_SUBSCRIPTION_DELETED_description d_SUBSCRIPTION_EXPIRED_description d_NETWORK_TERMINATED_description hG wUNSENDABLE h22 n0 Z22 O22 (G19.ext O22.2) ) hZ (hw _ (List.mem_of_getElem? (i := 23) rfl)) (hw _ (List.mem_of_getElem? (i := 4) rfl)) (Nat.le_of_ble_eq_true rfl) (Nat.le_of_ble_eq_true rfl)) qa43 qc43 (g := (mkF m 75 #[.val (.int p0), .val (.int (6 : Int32)), .val (.ref b1), .val (.int (0 : Int32)), .val (.ref wUNSENDABLE), .unset, .unset] [(.ref wUNSENDABLE)])) rfl (by rw [hml]; rfl) (Steps.refl _) (argsL := []) (rest := []) (lenOf pd_0 rfl) rfl (by show 2 * 0 + _ ≤ _; exact Nat.le_of_eq rfl) (hb hby at_75) (fun _ _ => ⟨rfl, e22, (Nat.le_of_ble_eq_true rfl : 1 + 0 ≤ _), (Nat.le_of_ble_eq_true rfl : 7 + 0 ≤ _)⟩)
    dsimp only [Pt.U, Pt.locs, Pt.cells, Pt.slots] at X43 l43 y43 z43 st43 hQ43
    subst l43 y43 z43
    obtain ⟨rfl, Nq43, eq43⟩ := hQ43
    have N43 := Fr.app N22 Nq43
    refine Go.by (fun _ k => st43.trans k) ?_
    show Go p e below P (T43.setTop (mkF m 78 #[.val (.int p0), .val (.int (6 : Int32)), .val (.ref b1), .val (.int (0 : Int32)), .val (.ref wUNSENDABLE), .unset, .unset] [(.int (0 : Int32))]))
    refine Go.by (fun _ => XS.istore X43.here hx rfl (hb hby at_78) rfl (l' := #[.val (.int p0), .val (.int (6 : Int32)), .val (.ref b1), .val (.int (0 : Int32)), .val (.ref wUNSENDABLE), .val (.int (0 : Int32)), .unset]) rfl) ?_
    show Go p e below P (T43.setTop (mkF m 80 #[.val (.int p0), .val (.int (6 : Int32)), .val (.ref b1), .val (.int (0 : Int32)), .val (.ref wUNSENDABLE), .val (.int (0 : Int32)), .unset] []))
    refine Go.by (fun _ => XS.aload X43.here hx rfl (hb hby at_80) rfl rfl) ?_
    show Go p e below P (T43.setTop (mkF m 82 #[.val (.int p0), .val (.int (6 : Int32)), .val (.ref b1), .val (.int (0 : Int32)), .val (.ref wUNSENDABLE), .val (.int (0 : Int32)), .unset] [(.ref wUNSENDABLE)]))
    obtain ⟨cq44, kq44, qa44, qb44, qc44⟩ := isOf hZ eq43 (G13.ext O22.2)
    obtain ⟨_, _, ⟨T44, L44, k44, n44⟩, -, X44, ⟨Lc44, hQ44, l44, y44, z44⟩, st44⟩ := X43.virtualBack hx (y := (⟨"com/example/portunus/portunus/reachability/TerminationReason", "description", "()Ljava/lang/String;"⟩ : MethodName)) (z := (⟨"com/example/portunus/portunus/reachability/TerminationReason", "description", "()Ljava/lang/String;"⟩ : MethodName)) hown (mvT hZ (hw _ (List.mem_of_getElem? (i := 26) rfl))) (mvT hZ (hw _ (List.mem_of_getElem? (i := 27) rfl))) (notFace_of_selects (args := #[]) (mvT hZ (hw _ (List.mem_of_getElem? (i := 29) rfl)))) (mvT hZ (hw _ (List.mem_of_getElem? (i := 29) rfl))) (mvT hZ (hw _ (List.mem_of_getElem? (i := 28) rfl))) (by decide) (backOf (W := 0) (rm_des1 l Z a0 hw [] wMAX_EVENTS_REACHED wNETWORK_TERMINATED wSUBSCRIPTION_EXPIRED wACCESS_TOKEN_EXPIRED wSUBSCRIPTION_DELETED wSINK_GONE wUNSENDABLE d_MAX_EVENTS_REACHED_description d_ACCESS_TOKEN_EXPIRED_description d_SUBSCRIPTION_DELETED_description d_SUBSCRIPTION_EXPIRED_description d_NETWORK_TERMINATED_description hG wUNSENDABLE h22 n0 Z22 O22 (G19.ext O22.2) ) hZ (hw _ (List.mem_of_getElem? (i := 30) rfl)) (hw _ (List.mem_of_getElem? (i := 4) rfl)) (Nat.le_of_ble_eq_true rfl) (Nat.le_of_ble_eq_true rfl)) qa44 qc44 (g := (mkF m 82 #[.val (.int p0), .val (.int (6 : Int32)), .val (.ref b1), .val (.int (0 : Int32)), .val (.ref wUNSENDABLE), .val (.int (0 : Int32)), .unset] [(.ref wUNSENDABLE)])) rfl (by rw [hml]; rfl) (Steps.refl _) (argsL := []) (rest := []) (lenOf pd_1 rfl) rfl (by show 2 * 0 + _ ≤ _; exact Nat.le_of_eq rfl) (hb hby at_82) (fun _ _ => ⟨rfl, eq43, (Nat.le_of_ble_eq_true rfl : 1 + 0 ≤ _), (Nat.le_of_ble_eq_true rfl : 7 + 0 ≤ _)⟩)
    dsimp only [Pt.U, Pt.locs, Pt.cells, Pt.slots] at X44 l44 y44 z44 st44 hQ44
    subst l44 y44 z44
    obtain ⟨rfl, Nq44, eq44⟩ := hQ44
    have N44 := Fr.app N43 Nq44
    refine Go.by (fun _ k => st44.trans k) ?_
    show Go p e below P (T44.setTop (mkF m 85 #[.val (.int p0), .val (.int (6 : Int32)), .val (.ref b1), .val (.int (0 : Int32)), .val (.ref wUNSENDABLE), .val (.int (0 : Int32)), .unset] [.null]))
    refine Go.by (fun _ => XS.ifnullYes X44.here hx rfl (pc0 := 85) (pc' := 92) rfl (hb hby at_85) rfl (by decide) (by decide)) ?_
    show Go p e below P (T44.setTop (mkF m 92 #[.val (.int p0), .val (.int (6 : Int32)), .val (.ref b1), .val (.int (0 : Int32)), .val (.ref wUNSENDABLE), .val (.int (0 : Int32)), .unset] []))
    refine Go.by (fun _ => XS.iconst X44.here hx rfl (hb hby at_92)) ?_
    show Go p e below P (T44.setTop (mkF m 93 #[.val (.int p0), .val (.int (6 : Int32)), .val (.ref b1), .val (.int (0 : Int32)), .val (.ref wUNSENDABLE), .val (.int (0 : Int32)), .unset] [(.int (0 : Int32))]))
    refine Go.by (fun _ => XS.istore X44.here hx rfl (hb hby at_93) rfl (l' := #[.val (.int p0), .val (.int (6 : Int32)), .val (.ref b1), .val (.int (0 : Int32)), .val (.ref wUNSENDABLE), .val (.int (0 : Int32)), .val (.int (0 : Int32))]) rfl) ?_
    show Go p e below P (T44.setTop (mkF m 95 #[.val (.int p0), .val (.int (6 : Int32)), .val (.ref b1), .val (.int (0 : Int32)), .val (.ref wUNSENDABLE), .val (.int (0 : Int32)), .val (.int (0 : Int32))] []))
    refine Go.by (fun _ => XS.iload X44.here hx rfl (hb hby at_95) rfl) ?_
    show Go p e below P (T44.setTop (mkF m 97 #[.val (.int p0), .val (.int (6 : Int32)), .val (.ref b1), .val (.int (0 : Int32)), .val (.ref wUNSENDABLE), .val (.int (0 : Int32)), .val (.int (0 : Int32))] [(.int (0 : Int32))]))
    refine Go.by (fun _ => XS.iloadN X44.here hx rfl (hb hby at_97) rfl) ?_
    show Go p e below P (T44.setTop (mkF m 98 #[.val (.int p0), .val (.int (6 : Int32)), .val (.ref b1), .val (.int (0 : Int32)), .val (.ref wUNSENDABLE), .val (.int (0 : Int32)), .val (.int (0 : Int32))] [(.int (0 : Int32)), (.int (0 : Int32))]))
    have hc98 : (0 : Int32) = (0 : Int32) := by decide
    refine Go.by (fun _ => XS.icmpNo X44.here hx rfl (hb hby at_98) rfl (teq hc98).2) ?_
    show Go p e below P (T44.setTop (mkF m 101 #[.val (.int p0), .val (.int (6 : Int32)), .val (.ref b1), .val (.int (0 : Int32)), .val (.ref wUNSENDABLE), .val (.int (0 : Int32)), .val (.int (0 : Int32))] []))
    refine Go.by (fun _ => XS.iload X44.here hx rfl (hb hby at_101) rfl) ?_
    show Go p e below P (T44.setTop (mkF m 103 #[.val (.int p0), .val (.int (6 : Int32)), .val (.ref b1), .val (.int (0 : Int32)), .val (.ref wUNSENDABLE), .val (.int (0 : Int32)), .val (.int (0 : Int32))] [(.int (0 : Int32))]))
    refine Go.by (fun _ => XS.iload X44.here hx rfl (hb hby at_103) rfl) ?_
    show Go p e below P (T44.setTop (mkF m 105 #[.val (.int p0), .val (.int (6 : Int32)), .val (.ref b1), .val (.int (0 : Int32)), .val (.ref wUNSENDABLE), .val (.int (0 : Int32)), .val (.int (0 : Int32))] [(.int (0 : Int32)), (.int (0 : Int32))]))
    have hc105 : (0 : Int32) = (0 : Int32) := by decide
    refine Go.by (fun _ => XS.icmpNo X44.here hx rfl (hb hby at_105) rfl (teq hc105).2) ?_
    show Go p e below P (T44.setTop (mkF m 108 #[.val (.int p0), .val (.int (6 : Int32)), .val (.ref b1), .val (.int (0 : Int32)), .val (.ref wUNSENDABLE), .val (.int (0 : Int32)), .val (.int (0 : Int32))] []))
    refine Go.by (fun _ => XS.iconst X44.here hx rfl (hb hby at_108)) ?_
    show Go p e below P (T44.setTop (mkF m 109 #[.val (.int p0), .val (.int (6 : Int32)), .val (.ref b1), .val (.int (0 : Int32)), .val (.ref wUNSENDABLE), .val (.int (0 : Int32)), .val (.int (0 : Int32))] [(.int (1 : Int32))]))
    refine Go.by (fun _ => XS.goto X44.here hx rfl (pc0 := 109) (pc' := 113) rfl (hb hby at_109) (by decide) (by decide)) ?_
    show Go p e below P (T44.setTop (mkF m 113 #[.val (.int p0), .val (.int (6 : Int32)), .val (.ref b1), .val (.int (0 : Int32)), .val (.ref wUNSENDABLE), .val (.int (0 : Int32)), .val (.int (0 : Int32))] [(.int (1 : Int32))]))
    subst hP
    refine Go.retZ X44 hx (t := .boolean) Bd.returns (by simp) hlk (hb hby at_113) (Nat.le_of_ble_eq_true rfl) (Nat.le_of_ble_eq_true rfl) ?_
    rw [eq44]
    exact ⟨rfl, N44⟩
set_option maxRecDepth 65536 in
set_option maxHeartbeats 40000000 in
theorem comes_1 {Post : Tables → Env → Array Value → State → Outcome → State → Prop} (hpost : ∀ tb e args s v u, (limb_1_1.after args s (.returned v) u = true ∧ limb_1_2.after args s (.returned v) u = true ∧ True) → FrameEnd s (.returned v) u (Jvm.fieldLocs frame_1_writes args s ++ Jvm.arrayLocs frame_1_arrays args s ++ Jvm.staticLocs frame_1_statics s) 16 128 → Post tb e args s (.returned v) u) :
    ArmFor flags0 classFile x code maxLocals ret World_1 tables_1 room_1 Calls_1 rest_1 Pre_1 Post := by
  intro l hfl _ _ p e ha hc hk s m args below hf hA hF happ hP
  obtain ⟨hcalls, hrest, hpre⟩ := hP
  obtain ⟨-, -, -, hnamed, -, -, -, hat⟩ := (Spec.applies_iff hf).mp happ
  obtain ⟨hg, hn⟩ := and_e (Cond.before_iff.mp (show (Jvm.Cond.and given_1 narrow_1).before args s = true from hpre))
  obtain ⟨hg0, hr0⟩ := and_e hg
  obtain ⟨w0, rfl⟩ : ∃ w0 : Value, args = #[w0] := by
    have hs : args.size = 1 := by simpa [Cond.value, given_1] using hg0
    obtain ⟨L⟩ := args
    match L, hs with
    | [w0], _ => exact ⟨w0, rfl⟩
  have hw := fun d (hd : d ∈ tables_1) => atoms_spec (ws := Jvm.Cond.code x code maxLocals ret :: tables_1) hat d (List.mem_cons_of_mem _ hd)
  have hfit : Fit s := fun {y c} hc i hi => by
    obtain ⟨ha, rfl⟩ := Array.getElem?_eq_some_iff.mp hc
    have q := List.all_eq_true.mp ((Array.all_eq_true_iff_forall_mem.mp hF) _ (Array.getElem_mem ha)) i (List.mem_range.mpr hi)
    simpa [Array.getElem?_eq_getElem hi] using q
  obtain ⟨i0, ei0⟩ := is_v hr0
  obtain rfl : w0 = (.int i0) := Option.some.inj ei0
  obtain ⟨nn0, nn_r0⟩ := and_e hn
  obtain ⟨nn1, nn_r1⟩ := and_e nn_r0
  obtain ⟨nn2, nn_r2⟩ := and_e nn_r1
  obtain ⟨nn3, nn_r3⟩ := and_e nn_r2
  obtain ⟨nn4, nn_r4⟩ := and_e nn_r3
  obtain ⟨nn5, nn_r5⟩ := and_e nn_r4
  obtain ⟨nn6, nn_r6⟩ := and_e nn_r5
  obtain ⟨nn7, nn_r7⟩ := and_e nn_r6
  obtain ⟨nn8, nn_r8⟩ := and_e nn_r7
  obtain ⟨nn9, nn_r9⟩ := and_e nn_r8
  obtain ⟨nn10, nn_r10⟩ := and_e nn_r9
  obtain ⟨nn11, nn_r11⟩ := and_e nn_r10
  obtain ⟨nn12, nn_r12⟩ := and_e nn_r11
  obtain ⟨wMAX_EVENTS_REACHED, eMAX_EVENTS_REACHED⟩ := exa_v nn0
  obtain ⟨wNETWORK_TERMINATED, eNETWORK_TERMINATED⟩ := exa_v nn1
  obtain ⟨wSUBSCRIPTION_EXPIRED, eSUBSCRIPTION_EXPIRED⟩ := exa_v nn2
  obtain ⟨wACCESS_TOKEN_EXPIRED, eACCESS_TOKEN_EXPIRED⟩ := exa_v nn3
  obtain ⟨wSUBSCRIPTION_DELETED, eSUBSCRIPTION_DELETED⟩ := exa_v nn4
  obtain ⟨wSINK_GONE, eSINK_GONE⟩ := exa_v nn5
  obtain ⟨wUNSENDABLE, eUNSENDABLE⟩ := exa_v nn6
  obtain ⟨d_MAX_EVENTS_REACHED_description, ed_MAX_EVENTS_REACHED_description⟩ := exa_v nn7
  obtain ⟨d_ACCESS_TOKEN_EXPIRED_description, ed_ACCESS_TOKEN_EXPIRED_description⟩ := exa_v nn8
  obtain ⟨d_SUBSCRIPTION_DELETED_description, ed_SUBSCRIPTION_DELETED_description⟩ := exa_v nn11
  obtain ⟨d_SUBSCRIPTION_EXPIRED_description, ed_SUBSCRIPTION_EXPIRED_description⟩ := exa_v nn12
  obtain ⟨d_NETWORK_TERMINATED_description, ed_NETWORK_TERMINATED_description⟩ := exa_v nn_r12
  have hG : Glob s wMAX_EVENTS_REACHED wNETWORK_TERMINATED wSUBSCRIPTION_EXPIRED wACCESS_TOKEN_EXPIRED wSUBSCRIPTION_DELETED wSINK_GONE wUNSENDABLE d_MAX_EVENTS_REACHED_description d_ACCESS_TOKEN_EXPIRED_description d_SUBSCRIPTION_DELETED_description d_SUBSCRIPTION_EXPIRED_description d_NETWORK_TERMINATED_description := ⟨Sta.start eMAX_EVENTS_REACHED (Or.inr ⟨(hw _ (List.mem_of_getElem? (i := 4) rfl)), (hw _ (List.mem_of_getElem? (i := 5) rfl))⟩), Exa.start eMAX_EVENTS_REACHED nn0, Sta.start eNETWORK_TERMINATED (Or.inr ⟨(hw _ (List.mem_of_getElem? (i := 4) rfl)), (hw _ (List.mem_of_getElem? (i := 8) rfl))⟩), Exa.start eNETWORK_TERMINATED nn1, Sta.start eSUBSCRIPTION_EXPIRED (Or.inr ⟨(hw _ (List.mem_of_getElem? (i := 4) rfl)), (hw _ (List.mem_of_getElem? (i := 10) rfl))⟩), Exa.start eSUBSCRIPTION_EXPIRED nn2, Sta.start eACCESS_TOKEN_EXPIRED (Or.inr ⟨(hw _ (List.mem_of_getElem? (i := 4) rfl)), (hw _ (List.mem_of_getElem? (i := 12) rfl))⟩), Exa.start eACCESS_TOKEN_EXPIRED nn3, Sta.start eSUBSCRIPTION_DELETED (Or.inr ⟨(hw _ (List.mem_of_getElem? (i := 4) rfl)), (hw _ (List.mem_of_getElem? (i := 14) rfl))⟩), Exa.start eSUBSCRIPTION_DELETED nn4, Sta.start eSINK_GONE (Or.inr ⟨(hw _ (List.mem_of_getElem? (i := 4) rfl)), (hw _ (List.mem_of_getElem? (i := 16) rfl))⟩), Exa.start eSINK_GONE nn5, Sta.start eUNSENDABLE (Or.inr ⟨(hw _ (List.mem_of_getElem? (i := 4) rfl)), (hw _ (List.mem_of_getElem? (i := 18) rfl))⟩), Exa.start eUNSENDABLE nn6, Fld.start ((fld_at eMAX_EVENTS_REACHED).symm.trans ed_MAX_EVENTS_REACHED_description), Exa.start ed_MAX_EVENTS_REACHED_description nn7, Fld.start ((fld_at eACCESS_TOKEN_EXPIRED).symm.trans ed_ACCESS_TOKEN_EXPIRED_description), Exa.start ed_ACCESS_TOKEN_EXPIRED_description nn8, Fld.start ((fld_at eSINK_GONE).symm.trans (null_v nn9)), Fld.start ((fld_at eUNSENDABLE).symm.trans (null_v nn10)), Fld.start ((fld_at eSUBSCRIPTION_DELETED).symm.trans ed_SUBSCRIPTION_DELETED_description), Exa.start ed_SUBSCRIPTION_DELETED_description nn11, Fld.start ((fld_at eSUBSCRIPTION_EXPIRED).symm.trans ed_SUBSCRIPTION_EXPIRED_description), Exa.start ed_SUBSCRIPTION_EXPIRED_description nn12, Fld.start ((fld_at eNETWORK_TERMINATED).symm.trans ed_NETWORK_TERMINATED_description), Exa.start ed_NETWORK_TERMINATED_description nn_r12⟩
  obtain ⟨n, o, h1, h2, h3, _, L, rfl, ⟨rfl, N⟩, hq⟩ := rm_law l s _ hw tables_1 wMAX_EVENTS_REACHED wNETWORK_TERMINATED wSUBSCRIPTION_EXPIRED wACCESS_TOKEN_EXPIRED wSUBSCRIPTION_DELETED wSINK_GONE wUNSENDABLE d_MAX_EVENTS_REACHED_description d_ACCESS_TOKEN_EXPIRED_description d_SUBSCRIPTION_DELETED_description d_SUBSCRIPTION_EXPIRED_description d_NETWORK_TERMINATED_description hG i0  s.heap s.heap.size (Nat.le_refl _) (Old.start s)  p e ha hc hk s m _ below hf ((Spec.applies_iff_loose hf).mp happ).1 ⟨rfl, State.Warmed39.refl s, rfl⟩ trivial
  refine ⟨n, _, h1, h2, h3, hpost _ _ _ _ _ _ ⟨Cond.after_iff.mpr rfl, Cond.after_iff.mpr (eq_i res_at (Term.int_eval (1)) rfl), trivial⟩ ⟨hq.1, hq.2.1, (hq.2.2.sift fun y hy => Or.inr (N y hy)).mono (Nat.le_of_ble_eq_true rfl) (Nat.le_of_ble_eq_true rfl)⟩⟩
theorem main_1_1 : Claimed_1_1 := comes_1 fun _ _ _ _ _ _ h hF => ⟨h.1, hF⟩
theorem main_1_2 : Claimed_1_2 := comes_1 fun _ _ _ _ _ _ h hF => ⟨h.2.1, hF⟩
end Jvm.Pilot.@@N@@
namespace Jvm.Pilot.@@N@@
open Jvm Jvm.ClassFile Sem Op Lib Jvm.Free Jvm.Stand Jvm.Pilot.@@N@@.Jvm.D
/-! MADE BY PROGRAM (witnessworld.py) out of the Statement's table words and the real class files: 16 classes; the members and pool entries that the words name. The judged class is class 1, her method 1. -/
namespace start1
open Jvm.ClassFile
def u (s : String) : CpInfo := .utf8 (stringToUtf16 s)
/-- a pool by its gaps: so many unusable entries, then the entry; so many at the end -/
def gap : Nat → List CpInfo → List CpInfo
  | 0, r => r
  | n + 1, r => .unusable :: gap n r
def poolList (es : List (Nat × CpInfo)) (last : Nat) : List CpInfo := es.foldr (fun e r => gap e.1 (e.2 :: r)) (gap last [])
def pool (es : List (Nat × CpInfo)) (last : Nat) : Array CpInfo := ⟨poolList es last⟩
def fileOf (pool : Array CpInfo) (this : Nat) (attrs : Array Attribute := #[]) (ms : Array MethodInfo := #[]) (fl : Nat := 33) (sup : Nat := 0) (ifs : Array Nat := #[]) (fds : Array FieldInfo := #[]) : ClassFile where
  minorVersion := 0
  majorVersion := 65
  constantPool := pool
  accessFlags := fl
  thisClass := this
  superClass := sup
  interfaces := ifs
  fields := fds
  methods := ms
  attributes := attrs
def plain (name : String) (sup : Option ClassId) : Class where
  name := name
  kind := .ordinary
  loader := none
  accessFlags := 33
  super := sup
  interfaces := #[]
  cf := none
  fields := #[]
  methods := #[]
  instanceTypes := #[]
  staticTypes := #[]
  resolved := #[]
  callSites := []
  init := .initialized
  statics := none
  mirror := none

def pool0 : Array CpInfo := pool [(5, u "<init>"), (0, u "()V"), (1, .class_ 10), (1, u "java/lang/Object")] 113

def k0m0 : Method := { name := "<init>", desc := "()V", sig := { parameters := [], returnType := none }, accessFlags := 1, code := none }
/-- java/lang/Object -/
def k0 : Class := { plain "java/lang/Object" none with
  accessFlags := 33
  interfaces := #[]
  cf := some (fileOf pool0 8 #[] #[{ accessFlags := 1, nameIndex := 5, descriptorIndex := 6, attributes := #[] }] 33 0 #[] #[])
  fields := #[]
  methods := #[k0m0]
  instanceTypes := #[]
  staticTypes := #[]
  resolved := Array.replicate 124 none
  statics := none }

def pool1 : Array CpInfo := pool [(2, .class_ 4), (1, u "java/lang/Object"), (0, u "<init>"), (0, u "()V"), (0, .integer 2147483647), (0, .class_ 9), (0, u "com/example/portunus/portunus/reachability/TerminationReason"), (0, .fieldref 8 11), (0, .nameAndType 12 13), (0, u "MAX_EVENTS_REACHED"), (0, u "Lcom/example/portunus/portunus/reachability/TerminationReason;"), (0, .fieldref 8 15), (0, .nameAndType 16 13), (0, u "NETWORK_TERMINATED"), (0, .fieldref 8 18), (0, .nameAndType 19 13), (0, u "SUBSCRIPTION_EXPIRED"), (0, .fieldref 8 21), (0, .nameAndType 22 13), (0, u "ACCESS_TOKEN_EXPIRED"), (0, .fieldref 8 24), (0, .nameAndType 25 13), (0, u "SUBSCRIPTION_DELETED"), (0, .fieldref 8 27), (0, .nameAndType 28 13), (0, u "SINK_GONE"), (0, .fieldref 8 30), (0, .nameAndType 31 13), (0, u "UNSENDABLE"), (0, .methodref 8 33), (0, .nameAndType 34 35), (0, u "isAnnounced"), (0, u "()Z"), (0, .methodref 8 37), (0, .nameAndType 38 39), (0, u "description"), (0, u "()Ljava/lang/String;"), (0, .class_ 41), (0, u "com/example/portunus/portunus/reachability/TerminationReasonIsAnnouncedPinLaw"), (2, u "law"), (0, u "(I)Z")] 5

def k1m0 : Method := { name := "<init>", desc := "()V", sig := { parameters := [], returnType := none }, accessFlags := 2, code := none }
def k1c1 : Code := { maxStack := 4, maxLocals := 7, code := code, exceptionTable := #[], attributes := #[] }
def k1m1 : Method := { name := "law", desc := "(I)Z", sig := { parameters := [.int], returnType := some .boolean }, accessFlags := 9, code := some k1c1 }
/-- com/example/portunus/portunus/reachability/TerminationReasonIsAnnouncedPinLaw -/
def k1 : Class := { plain "com/example/portunus/portunus/reachability/TerminationReasonIsAnnouncedPinLaw" (some 0) with
  accessFlags := 49
  interfaces := #[]
  cf := some (fileOf pool1 40 #[] #[{ accessFlags := 2, nameIndex := 5, descriptorIndex := 6, attributes := #[] }, { accessFlags := 9, nameIndex := 44, descriptorIndex := 45, attributes := #[] }] 49 2 #[] #[])
  fields := #[]
  methods := #[k1m0, k1m1]
  instanceTypes := #[]
  staticTypes := #[]
  resolved := Array.replicate 51 none
  statics := none }

def pool2 : Array CpInfo := pool [(1, .class_ 2), (0, u "java/lang/constant/Constable"), (0, .class_ 4), (0, u "java/lang/Object")] 6

/-- java/lang/constant/Constable -/
def k2 : Class := { plain "java/lang/constant/Constable" (some 0) with
  accessFlags := 1537
  interfaces := #[]
  cf := some (fileOf pool2 1 #[] #[] 1537 3 #[] #[])
  fields := #[]
  methods := #[]
  instanceTypes := #[]
  staticTypes := #[]
  resolved := Array.replicate 11 none
  statics := none }

def pool3 : Array CpInfo := pool [(1, .class_ 2), (0, u "java/lang/Comparable"), (0, .class_ 4), (0, u "java/lang/Object")] 7

/-- java/lang/Comparable -/
def k3 : Class := { plain "java/lang/Comparable" (some 0) with
  accessFlags := 1537
  interfaces := #[]
  cf := some (fileOf pool3 1 #[] #[] 1537 3 #[] #[])
  fields := #[]
  methods := #[]
  instanceTypes := #[]
  staticTypes := #[]
  resolved := Array.replicate 12 none
  statics := none }

def pool4 : Array CpInfo := pool [(1, .class_ 2), (0, u "java/io/Serializable"), (0, .class_ 4), (0, u "java/lang/Object")] 2

/-- java/io/Serializable -/
def k4 : Class := { plain "java/io/Serializable" (some 0) with
  accessFlags := 1537
  interfaces := #[]
  cf := some (fileOf pool4 1 #[] #[] 1537 3 #[] #[])
  fields := #[]
  methods := #[]
  instanceTypes := #[]
  staticTypes := #[]
  resolved := Array.replicate 7 none
  statics := none }

def pool5 : Array CpInfo := pool [(2, .class_ 4), (1, u "java/lang/Enum"), (0, u "name"), (0, u "Ljava/lang/String;"), (2, u "ordinal"), (0, u "I"), (1, .class_ 14), (1, u "java/lang/Object"), (4, u "hash"), (86, .class_ 108), (1, u "java/lang/Enum$EnumDesc"), (2, .class_ 112), (0, u "java/lang/constant/Constable"), (0, .class_ 114), (0, u "java/lang/Comparable"), (0, .class_ 116), (0, u "java/io/Serializable")] 87

/-- java/lang/Enum -/
def k5 : Class := { plain "java/lang/Enum" (some 0) with
  accessFlags := 1057
  interfaces := #[2, 3, 4]
  cf := some (fileOf pool5 2 #[.nestMembers #[106]] #[] 1057 12 #[111, 113, 115] #[{ accessFlags := 18, nameIndex := 5, descriptorIndex := 6, attributes := #[] }, { accessFlags := 18, nameIndex := 9, descriptorIndex := 10, attributes := #[] }, { accessFlags := 2, nameIndex := 19, descriptorIndex := 10, attributes := #[] }])
  fields := #[{ name := "name", type := (.object "java/lang/String"), accessFlags := 18, slot := 0, constantValue := 0 }, { name := "ordinal", type := .int, accessFlags := 18, slot := 1, constantValue := 0 }, { name := "hash", type := .int, accessFlags := 2, slot := 2, constantValue := 0 }]
  methods := #[]
  instanceTypes := #[(.object "java/lang/String"), .int, .int]
  staticTypes := #[]
  resolved := Array.replicate 204 none
  statics := none }

def pool6 : Array CpInfo := pool [(1, .class_ 2), (0, u "com/example/portunus/portunus/reachability/TerminationReason"), (2, u "MAX_EVENTS_REACHED"), (0, u "Lcom/example/portunus/portunus/reachability/TerminationReason;"), (2, u "NETWORK_TERMINATED"), (2, u "SUBSCRIPTION_EXPIRED"), (2, u "ACCESS_TOKEN_EXPIRED"), (2, u "SUBSCRIPTION_DELETED"), (2, u "SINK_GONE"), (2, u "UNSENDABLE"), (2, u "$VALUES"), (0, u "[Lcom/example/portunus/portunus/reachability/TerminationReason;"), (6, .class_ 37), (1, u "java/lang/Enum"), (6, .fieldref 1 45), (0, .nameAndType 46 47), (0, u "description"), (0, u "Ljava/lang/String;"), (31, u "isAnnounced"), (0, u "()Z"), (1, u "()Ljava/lang/String;")] 5

def k6c0 : Code := { maxStack := 1, maxLocals := 1, code := prog_25_method_4_code, exceptionTable := #[], attributes := #[] }
def k6m0 : Method := { name := "isAnnounced", desc := "()Z", sig := { parameters := [], returnType := some .boolean }, accessFlags := 0, code := some k6c0 }
def k6c1 : Code := { maxStack := 1, maxLocals := 1, code := prog_25_method_5_code, exceptionTable := #[], attributes := #[] }
def k6m1 : Method := { name := "description", desc := "()Ljava/lang/String;", sig := { parameters := [], returnType := some (.object "java/lang/String") }, accessFlags := 0, code := some k6c1 }
/-- com/example/portunus/portunus/reachability/TerminationReason -/
def k6 : Class := { plain "com/example/portunus/portunus/reachability/TerminationReason" (some 5) with
  accessFlags := 16432
  interfaces := #[]
  cf := some (fileOf pool6 1 #[] #[{ accessFlags := 0, nameIndex := 79, descriptorIndex := 80, attributes := #[] }, { accessFlags := 0, nameIndex := 46, descriptorIndex := 82, attributes := #[] }] 16432 35 #[] #[{ accessFlags := 16409, nameIndex := 5, descriptorIndex := 6, attributes := #[] }, { accessFlags := 16409, nameIndex := 9, descriptorIndex := 6, attributes := #[] }, { accessFlags := 16409, nameIndex := 12, descriptorIndex := 6, attributes := #[] }, { accessFlags := 16409, nameIndex := 15, descriptorIndex := 6, attributes := #[] }, { accessFlags := 16409, nameIndex := 18, descriptorIndex := 6, attributes := #[] }, { accessFlags := 16409, nameIndex := 21, descriptorIndex := 6, attributes := #[] }, { accessFlags := 16409, nameIndex := 24, descriptorIndex := 6, attributes := #[] }, { accessFlags := 18, nameIndex := 46, descriptorIndex := 47, attributes := #[] }, { accessFlags := 4122, nameIndex := 27, descriptorIndex := 28, attributes := #[] }])
  fields := #[{ name := "MAX_EVENTS_REACHED", type := (.object "com/example/portunus/portunus/reachability/TerminationReason"), accessFlags := 16409, slot := 0, constantValue := 0 }, { name := "NETWORK_TERMINATED", type := (.object "com/example/portunus/portunus/reachability/TerminationReason"), accessFlags := 16409, slot := 1, constantValue := 0 }, { name := "SUBSCRIPTION_EXPIRED", type := (.object "com/example/portunus/portunus/reachability/TerminationReason"), accessFlags := 16409, slot := 2, constantValue := 0 }, { name := "ACCESS_TOKEN_EXPIRED", type := (.object "com/example/portunus/portunus/reachability/TerminationReason"), accessFlags := 16409, slot := 3, constantValue := 0 }, { name := "SUBSCRIPTION_DELETED", type := (.object "com/example/portunus/portunus/reachability/TerminationReason"), accessFlags := 16409, slot := 4, constantValue := 0 }, { name := "SINK_GONE", type := (.object "com/example/portunus/portunus/reachability/TerminationReason"), accessFlags := 16409, slot := 5, constantValue := 0 }, { name := "UNSENDABLE", type := (.object "com/example/portunus/portunus/reachability/TerminationReason"), accessFlags := 16409, slot := 6, constantValue := 0 }, { name := "description", type := (.object "java/lang/String"), accessFlags := 18, slot := 3, constantValue := 0 }, { name := "$VALUES", type := (.array (.object "com/example/portunus/portunus/reachability/TerminationReason")), accessFlags := 4122, slot := 7, constantValue := 0 }]
  methods := #[k6m0, k6m1]
  instanceTypes := #[(.object "java/lang/String"), .int, .int, (.object "java/lang/String")]
  staticTypes := #[(.object "com/example/portunus/portunus/reachability/TerminationReason"), (.object "com/example/portunus/portunus/reachability/TerminationReason"), (.object "com/example/portunus/portunus/reachability/TerminationReason"), (.object "com/example/portunus/portunus/reachability/TerminationReason"), (.object "com/example/portunus/portunus/reachability/TerminationReason"), (.object "com/example/portunus/portunus/reachability/TerminationReason"), (.object "com/example/portunus/portunus/reachability/TerminationReason"), (.array (.object "com/example/portunus/portunus/reachability/TerminationReason"))]
  resolved := Array.replicate 88 none
  statics := some 0 }

def pool7 : Array CpInfo := pool [(2, .class_ 4), (1, u "java/lang/CharSequence"), (42, .class_ 48), (0, u "java/lang/CharSequence$1CodePointIterator"), (10, .class_ 60), (0, u "java/lang/CharSequence$1CharIterator"), (5, .class_ 67), (0, u "java/lang/Object")] 63

/-- java/lang/CharSequence -/
def k7 : Class := { plain "java/lang/CharSequence" (some 0) with
  accessFlags := 1537
  interfaces := #[]
  cf := some (fileOf pool7 2 #[.nestMembers #[47, 59]] #[] 1537 66 #[] #[])
  fields := #[]
  methods := #[]
  instanceTypes := #[]
  staticTypes := #[]
  resolved := Array.replicate 131 none
  statics := none }

def pool8 : Array CpInfo := pool [(1, .class_ 2), (0, u "java/lang/constant/ConstantDesc"), (0, .class_ 4), (0, u "java/lang/Object")] 32

/-- java/lang/constant/ConstantDesc -/
def k8 : Class := { plain "java/lang/constant/ConstantDesc" (some 0) with
  accessFlags := 1537
  interfaces := #[]
  cf := some (fileOf pool8 1 #[] #[] 1537 3 #[] #[])
  fields := #[]
  methods := #[]
  instanceTypes := #[]
  staticTypes := #[]
  resolved := Array.replicate 37 none
  statics := none }

def pool9 : Array CpInfo := pool [(2, .class_ 4), (1, u "java/lang/Object"), (0, u "<init>"), (0, u "()V"), (3, .class_ 12), (1, u "java/lang/String"), (0, u "value"), (0, u "[B"), (2, u "coder"), (0, u "B"), (2, u "hash"), (0, u "I"), (2, u "hashIsZero"), (0, u "Z"), (13, u "COMPACT_STRINGS"), (534, .class_ 576), (0, u "java/lang/CharSequence"), (22, u "CASE_INSENSITIVE_ORDER"), (0, u "Ljava/util/Comparator;"), (500, u "serialPersistentFields"), (0, u "[Ljava/io/ObjectStreamField;"), (0, .class_ 1104), (0, u "java/lang/String$CaseInsensitiveComparator"), (1, .class_ 1107), (0, u "java/io/Serializable"), (0, .class_ 1109), (0, u "java/lang/Comparable"), (0, .class_ 1111), (0, u "java/lang/constant/Constable"), (0, .class_ 1113), (0, u "java/lang/constant/ConstantDesc"), (2, u "serialVersionUID"), (0, u "J"), (3, u "REPL"), (0, u "C"), (2, u "LATIN1"), (1, u "UTF16")] 323

def k9m0 : Method := { name := "<init>", desc := "()V", sig := { parameters := [], returnType := none }, accessFlags := 1, code := none }
/-- java/lang/String -/
def k9 : Class := { plain "java/lang/String" (some 0) with
  accessFlags := 49
  interfaces := #[4, 3, 7, 2, 8]
  cf := some (fileOf pool9 10 #[.nestMembers #[1103]] #[{ accessFlags := 1, nameIndex := 5, descriptorIndex := 6, attributes := #[] }] 49 2 #[1106, 1108, 575, 1110, 1112] #[{ accessFlags := 18, nameIndex := 13, descriptorIndex := 14, attributes := #[] }, { accessFlags := 18, nameIndex := 17, descriptorIndex := 18, attributes := #[] }, { accessFlags := 2, nameIndex := 21, descriptorIndex := 22, attributes := #[] }, { accessFlags := 2, nameIndex := 25, descriptorIndex := 26, attributes := #[] }, { accessFlags := 26, nameIndex := 1116, descriptorIndex := 1117, attributes := #[] }, { accessFlags := 24, nameIndex := 40, descriptorIndex := 26, attributes := #[] }, { accessFlags := 26, nameIndex := 1101, descriptorIndex := 1102, attributes := #[] }, { accessFlags := 26, nameIndex := 1121, descriptorIndex := 1122, attributes := #[] }, { accessFlags := 25, nameIndex := 599, descriptorIndex := 600, attributes := #[] }, { accessFlags := 24, nameIndex := 1125, descriptorIndex := 18, attributes := #[] }, { accessFlags := 24, nameIndex := 1127, descriptorIndex := 18, attributes := #[] }])
  fields := #[{ name := "value", type := (.array .byte), accessFlags := 18, slot := 0, constantValue := 0 }, { name := "coder", type := .byte, accessFlags := 18, slot := 1, constantValue := 0 }, { name := "hash", type := .int, accessFlags := 2, slot := 2, constantValue := 0 }, { name := "hashIsZero", type := .boolean, accessFlags := 2, slot := 3, constantValue := 0 }, { name := "serialVersionUID", type := .long, accessFlags := 26, slot := 0, constantValue := 0 }, { name := "COMPACT_STRINGS", type := .boolean, accessFlags := 24, slot := 1, constantValue := 0 }, { name := "serialPersistentFields", type := (.array (.object "java/io/ObjectStreamField")), accessFlags := 26, slot := 2, constantValue := 0 }, { name := "REPL", type := .char, accessFlags := 26, slot := 3, constantValue := 0 }, { name := "CASE_INSENSITIVE_ORDER", type := (.object "java/util/Comparator"), accessFlags := 25, slot := 4, constantValue := 0 }, { name := "LATIN1", type := .byte, accessFlags := 24, slot := 5, constantValue := 0 }, { name := "UTF16", type := .byte, accessFlags := 24, slot := 6, constantValue := 0 }]
  methods := #[k9m0]
  instanceTypes := #[(.array .byte), .byte, .int, .boolean]
  staticTypes := #[.long, .boolean, (.array (.object "java/io/ObjectStreamField")), .char, (.object "java/util/Comparator"), .byte, .byte]
  resolved := Array.replicate 1451 none
  statics := none }

def pool10 : Array CpInfo := pool [(1, u "java/lang/Cloneable"), (0, .class_ 1), (0, u "java/lang/Object"), (0, .class_ 3)] 3

/-- java/lang/Cloneable -/
def k10 : Class := { plain "java/lang/Cloneable" (some 0) with
  accessFlags := 1537
  interfaces := #[]
  cf := some (fileOf pool10 2 #[] #[] 1537 4 #[] #[])
  fields := #[]
  methods := #[]
  instanceTypes := #[]
  staticTypes := #[]
  resolved := Array.replicate 8 none
  statics := none }

/-- the primitive byte -/
def k11 : Class := { plain "byte" none with kind := .primitive 'B', accessFlags := 0x411 }
/-- [B -/
def k12 : Class := { plain "[B" (some 0) with kind := .array 11 .byte, interfaces := #[10, 4], accessFlags := 1041 }

/-- the primitive int -/
def k13 : Class := { plain "int" none with kind := .primitive 'I', accessFlags := 0x411 }
/-- [I -/
def k14 : Class := { plain "[I" (some 0) with kind := .array 13 .int, interfaces := #[10, 4], accessFlags := 1041 }

/-- [Lcom/example/portunus/portunus/reachability/TerminationReason; -/
def k15 : Class := { plain "[Lcom/example/portunus/portunus/reachability/TerminationReason;" (some 0) with kind := .array 6 (.object "com/example/portunus/portunus/reachability/TerminationReason"), interfaces := #[10, 4], accessFlags := 1041 }

def heap : Heap := #[{ cls := 6, slots := #[.ref 1, .ref 2, .ref 3, .ref 4, .ref 5, .ref 6, .ref 7, .null], vm := .statics 6 },
  { cls := 6, slots := #[.null, .int 0, .int 0, .ref 8], vm := .none },
  { cls := 6, slots := #[.null, .int 0, .int 0, .ref 12], vm := .none },
  { cls := 6, slots := #[.null, .int 0, .int 0, .ref 11], vm := .none },
  { cls := 6, slots := #[.null, .int 0, .int 0, .ref 9], vm := .none },
  { cls := 6, slots := #[.null, .int 0, .int 0, .ref 10], vm := .none },
  { cls := 6, slots := #[.null, .int 0, .int 0, .null], vm := .none },
  { cls := 6, slots := #[.null, .int 0, .int 0, .null], vm := .none },
  { cls := 9, slots := #[.null, .int 0, .int 0, .int 0], vm := .none },
  { cls := 9, slots := #[.null, .int 0, .int 0, .int 0], vm := .none },
  { cls := 9, slots := #[.null, .int 0, .int 0, .int 0], vm := .none },
  { cls := 9, slots := #[.null, .int 0, .int 0, .int 0], vm := .none },
  { cls := 9, slots := #[.null, .int 0, .int 0, .int 0], vm := .none }]
def classes : Array Class := #[k0, k1, k2, k3, k4, k5, k6, k7, k8, k9, k10, k11, k12, k13, k14, k15]
def interned : List (Array UInt16 × Addr) := []
def slotsUsed : Nat := 56
def theMethod : MethodId := ⟨1, 1⟩
def args0 : Array Value := #[.int 5]
def aboutOver (below : List Frame) : State where
  vm := { classes := classes, interned := interned.toArray }
  heap := heap
  slotsUsed := slotsUsed
  threads := #[{ frames := .invoking theMethod args0 :: below }]
def below0 : List Frame := [.native { method := ⟨0, 0⟩, args := #[] }]
def about1 : State := aboutOver below0
def p0 : Program := .bare "" "" ""
def e0 : Env := launch0.env 0 0 0
theorem w_frames : about1.frames = Frame.invoking theMethod args0 :: below0 := rfl
set_option maxRecDepth 65536 in
theorem w_args : argsFit about1.vm theMethod args0 = true := by decide +kernel
set_option maxRecDepth 65536 in
theorem w_heap : heapFits about1 = true := by decide +kernel
set_option maxRecDepth 65536 in
theorem w_runnable : about1.curStatus? = some .runnable := by decide +kernel
set_option maxRecDepth 65536 in
theorem w_alone : about1.alone = true := by decide +kernel
set_option maxRecDepth 65536 in
theorem w_named : about1.methodNamed? x = some theMethod := by decide +kernel
set_option maxRecDepth 65536 in
theorem w_hears : about1.hears theMethod below0 = true := by decide +kernel
set_option maxRecDepth 65536 in
theorem w_ripe : about1.ripe theMethod args0 below0 = true := by decide +kernel
theorem w_running : about1.status = .running := rfl
set_option maxRecDepth 65536 in
theorem w_room : about1.hasRoom e0.platform room_1 = true :=
  launch0.hasRoom_least _ room_1 (by decide +kernel) (by decide +kernel) (by decide +kernel) (by decide +kernel) (by decide +kernel) (by decide +kernel)
theorem allAtoms_all (ts : List Jvm.Cond) (a : Array Jvm.Value) (st : Jvm.State) : (allAtoms ts).before a st = ts.all (fun c => c.before a st) := by
  induction ts with
  | nil => rfl
  | cons c t ih =>
    show (Jvm.Cond.and c (allAtoms t)).before a st = _
    rw [Jvm.Cond.before_and, ih, List.all_cons]
def words1 : List Jvm.Cond := Jvm.Cond.code x code maxLocals ret :: tables_1
/-- a 'code' word, met by the world's own term for the bytes: nothing is compared byte by byte -/
theorem code_word {y : MethodName} {bytes : ByteArray} {mx : Nat} {rt : Option FieldType} {a : Array Value} {s : State} {m : MethodId} {meth : Method} {c : Code} (h1 : s.methodNamed? y = some m) (h2 : s.vm.method? m = some meth) (h3 : meth.code = some c) (h4 : c.code = bytes)
    (h5 : (c.maxLocals == mx && c.exceptionTable.isEmpty && decide (c.maxStack ≤ mostOperands) && decide (meth.sig.returnType = rt) && !meth.locks && decide (parseMethodDescriptor y.desc = some meth.sig)) = true) : (Jvm.Cond.code y bytes mx rt).before a s = true := by
  simp only [Bool.and_eq_true, beq_iff_eq, Bool.not_eq_true', decide_eq_true_eq] at h5
  obtain ⟨⟨⟨⟨⟨g1, g2⟩, g3⟩, g4⟩, g5⟩, g6⟩ := h5
  simp [Cond.before, Cond.holds, Cond.value, h1, h2, h3, h4, g1, g2, g3, g4, g5, g6]
def isCode : Jvm.Cond → Bool
  | .code _ _ _ _ => true
  | _ => false
theorem all_split {L : List Jvm.Cond} {P : Jvm.Cond → Bool} (h1 : L.all (fun c => isCode c || P c) = true) (h2 : ∀ c ∈ L.filter isCode, P c = true) : L.all P = true := by
  refine List.all_eq_true.mpr fun c hc => ?_
  have h := List.all_eq_true.mp h1 c hc
  rcases Bool.eq_false_or_eq_true (isCode c) with hi | hi
  · exact h2 c (List.mem_filter.mpr ⟨hc, hi⟩)
  · simpa [hi] using h
set_option maxRecDepth 65536 in
theorem w_c0 : (Jvm.Cond.code x code maxLocals ret).before args0 about1 = true := code_word (m := ⟨1, 1⟩) (meth := k1m1) (c := k1c1) (by decide +kernel) rfl rfl rfl (by decide +kernel)
set_option maxRecDepth 65536 in
theorem w_c1 : (Jvm.Cond.code ({ cls := "com/example/portunus/portunus/reachability/TerminationReason", name := "isAnnounced", desc := "()Z" } : Jvm.MethodName) prog_25_method_4_code (1 : Nat) (Option.some Jvm.ClassFile.FieldType.boolean)).before args0 about1 = true := code_word (m := ⟨6, 0⟩) (meth := k6m0) (c := k6c0) (by decide +kernel) rfl rfl rfl (by decide +kernel)
set_option maxRecDepth 65536 in
theorem w_c2 : (Jvm.Cond.code ({ cls := "com/example/portunus/portunus/reachability/TerminationReason", name := "description", desc := "()Ljava/lang/String;" } : Jvm.MethodName) prog_25_method_5_code (1 : Nat) (Option.some (Jvm.ClassFile.FieldType.object "java/lang/String"))).before args0 about1 = true := code_word (m := ⟨6, 1⟩) (meth := k6m1) (c := k6c1) (by decide +kernel) rfl rfl rfl (by decide +kernel)
def codes1 : List Jvm.Cond := [Jvm.Cond.code x code maxLocals ret, Jvm.Cond.code ({ cls := "com/example/portunus/portunus/reachability/TerminationReason", name := "isAnnounced", desc := "()Z" } : Jvm.MethodName) prog_25_method_4_code (1 : Nat) (Option.some Jvm.ClassFile.FieldType.boolean), Jvm.Cond.code ({ cls := "com/example/portunus/portunus/reachability/TerminationReason", name := "description", desc := "()Ljava/lang/String;" } : Jvm.MethodName) prog_25_method_5_code (1 : Nat) (Option.some (Jvm.ClassFile.FieldType.object "java/lang/String"))]
set_option maxRecDepth 65536 in
theorem codes_eq : words1.filter isCode = codes1 := rfl
theorem w_codes : ∀ c ∈ words1.filter isCode, c.before args0 about1 = true := by
  rw [codes_eq]
  intro c hc
  simp only [codes1, List.mem_cons, List.not_mem_nil, or_false] at hc
  rcases hc with rfl | rfl | rfl
  · exact w_c0
  · exact w_c1
  · exact w_c2
set_option maxRecDepth 65536 in
theorem w_t1 : (words1.take 24).all (fun c => isCode c || c.before args0 about1) = true := by decide +kernel
set_option maxRecDepth 65536 in
theorem w_t2 : (words1.drop 24).all (fun c => isCode c || c.before args0 about1) = true := by decide +kernel
theorem w_tables : (allAtoms (Jvm.Cond.code x code maxLocals ret :: tables_1)).before args0 about1 = true := by
  rw [allAtoms_all]
  show words1.all (fun c => c.before args0 about1) = true
  refine all_split ?_ w_codes
  rw [← List.take_append_drop 24 words1, List.all_append, w_t1, w_t2]
  rfl
set_option maxRecDepth 65536 in
theorem w_case : (Jvm.Cond.and given_1 narrow_1).before args0 about1 = true := by decide +kernel
theorem w_applies : (headSpec (Jvm.Cond.code x code maxLocals ret :: tables_1) room_1).applies x e0.platform about1 = true :=
  (Spec.applies_iff w_frames).mpr ⟨w_running, w_runnable, w_alone, w_named, w_hears, w_ripe, w_room, w_tables⟩
theorem atStart : AtStart classFile x code maxLocals ret World_1 tables_1 room_1 Calls_1 rest_1 Pre_1 launch0 p0 e0 about1 theMethod args0 below0 :=
  ⟨lists_1, trivial, launch0.admits_env _ _ _, launch0.least_env, fairChoices_fair.cas, fairChoices_fair.clock, w_frames, w_args, w_heap, w_applies, trivial, trivial, w_case⟩
end start1
theorem witness_1 : WitnessClaimed_1 := ⟨start1.p0, start1.e0, start1.about1, start1.theMethod, start1.args0, start1.below0, start1.atStart⟩
end Jvm.Pilot.@@N@@

import JvmDerived
import JvmDerived.Pilot.@@N@@Statement
import JvmDerived.Pilot.@@N@@Code
set_option linter.unusedVariables false
set_option linter.unusedSimpArgs false
namespace Jvm.Pilot.@@N@@
open Jvm Jvm.ClassFile Sem Op Lib Jvm.Free Jvm.Stand Jvm.LawKit Jvm.RoadKit Bundle Jvm.Pilot.@@N@@.Jvm.D
/-! the walk in continuation style: 'Go .. A': from A the run comes to its end, and P holds there -/
def Go (p : Program) (e : Env) (below : List Frame) (P : Outcome → State → Prop) (A : State) : Prop := ∃ s₂ o, Steps p.tables e below A s₂ ∧ s₂.status = .running ∧ Ended s₂ below o ∧ P o s₂
theorem Go.by {p : Program} {e : Env} {below : List Frame} {P : Outcome → State → Prop} {A B : State} (h : ∀ t, Steps p.tables e below B t → Steps p.tables e below A t) (k : Go p e below P B) : Go p e below P A := by
  obtain ⟨s2, o, h1, h2⟩ := k
  exact ⟨s2, o, h _ h1, h2⟩
def End (s : State) (Q : Option Value → Heap → List Loc → Prop) (k n : Nat) (o : Outcome) (U : State) : Prop := ∃ v L, o = .returned v ∧ Q v U.heap L ∧ FrameEnd s o U L k n
section Ends
variable {p : Program} {l : Launch} {e : Env} {R : Room} {s : State} {m : MethodId} {args : Array Value} {below : List Frame} {meth : Method} {c : Code} {T : State} {locs : List Loc} {cells slots : Nat} {Q : Option Value → Heap → List Loc → Prop} {C S : Nat}
theorem Go.fin (X : Stand p l e R s m args below meth c T locs cells slots) {A : State} {v : Option Value} (hv : meth.sig.returnType = none → v = none) (hlk : meth.locks = false) (hk : cells ≤ C) (hn : slots ≤ S) (hQ : Q v T.heap locs)
    (k : ∀ fs, (∀ (f : JFrame) (acts : List Action), f.method = m → f.locked = none → f.entered = [] → (doReturn e (T.setTop f) acts v).1 = T.setFrames fs) → Steps p.tables e below A (T.setFrames fs)) : Go p e below (End s Q C S) A := by
  obtain ⟨fs, hr, hrun, hended, hW, hsame⟩ := X.leave (v := v) hv hlk
  exact ⟨_, _, k fs hr, hrun, hended, _, _, rfl, hQ, ⟨_, rfl⟩, hW, hsame.mono hk hn⟩
theorem Go.retZ (X : Stand p l e R s m args below meth c T locs cells slots) (hx : p.tables.exec = Jvm.exec) {pc : Nat} {Ls : Array Slot} {z : Int32} {t : FieldType} {rest : List Value} (hret : meth.sig.returnType = some t) (ht : t = .boolean ∨ t = .byte ∨ t = .char ∨ t = .short) (hlk : meth.locks = false)
    (hd : decode c.code pc = .ok (.ireturn, 1)) (hk : cells ≤ C) (hn : slots ≤ S) (hQ : Q (some (.int (nar t z))) T.heap locs) : Go p e below (End s Q C S) (T.setTop (mkF m pc Ls (.int z :: rest))) :=
  Go.fin X (fun h => by rw [hret] at h; cases h) hlk hk hn hQ fun fs hr => retN X hx hret ht hd hr
theorem Go.retI (X : Stand p l e R s m args below meth c T locs cells slots) (hx : p.tables.exec = Jvm.exec) {pc : Nat} {Ls : Array Slot} {z : Int32} {rest : List Value} (hret : meth.sig.returnType = some .int) (hlk : meth.locks = false)
    (hd : decode c.code pc = .ok (.ireturn, 1)) (hk : cells ≤ C) (hn : slots ≤ S) (hQ : Q (some (.int z)) T.heap locs) : Go p e below (End s Q C S) (T.setTop (mkF m pc Ls (.int z :: rest))) :=
  Go.fin X (fun h => by rw [hret] at h; cases h) hlk hk hn hQ fun fs hr => retOut X hx hret rfl (Or.inl ⟨rfl, Or.inl rfl, _, rfl⟩) hd hr
theorem Go.retR (X : Stand p l e R s m args below meth c T locs cells slots) (hx : p.tables.exec = Jvm.exec) {pc : Nat} {Ls : Array Slot} {w : Value} {t : FieldType} {rest : List Value} (hret : meth.sig.returnType = some t) (ht : t.isReference = true) (hw : w.isRef = true) (hlk : meth.locks = false)
    (hd : decode c.code pc = .ok (.areturn, 1)) (hk : cells ≤ C) (hn : slots ≤ S) (hQ : Q (some w) T.heap locs) : Go p e below (End s Q C S) (T.setTop (mkF m pc Ls (w :: rest))) :=
  Go.fin X (fun h => by rw [hret] at h; cases h) hlk hk hn hQ fun fs hr => retOut X hx hret (by cases t <;> cases w <;> first | rfl | (simp [FieldType.isReference] at ht) | (simp [Value.isRef] at hw)) (Or.inr (Or.inr (Or.inr (Or.inr ⟨rfl, ht, hw⟩)))) hd hr
theorem Go.retV (X : Stand p l e R s m args below meth c T locs cells slots) (hx : p.tables.exec = Jvm.exec) {pc : Nat} {Ls : Array Slot} (hret : meth.sig.returnType = none) (hlk : meth.locks = false)
    (hd : decode c.code pc = .ok (.return_, 1)) (hk : cells ≤ C) (hn : slots ≤ S) (hQ : Q none T.heap locs) : Go p e below (End s Q C S) (T.setTop (mkF m pc Ls [])) :=
  Go.fin X (fun _ => rfl) hlk hk hn hQ fun fs hr => X.returnOut hx hret hd hr
theorem own_eqi {t : Term} {n : Int32} {args : Array Value} {s : State} (h : (Cond.eq t (.int n)).before args s = true) : t.eval args s none [] s = some (.int n) := Cond.eq_int h (Term.int_eval n)
theorem own_n1 : nar .boolean (1 : Int32) = 1 := rfl
theorem own_n0 : nar .boolean (0 : Int32) = 0 := rfl
theorem own_wid (X : Stand p l e R s m args below meth c T locs cells slots) (hk : cells ≤ C) (hn : slots ≤ S) : Stand p l e R s m args below meth c T locs C S :=
  ⟨X.admits, X.cas, X.clock, X.frames, X.room, X.hears, X.method, X.code, X.here, X.tail, X.warmed, X.limits, X.bytes, X.same.mono hk hn⟩
end Ends
def Glob (Z : State) (wDEFAULT_LEASE : Addr) (wDEFAULT_DEAD_LETTER_RETENTION : Addr) : Prop := Sta Z Z.heap "com/example/cicada/cicada/model/QueueOptions" "DEFAULT_LEASE" "Ljava/time/Duration;" (.ref wDEFAULT_LEASE) ∧ Exa Z Z.heap wDEFAULT_LEASE "java/time/Duration" ∧ Sta Z Z.heap "com/example/cicada/cicada/model/QueueOptions" "DEFAULT_DEAD_LETTER_RETENTION" "Ljava/time/Duration;" (.ref wDEFAULT_DEAD_LETTER_RETENTION) ∧ Exa Z Z.heap wDEFAULT_DEAD_LETTER_RETENTION "java/time/Duration"
theorem pn_0 : plainName "com/example/cicada/cicada/model/QueueOptions" = true := by first | (simp [plainName, overriddenIn]; done) | decide +kernel
theorem pd_0 : parseMethodDescriptor "(Ljava/time/Duration;ILjava/time/Duration;)V" = some ⟨[(.object "java/time/Duration"), .int, (.object "java/time/Duration")], none⟩ := by decide +kernel
theorem pd_1 : parseMethodDescriptor "()Lcom/example/cicada/cicada/model/QueueOptions;" = some ⟨[], some (.object "com/example/cicada/cicada/model/QueueOptions")⟩ := by decide +kernel
theorem pd_2 : parseMethodDescriptor "()Ljava/time/Duration;" = some ⟨[], some (.object "java/time/Duration")⟩ := by decide +kernel
theorem pd_3 : parseMethodDescriptor "()I" = some ⟨[], some .int⟩ := by decide +kernel
theorem pn_1 : plainName "com/example/cicada/cicada/model/QueueOptionsDefaultsPinLaw" = true := by first | (simp [plainName, overriddenIn]; done) | decide +kernel
theorem d2_0 : decode prog_5_method_1_code 0 = .ok (.aload_n 0, 1) := by decide +kernel
theorem d2_1 : decode prog_5_method_1_code 1 = .ok (.invokespecial 3, 3) := by decide +kernel
theorem d2_4 : decode prog_5_method_1_code 4 = .ok (.aload_n 0, 1) := by decide +kernel
theorem d2_5 : decode prog_5_method_1_code 5 = .ok (.aload_n 1, 1) := by decide +kernel
theorem d2_6 : decode prog_5_method_1_code 6 = .ok (.putfield 9, 3) := by decide +kernel
theorem d2_9 : decode prog_5_method_1_code 9 = .ok (.aload_n 0, 1) := by decide +kernel
theorem d2_10 : decode prog_5_method_1_code 10 = .ok (.iload_n 2, 1) := by decide +kernel
theorem d2_11 : decode prog_5_method_1_code 11 = .ok (.putfield 15, 3) := by decide +kernel
theorem d2_14 : decode prog_5_method_1_code 14 = .ok (.aload_n 0, 1) := by decide +kernel
theorem d2_15 : decode prog_5_method_1_code 15 = .ok (.aload_n 3, 1) := by decide +kernel
theorem d2_16 : decode prog_5_method_1_code 16 = .ok (.putfield 19, 3) := by decide +kernel
theorem d2_19 : decode prog_5_method_1_code 19 = .ok (.return_, 1) := by decide +kernel
theorem ef_ini (m : MethodId) (x0 : Addr) (x1 : Addr) (x2 : Int32) (x3 : Addr) : entryFrame m #[(.ref x0), (.ref x1), (.int x2), (.ref x3)] 4 = mkF m 0 #[.val (.ref x0), .val (.ref x1), .val (.int x2), .val (.ref x3)] [] := by first | (simp [entryFrame, mkF, argsToLocals, Value.category]; done) | rfl
def Q_ini (Z : State) (wDEFAULT_LEASE : Addr) (wDEFAULT_DEAD_LETTER_RETENTION : Addr) (a1 : Addr) (d1 : Addr) (p2 : Int32) (d3 : Addr) (h0 : Heap) (n0 : Nat) (v : Option Value) (h : Heap) (L : List Loc) : Prop := v = none ∧ Fr n0 L ∧ Keep h0 h [a1] ∧ Fld Z h a1 "com/example/cicada/cicada/model/QueueOptions" "lease" "Ljava/time/Duration;" (.ref d1) ∧ Fld Z h a1 "com/example/cicada/cicada/model/QueueOptions" "retries" "I" (.int p2) ∧ Fld Z h a1 "com/example/cicada/cicada/model/QueueOptions" "deadLetterRetention" "Ljava/time/Duration;" (.ref d3)
set_option maxRecDepth 65536 in
set_option maxHeartbeats 40000000 in
theorem rm_ini (l : Launch) (Z : State) (a0 : Array Value) (hw : ∀ d ∈ tables_1, d.before a0 Z = true) (ws : List Jvm.Cond) (wDEFAULT_LEASE : Addr) (wDEFAULT_DEAD_LETTER_RETENTION : Addr) (hG : Glob Z wDEFAULT_LEASE wDEFAULT_DEAD_LETTER_RETENTION) (a1 : Addr) (d1 : Addr) (p2 : Int32) (d3 : Addr) (h0 : Heap) (n0 : Nat) (Z0 : n0 ≤ h0.size) (O0 : Old Z n0 h0) (P0 : Exa Z h0 a1 "com/example/cicada/cicada/model/QueueOptions") (P1 : Fld Z h0 a1 "com/example/cicada/cicada/model/QueueOptions" "lease" "Ljava/time/Duration;" .null) (P2 : Fld Z h0 a1 "com/example/cicada/cicada/model/QueueOptions" "retries" "I" (.int (0 : Int32))) (P3 : Fld Z h0 a1 "com/example/cicada/cicada/model/QueueOptions" "deadLetterRetention" "Ljava/time/Duration;" .null) (ga : n0 ≤ a1) :
    MetFree l (⟨"com/example/cicada/cicada/model/QueueOptions", "<init>", "(Ljava/time/Duration;ILjava/time/Duration;)V"⟩ : MethodName) (head1 (Jvm.Cond.code (⟨"com/example/cicada/cicada/model/QueueOptions", "<init>", "(Ljava/time/Duration;ILjava/time/Duration;)V"⟩ : MethodName) prog_5_method_1_code 4 none :: ws) ({ frames := 1, cells := 0, slots := 0, locals := 12 } : Room)) (fun a U => a = #[(.ref a1), (.ref d1), (.int p2), (.ref d3)] ∧ Z.Warmed39 U.vm ∧ U.heap = h0) (fun _ _ _ _ _ => True) (fun _ U o U' => ∃ v L, o = .returned v ∧ Q_ini Z wDEFAULT_LEASE wDEFAULT_DEAD_LETTER_RETENTION a1 d1 p2 d3 h0 n0 v U'.heap L ∧ FrameEnd U o U' L ({ frames := 1, cells := 0, slots := 0, locals := 12 } : Room).cells ({ frames := 1, cells := 0, slots := 0, locals := 12 } : Room).slots) := by
  refine MetFree.of_bodySF (plainFor_of_name pn_0) hisR ?_
  intro p e s m args below meth c s₁ Bd hml0 hP hK
  obtain ⟨rfl, hZ, hh⟩ := hP
  have hx := Bd.exec
  have hby := Bd.bytes
  have hml : c.maxLocals = 4 := hml0
  have hown : s.vm.findClass "com/example/cicada/cicada/model/QueueOptions" = some m.cls := findClass_of_methodNamed Bd.named
  have hnm := (name_of_methodNamed Bd.named Bd.method).1
  have hlk : meth.locks = false := BodyLoose.notSynchronized Bd
  have X0 : Stand p l e ({ frames := 1, cells := 0, slots := 0, locals := 12 } : Room) s m #[(.ref a1), (.ref d1), (.int p2), (.ref d3)] below meth c s₁ [] 0 0 := Stand.of_body Bd
  have e0 : s₁.heap = h0 := by rw [← hh, Bd.state]; rfl
  have N0 := Fr.nil n0
  obtain ⟨G0, G1, G2, G3⟩ := id hG
  show Go p e below (End s (Q_ini Z wDEFAULT_LEASE wDEFAULT_DEAD_LETTER_RETENTION a1 d1 p2 d3 h0 n0) ({ frames := 1, cells := 0, slots := 0, locals := 12 } : Room).cells ({ frames := 1, cells := 0, slots := 0, locals := 12 } : Room).slots) (s₁.setTop (entryFrame m #[(.ref a1), (.ref d1), (.int p2), (.ref d3)] 4))
  rw [ef_ini]
  generalize hP : End s (Q_ini Z wDEFAULT_LEASE wDEFAULT_DEAD_LETTER_RETENTION a1 d1 p2 d3 h0 n0) ({ frames := 1, cells := 0, slots := 0, locals := 12 } : Room).cells ({ frames := 1, cells := 0, slots := 0, locals := 12 } : Room).slots = P
  show Go p e below P (s₁.setTop (mkF m 0 #[.val (.ref a1), .val (.ref d1), .val (.int p2), .val (.ref d3)] []))
  refine Go.by (fun _ => XS.aloadN X0.here hx rfl (hb hby d2_0) rfl rfl) ?_
  show Go p e below P (s₁.setTop (mkF m 1 #[.val (.ref a1), .val (.ref d1), .val (.int p2), .val (.ref d3)] [(.ref a1)]))
  obtain ⟨T1, X1, e1, st1⟩ := initO X0 hx hZ hown (hw _ (List.mem_of_getElem? (i := 13) rfl)) (hw _ (List.mem_of_getElem? (i := 14) rfl)) (hw _ (List.mem_of_getElem? (i := 15) rfl)) e0 (g := (mkF m 1 #[.val (.ref a1), .val (.ref d1), .val (.int p2), .val (.ref d3)] [(.ref a1)])) rfl (by rw [hml]; rfl) rfl (hb hby d2_1) (Nat.le_of_ble_eq_true rfl) (W := 0) (by show 2 * 0 + _ ≤ _; exact Nat.le_of_eq rfl) (Nat.le_of_ble_eq_true rfl)
  refine Go.by (fun _ => st1 _) ?_
  show Go p e below P (T1.setTop (mkF m 4 #[.val (.ref a1), .val (.ref d1), .val (.int p2), .val (.ref d3)] []))
  refine Go.by (fun _ => XS.aloadN X1.here hx rfl (hb hby d2_4) rfl rfl) ?_
  show Go p e below P (T1.setTop (mkF m 5 #[.val (.ref a1), .val (.ref d1), .val (.int p2), .val (.ref d3)] [(.ref a1)]))
  refine Go.by (fun _ => XS.aloadN X1.here hx rfl (hb hby d2_5) rfl rfl) ?_
  show Go p e below P (T1.setTop (mkF m 6 #[.val (.ref a1), .val (.ref d1), .val (.int p2), .val (.ref d3)] [(.ref d1), (.ref a1)]))
  obtain ⟨T2, h2, X2, e2, W2, st2⟩ := putF X1 hx hZ hown (host := "") (Or.inl (hw _ (List.mem_of_getElem? (i := 16) rfl))) Via.refl e1 P1 P0 (Or.inr ⟨(hw _ (List.mem_of_getElem? (i := 17) rfl)), rfl, hnm⟩) (hw _ (List.mem_of_getElem? (i := 5) rfl)) (ty := (.object "java/time/Duration")) (by decide) rfl rfl (g := (mkF m 6 #[.val (.ref a1), .val (.ref d1), .val (.int p2), .val (.ref d3)] [(.ref d1), (.ref a1)])) rfl rfl (hb hby d2_6)
  refine Go.by (fun _ => st2 _) ?_
  have F3 : Exa Z h2 a1 "com/example/cicada/cicada/model/QueueOptions" := P0.wr W2
  have F4 : Fld Z h2 a1 "com/example/cicada/cicada/model/QueueOptions" "retries" "I" (.int (0 : Int32)) := P2.other W2 (Or.inr (slot_ne (Or.inr (hw _ (List.mem_of_getElem? (i := 19) rfl))) (Or.inr (hw _ (List.mem_of_getElem? (i := 17) rfl))) (by decide) (t := .int) (t' := (.object "java/time/Duration")) (by decide) (by decide)))
  have F5 : Fld Z h2 a1 "com/example/cicada/cicada/model/QueueOptions" "deadLetterRetention" "Ljava/time/Duration;" .null := P3.other W2 (Or.inr (slot_ne (Or.inr (hw _ (List.mem_of_getElem? (i := 21) rfl))) (Or.inr (hw _ (List.mem_of_getElem? (i := 17) rfl))) (by decide) (t := (.object "java/time/Duration")) (t' := (.object "java/time/Duration")) (by decide) (by decide)))
  have O2 := O0.wr W2 ga
  have Z2 : n0 ≤ h2.size := Nat.le_trans Z0 (Keep.of_wr W2).1
  have K2 : Keep h0 h2 [a1] := (Keep.refl h0 [a1]).wr W2 (Or.inl (List.mem_of_getElem? (i := 0) rfl))
  have F6 : Fld Z h2 a1 "com/example/cicada/cicada/model/QueueOptions" "lease" "Ljava/time/Duration;" (.ref d1) := P1.same W2
  have N2 := Fr.snoc X2 N0 ga
  show Go p e below P (T2.setTop (mkF m 9 #[.val (.ref a1), .val (.ref d1), .val (.int p2), .val (.ref d3)] []))
  refine Go.by (fun _ => XS.aloadN X2.here hx rfl (hb hby d2_9) rfl rfl) ?_
  show Go p e below P (T2.setTop (mkF m 10 #[.val (.ref a1), .val (.ref d1), .val (.int p2), .val (.ref d3)] [(.ref a1)]))
  refine Go.by (fun _ => XS.iloadN X2.here hx rfl (hb hby d2_10) rfl) ?_
  show Go p e below P (T2.setTop (mkF m 11 #[.val (.ref a1), .val (.ref d1), .val (.int p2), .val (.ref d3)] [(.int p2), (.ref a1)]))
  obtain ⟨T7, h7, X7, e7, W7, st7⟩ := putF X2 hx hZ hown (host := "") (Or.inl (hw _ (List.mem_of_getElem? (i := 18) rfl))) Via.refl e2 F4 F3 (Or.inr ⟨(hw _ (List.mem_of_getElem? (i := 19) rfl)), rfl, hnm⟩) (hw _ (List.mem_of_getElem? (i := 5) rfl)) (ty := .int) (by decide) rfl rfl (g := (mkF m 11 #[.val (.ref a1), .val (.ref d1), .val (.int p2), .val (.ref d3)] [(.int p2), (.ref a1)])) rfl rfl (hb hby d2_11)
  refine Go.by (fun _ => st7 _) ?_
  have F8 : Exa Z h7 a1 "com/example/cicada/cicada/model/QueueOptions" := F3.wr W7
  have F9 : Fld Z h7 a1 "com/example/cicada/cicada/model/QueueOptions" "deadLetterRetention" "Ljava/time/Duration;" .null := F5.other W7 (Or.inr (slot_ne (Or.inr (hw _ (List.mem_of_getElem? (i := 21) rfl))) (Or.inr (hw _ (List.mem_of_getElem? (i := 19) rfl))) (by decide) (t := (.object "java/time/Duration")) (t' := .int) (by decide) (by decide)))
  have F10 : Fld Z h7 a1 "com/example/cicada/cicada/model/QueueOptions" "lease" "Ljava/time/Duration;" (.ref d1) := F6.other W7 (Or.inr (slot_ne (Or.inr (hw _ (List.mem_of_getElem? (i := 17) rfl))) (Or.inr (hw _ (List.mem_of_getElem? (i := 19) rfl))) (by decide) (t := (.object "java/time/Duration")) (t' := .int) (by decide) (by decide)))
  have O7 := O2.wr W7 ga
  have Z7 : n0 ≤ h7.size := Nat.le_trans Z2 (Keep.of_wr W7).1
  have K7 : Keep h0 h7 [a1] := K2.wr W7 (Or.inl (List.mem_of_getElem? (i := 0) rfl))
  have F11 : Fld Z h7 a1 "com/example/cicada/cicada/model/QueueOptions" "retries" "I" (.int p2) := F4.same W7
  have N7 := Fr.snoc X7 N2 ga
  show Go p e below P (T7.setTop (mkF m 14 #[.val (.ref a1), .val (.ref d1), .val (.int p2), .val (.ref d3)] []))
  refine Go.by (fun _ => XS.aloadN X7.here hx rfl (hb hby d2_14) rfl rfl) ?_
  show Go p e below P (T7.setTop (mkF m 15 #[.val (.ref a1), .val (.ref d1), .val (.int p2), .val (.ref d3)] [(.ref a1)]))
  refine Go.by (fun _ => XS.aloadN X7.here hx rfl (hb hby d2_15) rfl rfl) ?_
  show Go p e below P (T7.setTop (mkF m 16 #[.val (.ref a1), .val (.ref d1), .val (.int p2), .val (.ref d3)] [(.ref d3), (.ref a1)]))
  obtain ⟨T12, h12, X12, e12, W12, st12⟩ := putF X7 hx hZ hown (host := "") (Or.inl (hw _ (List.mem_of_getElem? (i := 20) rfl))) Via.refl e7 F9 F8 (Or.inr ⟨(hw _ (List.mem_of_getElem? (i := 21) rfl)), rfl, hnm⟩) (hw _ (List.mem_of_getElem? (i := 5) rfl)) (ty := (.object "java/time/Duration")) (by decide) rfl rfl (g := (mkF m 16 #[.val (.ref a1), .val (.ref d1), .val (.int p2), .val (.ref d3)] [(.ref d3), (.ref a1)])) rfl rfl (hb hby d2_16)
  refine Go.by (fun _ => st12 _) ?_
  have F13 : Exa Z h12 a1 "com/example/cicada/cicada/model/QueueOptions" := F8.wr W12
  have F14 : Fld Z h12 a1 "com/example/cicada/cicada/model/QueueOptions" "lease" "Ljava/time/Duration;" (.ref d1) := F10.other W12 (Or.inr (slot_ne (Or.inr (hw _ (List.mem_of_getElem? (i := 17) rfl))) (Or.inr (hw _ (List.mem_of_getElem? (i := 21) rfl))) (by decide) (t := (.object "java/time/Duration")) (t' := (.object "java/time/Duration")) (by decide) (by decide)))
  have F15 : Fld Z h12 a1 "com/example/cicada/cicada/model/QueueOptions" "retries" "I" (.int p2) := F11.other W12 (Or.inr (slot_ne (Or.inr (hw _ (List.mem_of_getElem? (i := 19) rfl))) (Or.inr (hw _ (List.mem_of_getElem? (i := 21) rfl))) (by decide) (t := .int) (t' := (.object "java/time/Duration")) (by decide) (by decide)))
  have O12 := O7.wr W12 ga
  have Z12 : n0 ≤ h12.size := Nat.le_trans Z7 (Keep.of_wr W12).1
  have K12 : Keep h0 h12 [a1] := K7.wr W12 (Or.inl (List.mem_of_getElem? (i := 0) rfl))
  have F16 : Fld Z h12 a1 "com/example/cicada/cicada/model/QueueOptions" "deadLetterRetention" "Ljava/time/Duration;" (.ref d3) := F9.same W12
  have N12 := Fr.snoc X12 N7 ga
  show Go p e below P (T12.setTop (mkF m 19 #[.val (.ref a1), .val (.ref d1), .val (.int p2), .val (.ref d3)] []))
  subst hP
  refine Go.retV X12 hx Bd.returns hlk (hb hby d2_19) (Nat.le_of_ble_eq_true rfl) (Nat.le_of_ble_eq_true rfl) ?_
  rw [e12]
  exact ⟨rfl, N12, K12, F14, F15, F16⟩
theorem d1_0 : decode prog_5_method_2_code 0 = .ok (.new 10, 3) := by decide +kernel
theorem d1_3 : decode prog_5_method_2_code 3 = .ok (.dup, 1) := by decide +kernel
theorem d1_4 : decode prog_5_method_2_code 4 = .ok (.getstatic 22, 3) := by decide +kernel
theorem d1_7 : decode prog_5_method_2_code 7 = .ok (.iconst 3, 1) := by decide +kernel
theorem d1_8 : decode prog_5_method_2_code 8 = .ok (.getstatic 25, 3) := by decide +kernel
theorem d1_11 : decode prog_5_method_2_code 11 = .ok (.invokespecial 28, 3) := by decide +kernel
theorem d1_14 : decode prog_5_method_2_code 14 = .ok (.areturn, 1) := by decide +kernel
theorem ef_dfl (m : MethodId)  : entryFrame m #[] 0 = mkF m 0 #[] [] := by first | (simp [entryFrame, mkF, argsToLocals, Value.category]; done) | rfl
def Q_dfl (Z : State) (wDEFAULT_LEASE : Addr) (wDEFAULT_DEAD_LETTER_RETENTION : Addr) (h0 : Heap) (n0 : Nat) (v : Option Value) (h : Heap) (L : List Loc) : Prop := ∃ (b : Addr), v = some (.ref b) ∧ Fr n0 L ∧ Keep h0 h [] ∧ Exa Z h b "com/example/cicada/cicada/model/QueueOptions" ∧ Fld Z h b "com/example/cicada/cicada/model/QueueOptions" "lease" "Ljava/time/Duration;" (.ref wDEFAULT_LEASE) ∧ Fld Z h b "com/example/cicada/cicada/model/QueueOptions" "retries" "I" (.int (3 : Int32)) ∧ Fld Z h b "com/example/cicada/cicada/model/QueueOptions" "deadLetterRetention" "Ljava/time/Duration;" (.ref wDEFAULT_DEAD_LETTER_RETENTION) ∧ h0.size ≤ b
set_option maxRecDepth 65536 in
set_option maxHeartbeats 40000000 in
theorem rm_dfl (l : Launch) (Z : State) (a0 : Array Value) (hw : ∀ d ∈ tables_1, d.before a0 Z = true) (ws : List Jvm.Cond) (wDEFAULT_LEASE : Addr) (wDEFAULT_DEAD_LETTER_RETENTION : Addr) (hG : Glob Z wDEFAULT_LEASE wDEFAULT_DEAD_LETTER_RETENTION) (h0 : Heap) (n0 : Nat) (Z0 : n0 ≤ h0.size) (O0 : Old Z n0 h0) :
    MetFree l (⟨"com/example/cicada/cicada/model/QueueOptions", "defaults", "()Lcom/example/cicada/cicada/model/QueueOptions;"⟩ : MethodName) (head1 (Jvm.Cond.code (⟨"com/example/cicada/cicada/model/QueueOptions", "defaults", "()Lcom/example/cicada/cicada/model/QueueOptions;"⟩ : MethodName) prog_5_method_2_code 0 (some (.object "com/example/cicada/cicada/model/QueueOptions")) :: ws) ({ frames := 2, cells := 1, slots := 3, locals := 28 } : Room)) (fun a U => a = #[] ∧ Z.Warmed39 U.vm ∧ U.heap = h0) (fun _ _ _ _ _ => True) (fun _ U o U' => ∃ v L, o = .returned v ∧ Q_dfl Z wDEFAULT_LEASE wDEFAULT_DEAD_LETTER_RETENTION  h0 n0 v U'.heap L ∧ FrameEnd U o U' L ({ frames := 2, cells := 1, slots := 3, locals := 28 } : Room).cells ({ frames := 2, cells := 1, slots := 3, locals := 28 } : Room).slots) := by
  refine MetFree.of_bodySF (plainFor_of_name pn_0) hisR ?_
  intro p e s m args below meth c s₁ Bd hml0 hP hK
  obtain ⟨rfl, hZ, hh⟩ := hP
  have hx := Bd.exec
  have hby := Bd.bytes
  have hml : c.maxLocals = 0 := hml0
  have hown : s.vm.findClass "com/example/cicada/cicada/model/QueueOptions" = some m.cls := findClass_of_methodNamed Bd.named
  have hnm := (name_of_methodNamed Bd.named Bd.method).1
  have hlk : meth.locks = false := BodyLoose.notSynchronized Bd
  have X0 : Stand p l e ({ frames := 2, cells := 1, slots := 3, locals := 28 } : Room) s m #[] below meth c s₁ [] 0 0 := Stand.of_body Bd
  have e0 : s₁.heap = h0 := by rw [← hh, Bd.state]; rfl
  have N0 := Fr.nil n0
  obtain ⟨G0, G1, G2, G3⟩ := id hG
  show Go p e below (End s (Q_dfl Z wDEFAULT_LEASE wDEFAULT_DEAD_LETTER_RETENTION  h0 n0) ({ frames := 2, cells := 1, slots := 3, locals := 28 } : Room).cells ({ frames := 2, cells := 1, slots := 3, locals := 28 } : Room).slots) (s₁.setTop (entryFrame m #[] 0))
  rw [ef_dfl]
  generalize hP : End s (Q_dfl Z wDEFAULT_LEASE wDEFAULT_DEAD_LETTER_RETENTION  h0 n0) ({ frames := 2, cells := 1, slots := 3, locals := 28 } : Room).cells ({ frames := 2, cells := 1, slots := 3, locals := 28 } : Room).slots = P
  show Go p e below P (s₁.setTop (mkF m 0 #[] []))
  obtain ⟨T1, h1, X1, e1, E1, A1, D1, -, st1⟩ := newO X0 hx hZ hown (hw _ (List.mem_of_getElem? (i := 4) rfl)) (hw _ (List.mem_of_getElem? (i := 5) rfl)) (hw _ (List.mem_of_getElem? (i := 2) rfl)) e0 (g := (mkF m 0 #[] [])) rfl (hb hby d1_0) (Nat.le_of_ble_eq_true rfl) (Nat.le_of_ble_eq_true rfl)
  obtain ⟨b1, q1⟩ : ∃ z, z = h0.size := ⟨_, rfl⟩
  rw [← q1] at A1 D1 st1
  refine Go.by (fun _ => st1 _) ?_
  have g_b1 : n0 ≤ b1 := Nat.le_trans Z0 (Nat.le_of_eq q1.symm)
  have sz_b1 : h0.size ≤ b1 := Nat.le_trans (Keep.refl h0 []).1 (Nat.le_of_eq q1.symm)
  have O1 := O0.ext E1
  have Z1 : n0 ≤ h1.size := Nat.le_trans Z0 E1.1
  have K1 : Keep h0 h1 [] := (Keep.refl h0 []).ext E1
  have F2 : Fld Z h1 b1 "com/example/cicada/cicada/model/QueueOptions" "lease" "Ljava/time/Duration;" .null := D1 (Or.inr (hw _ (List.mem_of_getElem? (i := 17) rfl))) (ty := (.object "java/time/Duration")) (by decide)
  have F3 : Fld Z h1 b1 "com/example/cicada/cicada/model/QueueOptions" "retries" "I" (.int (0 : Int32)) := D1 (Or.inr (hw _ (List.mem_of_getElem? (i := 19) rfl))) (ty := .int) (by decide)
  have F4 : Fld Z h1 b1 "com/example/cicada/cicada/model/QueueOptions" "deadLetterRetention" "Ljava/time/Duration;" .null := D1 (Or.inr (hw _ (List.mem_of_getElem? (i := 21) rfl))) (ty := (.object "java/time/Duration")) (by decide)
  show Go p e below P (T1.setTop (mkF m 3 #[] [(.ref b1)]))
  refine Go.by (fun _ => XS.dup X1.here hx rfl (hb hby d1_3) rfl rfl) ?_
  show Go p e below P (T1.setTop (mkF m 4 #[] [(.ref b1), (.ref b1)]))
  obtain ⟨T5, X5, e5, st5⟩ := getS2 X1 hx hZ hown (host := "") (Or.inl (hw _ (List.mem_of_getElem? (i := 6) rfl))) Via.refl e1 (G0.ext O1.2) (g := (mkF m 4 #[] [(.ref b1), (.ref b1)])) rfl (hb hby d1_4)
  refine Go.by (fun _ => st5 _) ?_
  show Go p e below P (T5.setTop (mkF m 7 #[] [(.ref wDEFAULT_LEASE), (.ref b1), (.ref b1)]))
  refine Go.by (fun _ => XS.iconst X5.here hx rfl (hb hby d1_7)) ?_
  show Go p e below P (T5.setTop (mkF m 8 #[] [(.int (3 : Int32)), (.ref wDEFAULT_LEASE), (.ref b1), (.ref b1)]))
  obtain ⟨T6, X6, e6, st6⟩ := getS2 X5 hx hZ hown (host := "") (Or.inl (hw _ (List.mem_of_getElem? (i := 8) rfl))) Via.refl e5 (G2.ext O1.2) (g := (mkF m 8 #[] [(.int (3 : Int32)), (.ref wDEFAULT_LEASE), (.ref b1), (.ref b1)])) rfl (hb hby d1_8)
  refine Go.by (fun _ => st6 _) ?_
  show Go p e below P (T6.setTop (mkF m 11 #[] [(.ref wDEFAULT_DEAD_LETTER_RETENTION), (.int (3 : Int32)), (.ref wDEFAULT_LEASE), (.ref b1), (.ref b1)]))
  obtain ⟨_, _, ⟨T7, L7, k7, n7⟩, -, X7, ⟨Lc7, hQ7, l7, y7, z7⟩, st7⟩ := X6.specialBack hx (y := (⟨"com/example/cicada/cicada/model/QueueOptions", "<init>", "(Ljava/time/Duration;ILjava/time/Duration;)V"⟩ : MethodName)) rfl hown (mvT hZ (hw _ (List.mem_of_getElem? (i := 10) rfl))) (mvT hZ (hw _ (List.mem_of_getElem? (i := 11) rfl))) (mvT hZ (hw _ (List.mem_of_getElem? (i := 12) rfl))) (by decide) (backOf (W := 1) (rm_ini l Z a0 hw [] wDEFAULT_LEASE wDEFAULT_DEAD_LETTER_RETENTION hG b1 wDEFAULT_LEASE ((3 : Int32)) wDEFAULT_DEAD_LETTER_RETENTION h1 n0 Z1 O1 A1 F2 F3 F4 g_b1) hZ (hw _ (List.mem_of_getElem? (i := 12) rfl)) (hw _ (List.mem_of_getElem? (i := 2) rfl)) (Nat.le_of_ble_eq_true rfl) (Nat.le_of_ble_eq_true rfl)) (g := (mkF m 11 #[] [(.ref wDEFAULT_DEAD_LETTER_RETENTION), (.int (3 : Int32)), (.ref wDEFAULT_LEASE), (.ref b1), (.ref b1)])) rfl (by rw [hml]; rfl) (Steps.refl _) (a := b1) (argsL := [(.ref wDEFAULT_LEASE), (.int (3 : Int32)), (.ref wDEFAULT_DEAD_LETTER_RETENTION)]) (rest := [(.ref b1)]) (lenOf pd_0 rfl) rfl (by show 2 * 0 + _ ≤ _; exact Nat.le_of_eq rfl) (hb hby d1_11) (fun _ _ => ⟨rfl, e6, (Nat.le_of_ble_eq_true rfl : 1 + 0 ≤ _), (Nat.le_of_ble_eq_true rfl : 3 + 0 ≤ _)⟩)
  dsimp only [Pt.U, Pt.locs, Pt.cells, Pt.slots] at X7 l7 y7 z7 st7 hQ7
  subst l7 y7 z7
  obtain ⟨rfl, Nq7, Kc7, F8, F9, F10⟩ := hQ7
  have N7 := Fr.app N0 Nq7
  refine Go.by (fun _ k => st7.trans k) ?_
  have F11 : Exa Z T7.heap b1 "com/example/cicada/cicada/model/QueueOptions" := A1.keep Kc7
  have O7 := O1.keep Kc7 (allS g_b1 all0)
  have Z7 : n0 ≤ T7.heap.size := Nat.le_trans Z1 Kc7.1
  have K7 : Keep h0 T7.heap [] := K1.trans Kc7 (allS (P := fun x => x ∈ [] ∨ h0.size ≤ x) (Or.inr sz_b1) all0)
  show Go p e below P (T7.setTop (mkF m 14 #[] [(.ref b1)]))
  subst hP
  refine Go.retR X7 hx Bd.returns rfl rfl hlk (hb hby d1_14) (Nat.le_of_ble_eq_true rfl) (Nat.le_of_ble_eq_true rfl) ?_
  exact ⟨b1, rfl, N7, K7, F11, F8, F9, F10, sz_b1⟩
theorem d4_0 : decode prog_5_method_6_code 0 = .ok (.aload_n 0, 1) := by decide +kernel
theorem d4_1 : decode prog_5_method_6_code 1 = .ok (.getfield 9, 3) := by decide +kernel
theorem d4_4 : decode prog_5_method_6_code 4 = .ok (.areturn, 1) := by decide +kernel
theorem ef_glease (m : MethodId) (x0 : Addr) : entryFrame m #[(.ref x0)] 1 = mkF m 0 #[.val (.ref x0)] [] := by first | (simp [entryFrame, mkF, argsToLocals, Value.category]; done) | rfl
def Q_glease (Z : State) (wDEFAULT_LEASE : Addr) (wDEFAULT_DEAD_LETTER_RETENTION : Addr) (a1 : Addr) (v1 : Addr) (h0 : Heap) (n0 : Nat) (v : Option Value) (h : Heap) (L : List Loc) : Prop := v = some (.ref v1) ∧ Fr n0 L ∧ h = h0
set_option maxRecDepth 65536 in
set_option maxHeartbeats 40000000 in
theorem rm_glease (l : Launch) (Z : State) (a0 : Array Value) (hw : ∀ d ∈ tables_1, d.before a0 Z = true) (ws : List Jvm.Cond) (wDEFAULT_LEASE : Addr) (wDEFAULT_DEAD_LETTER_RETENTION : Addr) (hG : Glob Z wDEFAULT_LEASE wDEFAULT_DEAD_LETTER_RETENTION) (a1 : Addr) (v1 : Addr) (h0 : Heap) (n0 : Nat) (Z0 : n0 ≤ h0.size) (O0 : Old Z n0 h0) (P0 : Fld Z h0 a1 "com/example/cicada/cicada/model/QueueOptions" "lease" "Ljava/time/Duration;" (.ref v1)) :
    MetFree l (⟨"com/example/cicada/cicada/model/QueueOptions", "lease", "()Ljava/time/Duration;"⟩ : MethodName) (head1 (Jvm.Cond.code (⟨"com/example/cicada/cicada/model/QueueOptions", "lease", "()Ljava/time/Duration;"⟩ : MethodName) prog_5_method_6_code 1 (some (.object "java/time/Duration")) :: ws) ({ frames := 0, cells := 0, slots := 0, locals := 0 } : Room)) (fun a U => a = #[(.ref a1)] ∧ Z.Warmed39 U.vm ∧ U.heap = h0) (fun _ _ _ _ _ => True) (fun _ U o U' => ∃ v L, o = .returned v ∧ Q_glease Z wDEFAULT_LEASE wDEFAULT_DEAD_LETTER_RETENTION a1 v1 h0 n0 v U'.heap L ∧ FrameEnd U o U' L ({ frames := 0, cells := 0, slots := 0, locals := 0 } : Room).cells ({ frames := 0, cells := 0, slots := 0, locals := 0 } : Room).slots) := by
  refine MetFree.of_bodySF (plainFor_of_name pn_0) hisR ?_
  intro p e s m args below meth c s₁ Bd hml0 hP hK
  obtain ⟨rfl, hZ, hh⟩ := hP
  have hx := Bd.exec
  have hby := Bd.bytes
  have hml : c.maxLocals = 1 := hml0
  have hown : s.vm.findClass "com/example/cicada/cicada/model/QueueOptions" = some m.cls := findClass_of_methodNamed Bd.named
  have hnm := (name_of_methodNamed Bd.named Bd.method).1
  have hlk : meth.locks = false := BodyLoose.notSynchronized Bd
  have X0 : Stand p l e ({ frames := 0, cells := 0, slots := 0, locals := 0 } : Room) s m #[(.ref a1)] below meth c s₁ [] 0 0 := Stand.of_body Bd
  have e0 : s₁.heap = h0 := by rw [← hh, Bd.state]; rfl
  have N0 := Fr.nil n0
  obtain ⟨G0, G1, G2, G3⟩ := id hG
  show Go p e below (End s (Q_glease Z wDEFAULT_LEASE wDEFAULT_DEAD_LETTER_RETENTION a1 v1 h0 n0) ({ frames := 0, cells := 0, slots := 0, locals := 0 } : Room).cells ({ frames := 0, cells := 0, slots := 0, locals := 0 } : Room).slots) (s₁.setTop (entryFrame m #[(.ref a1)] 1))
  rw [ef_glease]
  generalize hP : End s (Q_glease Z wDEFAULT_LEASE wDEFAULT_DEAD_LETTER_RETENTION a1 v1 h0 n0) ({ frames := 0, cells := 0, slots := 0, locals := 0 } : Room).cells ({ frames := 0, cells := 0, slots := 0, locals := 0 } : Room).slots = P
  show Go p e below P (s₁.setTop (mkF m 0 #[.val (.ref a1)] []))
  refine Go.by (fun _ => XS.aloadN X0.here hx rfl (hb hby d4_0) rfl rfl) ?_
  show Go p e below P (s₁.setTop (mkF m 1 #[.val (.ref a1)] [(.ref a1)]))
  obtain ⟨T1, X1, e1, st1⟩ := getF X0 hx hZ hown (host := "") (Or.inl (hw _ (List.mem_of_getElem? (i := 16) rfl))) Via.refl e0 P0 (g := (mkF m 1 #[.val (.ref a1)] [(.ref a1)])) rfl rfl (hb hby d4_1)
  refine Go.by (fun _ => st1 _) ?_
  show Go p e below P (T1.setTop (mkF m 4 #[.val (.ref a1)] [(.ref v1)]))
  subst hP
  refine Go.retR X1 hx Bd.returns rfl rfl hlk (hb hby d4_4) (Nat.le_of_ble_eq_true rfl) (Nat.le_of_ble_eq_true rfl) ?_
  rw [e1]
  exact ⟨rfl, N0, rfl⟩
theorem d5_0 : decode prog_5_method_7_code 0 = .ok (.aload_n 0, 1) := by decide +kernel
theorem d5_1 : decode prog_5_method_7_code 1 = .ok (.getfield 15, 3) := by decide +kernel
theorem d5_4 : decode prog_5_method_7_code 4 = .ok (.ireturn, 1) := by decide +kernel
theorem ef_gretries (m : MethodId) (x0 : Addr) : entryFrame m #[(.ref x0)] 1 = mkF m 0 #[.val (.ref x0)] [] := by first | (simp [entryFrame, mkF, argsToLocals, Value.category]; done) | rfl
def Q_gretries (Z : State) (wDEFAULT_LEASE : Addr) (wDEFAULT_DEAD_LETTER_RETENTION : Addr) (a1 : Addr) (v1 : Int32) (h0 : Heap) (n0 : Nat) (v : Option Value) (h : Heap) (L : List Loc) : Prop := v = some (.int v1) ∧ Fr n0 L ∧ h = h0
set_option maxRecDepth 65536 in
set_option maxHeartbeats 40000000 in
theorem rm_gretries (l : Launch) (Z : State) (a0 : Array Value) (hw : ∀ d ∈ tables_1, d.before a0 Z = true) (ws : List Jvm.Cond) (wDEFAULT_LEASE : Addr) (wDEFAULT_DEAD_LETTER_RETENTION : Addr) (hG : Glob Z wDEFAULT_LEASE wDEFAULT_DEAD_LETTER_RETENTION) (a1 : Addr) (v1 : Int32) (h0 : Heap) (n0 : Nat) (Z0 : n0 ≤ h0.size) (O0 : Old Z n0 h0) (P0 : Fld Z h0 a1 "com/example/cicada/cicada/model/QueueOptions" "retries" "I" (.int v1)) :
    MetFree l (⟨"com/example/cicada/cicada/model/QueueOptions", "retries", "()I"⟩ : MethodName) (head1 (Jvm.Cond.code (⟨"com/example/cicada/cicada/model/QueueOptions", "retries", "()I"⟩ : MethodName) prog_5_method_7_code 1 (some .int) :: ws) ({ frames := 0, cells := 0, slots := 0, locals := 0 } : Room)) (fun a U => a = #[(.ref a1)] ∧ Z.Warmed39 U.vm ∧ U.heap = h0) (fun _ _ _ _ _ => True) (fun _ U o U' => ∃ v L, o = .returned v ∧ Q_gretries Z wDEFAULT_LEASE wDEFAULT_DEAD_LETTER_RETENTION a1 v1 h0 n0 v U'.heap L ∧ FrameEnd U o U' L ({ frames := 0, cells := 0, slots := 0, locals := 0 } : Room).cells ({ frames := 0, cells := 0, slots := 0, locals := 0 } : Room).slots) := by
  refine MetFree.of_bodySF (plainFor_of_name pn_0) hisR ?_
  intro p e s m args below meth c s₁ Bd hml0 hP hK
  obtain ⟨rfl, hZ, hh⟩ := hP
  have hx := Bd.exec
  have hby := Bd.bytes
  have hml : c.maxLocals = 1 := hml0
  have hown : s.vm.findClass "com/example/cicada/cicada/model/QueueOptions" = some m.cls := findClass_of_methodNamed Bd.named
  have hnm := (name_of_methodNamed Bd.named Bd.method).1
  have hlk : meth.locks = false := BodyLoose.notSynchronized Bd
  have X0 : Stand p l e ({ frames := 0, cells := 0, slots := 0, locals := 0 } : Room) s m #[(.ref a1)] below meth c s₁ [] 0 0 := Stand.of_body Bd
  have e0 : s₁.heap = h0 := by rw [← hh, Bd.state]; rfl
  have N0 := Fr.nil n0
  obtain ⟨G0, G1, G2, G3⟩ := id hG
  show Go p e below (End s (Q_gretries Z wDEFAULT_LEASE wDEFAULT_DEAD_LETTER_RETENTION a1 v1 h0 n0) ({ frames := 0, cells := 0, slots := 0, locals := 0 } : Room).cells ({ frames := 0, cells := 0, slots := 0, locals := 0 } : Room).slots) (s₁.setTop (entryFrame m #[(.ref a1)] 1))
  rw [ef_gretries]
  generalize hP : End s (Q_gretries Z wDEFAULT_LEASE wDEFAULT_DEAD_LETTER_RETENTION a1 v1 h0 n0) ({ frames := 0, cells := 0, slots := 0, locals := 0 } : Room).cells ({ frames := 0, cells := 0, slots := 0, locals := 0 } : Room).slots = P
  show Go p e below P (s₁.setTop (mkF m 0 #[.val (.ref a1)] []))
  refine Go.by (fun _ => XS.aloadN X0.here hx rfl (hb hby d5_0) rfl rfl) ?_
  show Go p e below P (s₁.setTop (mkF m 1 #[.val (.ref a1)] [(.ref a1)]))
  obtain ⟨T1, X1, e1, st1⟩ := getF X0 hx hZ hown (host := "") (Or.inl (hw _ (List.mem_of_getElem? (i := 18) rfl))) Via.refl e0 P0 (g := (mkF m 1 #[.val (.ref a1)] [(.ref a1)])) rfl rfl (hb hby d5_1)
  refine Go.by (fun _ => st1 _) ?_
  show Go p e below P (T1.setTop (mkF m 4 #[.val (.ref a1)] [(.int v1)]))
  subst hP
  refine Go.retI X1 hx Bd.returns hlk (hb hby d5_4) (Nat.le_of_ble_eq_true rfl) (Nat.le_of_ble_eq_true rfl) ?_
  rw [e1]
  exact ⟨rfl, N0, rfl⟩
theorem d6_0 : decode prog_5_method_8_code 0 = .ok (.aload_n 0, 1) := by decide +kernel
theorem d6_1 : decode prog_5_method_8_code 1 = .ok (.getfield 19, 3) := by decide +kernel
theorem d6_4 : decode prog_5_method_8_code 4 = .ok (.areturn, 1) := by decide +kernel
theorem ef_gdeadLetterRetention (m : MethodId) (x0 : Addr) : entryFrame m #[(.ref x0)] 1 = mkF m 0 #[.val (.ref x0)] [] := by first | (simp [entryFrame, mkF, argsToLocals, Value.category]; done) | rfl
def Q_gdeadLetterRetention (Z : State) (wDEFAULT_LEASE : Addr) (wDEFAULT_DEAD_LETTER_RETENTION : Addr) (a1 : Addr) (v1 : Addr) (h0 : Heap) (n0 : Nat) (v : Option Value) (h : Heap) (L : List Loc) : Prop := v = some (.ref v1) ∧ Fr n0 L ∧ h = h0
set_option maxRecDepth 65536 in
set_option maxHeartbeats 40000000 in
theorem rm_gdeadLetterRetention (l : Launch) (Z : State) (a0 : Array Value) (hw : ∀ d ∈ tables_1, d.before a0 Z = true) (ws : List Jvm.Cond) (wDEFAULT_LEASE : Addr) (wDEFAULT_DEAD_LETTER_RETENTION : Addr) (hG : Glob Z wDEFAULT_LEASE wDEFAULT_DEAD_LETTER_RETENTION) (a1 : Addr) (v1 : Addr) (h0 : Heap) (n0 : Nat) (Z0 : n0 ≤ h0.size) (O0 : Old Z n0 h0) (P0 : Fld Z h0 a1 "com/example/cicada/cicada/model/QueueOptions" "deadLetterRetention" "Ljava/time/Duration;" (.ref v1)) :
    MetFree l (⟨"com/example/cicada/cicada/model/QueueOptions", "deadLetterRetention", "()Ljava/time/Duration;"⟩ : MethodName) (head1 (Jvm.Cond.code (⟨"com/example/cicada/cicada/model/QueueOptions", "deadLetterRetention", "()Ljava/time/Duration;"⟩ : MethodName) prog_5_method_8_code 1 (some (.object "java/time/Duration")) :: ws) ({ frames := 0, cells := 0, slots := 0, locals := 0 } : Room)) (fun a U => a = #[(.ref a1)] ∧ Z.Warmed39 U.vm ∧ U.heap = h0) (fun _ _ _ _ _ => True) (fun _ U o U' => ∃ v L, o = .returned v ∧ Q_gdeadLetterRetention Z wDEFAULT_LEASE wDEFAULT_DEAD_LETTER_RETENTION a1 v1 h0 n0 v U'.heap L ∧ FrameEnd U o U' L ({ frames := 0, cells := 0, slots := 0, locals := 0 } : Room).cells ({ frames := 0, cells := 0, slots := 0, locals := 0 } : Room).slots) := by
  refine MetFree.of_bodySF (plainFor_of_name pn_0) hisR ?_
  intro p e s m args below meth c s₁ Bd hml0 hP hK
  obtain ⟨rfl, hZ, hh⟩ := hP
  have hx := Bd.exec
  have hby := Bd.bytes
  have hml : c.maxLocals = 1 := hml0
  have hown : s.vm.findClass "com/example/cicada/cicada/model/QueueOptions" = some m.cls := findClass_of_methodNamed Bd.named
  have hnm := (name_of_methodNamed Bd.named Bd.method).1
  have hlk : meth.locks = false := BodyLoose.notSynchronized Bd
  have X0 : Stand p l e ({ frames := 0, cells := 0, slots := 0, locals := 0 } : Room) s m #[(.ref a1)] below meth c s₁ [] 0 0 := Stand.of_body Bd
  have e0 : s₁.heap = h0 := by rw [← hh, Bd.state]; rfl
  have N0 := Fr.nil n0
  obtain ⟨G0, G1, G2, G3⟩ := id hG
  show Go p e below (End s (Q_gdeadLetterRetention Z wDEFAULT_LEASE wDEFAULT_DEAD_LETTER_RETENTION a1 v1 h0 n0) ({ frames := 0, cells := 0, slots := 0, locals := 0 } : Room).cells ({ frames := 0, cells := 0, slots := 0, locals := 0 } : Room).slots) (s₁.setTop (entryFrame m #[(.ref a1)] 1))
  rw [ef_gdeadLetterRetention]
  generalize hP : End s (Q_gdeadLetterRetention Z wDEFAULT_LEASE wDEFAULT_DEAD_LETTER_RETENTION a1 v1 h0 n0) ({ frames := 0, cells := 0, slots := 0, locals := 0 } : Room).cells ({ frames := 0, cells := 0, slots := 0, locals := 0 } : Room).slots = P
  show Go p e below P (s₁.setTop (mkF m 0 #[.val (.ref a1)] []))
  refine Go.by (fun _ => XS.aloadN X0.here hx rfl (hb hby d6_0) rfl rfl) ?_
  show Go p e below P (s₁.setTop (mkF m 1 #[.val (.ref a1)] [(.ref a1)]))
  obtain ⟨T1, X1, e1, st1⟩ := getF X0 hx hZ hown (host := "") (Or.inl (hw _ (List.mem_of_getElem? (i := 20) rfl))) Via.refl e0 P0 (g := (mkF m 1 #[.val (.ref a1)] [(.ref a1)])) rfl rfl (hb hby d6_1)
  refine Go.by (fun _ => st1 _) ?_
  show Go p e below P (T1.setTop (mkF m 4 #[.val (.ref a1)] [(.ref v1)]))
  subst hP
  refine Go.retR X1 hx Bd.returns rfl rfl hlk (hb hby d6_4) (Nat.le_of_ble_eq_true rfl) (Nat.le_of_ble_eq_true rfl) ?_
  rw [e1]
  exact ⟨rfl, N0, rfl⟩
theorem ef_law (m : MethodId)  : entryFrame m #[] maxLocals = mkF m 0 #[.unset, .unset, .unset, .unset] [] := by first | (simp [entryFrame, mkF, argsToLocals, Value.category, maxLocals]; done) | rfl
def Q_law (Z : State) (wDEFAULT_LEASE : Addr) (wDEFAULT_DEAD_LETTER_RETENTION : Addr) (h0 : Heap) (n0 : Nat) (v : Option Value) (h : Heap) (L : List Loc) : Prop := v = some (.int 1) ∧ Fr n0 L
set_option maxRecDepth 65536 in
set_option maxHeartbeats 40000000 in
theorem rm_law (l : Launch) (Z : State) (a0 : Array Value) (hw : ∀ d ∈ tables_1, d.before a0 Z = true) (ws : List Jvm.Cond) (wDEFAULT_LEASE : Addr) (wDEFAULT_DEAD_LETTER_RETENTION : Addr) (hG : Glob Z wDEFAULT_LEASE wDEFAULT_DEAD_LETTER_RETENTION) (h0 : Heap) (n0 : Nat) (Z0 : n0 ≤ h0.size) (O0 : Old Z n0 h0) :
    MetFree l x (head1 (Jvm.Cond.code x code maxLocals ret :: ws) room_1) (fun a U => a = #[] ∧ Z.Warmed39 U.vm ∧ U.heap = h0) (fun _ _ _ _ _ => True) (fun _ U o U' => ∃ v L, o = .returned v ∧ Q_law Z wDEFAULT_LEASE wDEFAULT_DEAD_LETTER_RETENTION  h0 n0 v U'.heap L ∧ FrameEnd U o U' L 1 3) := by
  refine MetFree.of_bodySF (plainFor_of_name pn_1) hisR ?_
  intro p e s m args below meth c s₁ Bd hml0 hP hK
  obtain ⟨rfl, hZ, hh⟩ := hP
  have hx := Bd.exec
  have hby := Bd.bytes
  have hml : c.maxLocals = 4 := hml0
  have hown : s.vm.findClass "com/example/cicada/cicada/model/QueueOptionsDefaultsPinLaw" = some m.cls := findClass_of_methodNamed Bd.named
  have hnm := (name_of_methodNamed Bd.named Bd.method).1
  have hlk : meth.locks = false := BodyLoose.notSynchronized Bd
  have X0 : Stand p l e room_1 s m #[] below meth c s₁ [] 0 0 := Stand.of_body Bd
  have e0 : s₁.heap = h0 := by rw [← hh, Bd.state]; rfl
  have N0 := Fr.nil n0
  obtain ⟨G0, G1, G2, G3⟩ := id hG
  show Go p e below (End s (Q_law Z wDEFAULT_LEASE wDEFAULT_DEAD_LETTER_RETENTION  h0 n0) 1 3) (s₁.setTop (entryFrame m #[] maxLocals))
  rw [ef_law]
  generalize hP : End s (Q_law Z wDEFAULT_LEASE wDEFAULT_DEAD_LETTER_RETENTION  h0 n0) 1 3 = P
  show Go p e below P (s₁.setTop (mkF m 0 #[.unset, .unset, .unset, .unset] []))
  obtain ⟨_, _, ⟨T1, L1, k1, n1⟩, -, X1, ⟨Lc1, hQ1, l1, y1, z1⟩, st1⟩ := Jvm.LawKit.callS X0 hx (y := (⟨"com/example/cicada/cicada/model/QueueOptions", "defaults", "()Lcom/example/cicada/cicada/model/QueueOptions;"⟩ : MethodName)) hown (mvT hZ (hw _ (List.mem_of_getElem? (i := 0) rfl))) (mvT hZ (hw _ (List.mem_of_getElem? (i := 1) rfl))) (mvT hZ (hw _ (List.mem_of_getElem? (i := 2) rfl))) (mvT hZ (hw _ (List.mem_of_getElem? (i := 3) rfl))) (by decide) (backOf (W := 0) (rm_dfl l Z a0 hw [] wDEFAULT_LEASE wDEFAULT_DEAD_LETTER_RETENTION hG  h0 n0 Z0 O0  ) hZ (hw _ (List.mem_of_getElem? (i := 3) rfl)) (hw _ (List.mem_of_getElem? (i := 2) rfl)) (Nat.le_of_ble_eq_true rfl) (Nat.le_of_ble_eq_true rfl)) (g := (mkF m 0 #[.unset, .unset, .unset, .unset] [])) rfl (by rw [hml]; rfl) (argsL := []) (rest := []) (lenOf pd_1 rfl) rfl (by show 2 * 0 + _ ≤ _; exact Nat.le_of_eq rfl) (hb hby at_0) (fun _ _ => ⟨rfl, e0, (Nat.le_of_ble_eq_true rfl : 0 + 1 ≤ _), (Nat.le_of_ble_eq_true rfl : 0 + 3 ≤ _)⟩)
  dsimp only [Pt.U, Pt.locs, Pt.cells, Pt.slots] at X1 l1 y1 z1 st1 hQ1
  subst l1 y1 z1
  obtain ⟨b_1, rfl, Nq1, Kc1, F2, F3, F4, F5, hq1_0⟩ := hQ1
  have N1 := Fr.app N0 Nq1
  refine Go.by (fun _ => st1 _) ?_
  have g_b_1 : n0 ≤ b_1 := Nat.le_trans Z0 hq1_0
  have O1 := O0.keep Kc1 all0
  have Z1 : n0 ≤ T1.heap.size := Nat.le_trans Z0 Kc1.1
  show Go p e below P (T1.setTop (mkF m 3 #[.unset, .unset, .unset, .unset] [(.ref b_1)]))
  refine Go.by (fun _ => XS.astoreN X1.here hx rfl (hb hby at_3) rfl rfl (l' := #[.val (.ref b_1), .unset, .unset, .unset]) rfl) ?_
  show Go p e below P (T1.setTop (mkF m 4 #[.val (.ref b_1), .unset, .unset, .unset] []))
  refine Go.by (fun _ => XS.aloadN X1.here hx rfl (hb hby at_4) rfl rfl) ?_
  show Go p e below P (T1.setTop (mkF m 5 #[.val (.ref b_1), .unset, .unset, .unset] [(.ref b_1)]))
  obtain ⟨cq6, kq6, qa6, qb6, qc6⟩ := isOf hZ rfl F2
  obtain ⟨_, _, ⟨T6, L6, k6, n6⟩, -, X6, ⟨Lc6, hQ6, l6, y6, z6⟩, st6⟩ := X1.virtualBack hx (y := (⟨"com/example/cicada/cicada/model/QueueOptions", "lease", "()Ljava/time/Duration;"⟩ : MethodName)) (z := (⟨"com/example/cicada/cicada/model/QueueOptions", "lease", "()Ljava/time/Duration;"⟩ : MethodName)) hown (mvT hZ (hw _ (List.mem_of_getElem? (i := 22) rfl))) (mvT hZ (hw _ (List.mem_of_getElem? (i := 23) rfl))) (notFace_of_selects (args := #[]) (mvT hZ (hw _ (List.mem_of_getElem? (i := 25) rfl)))) (mvT hZ (hw _ (List.mem_of_getElem? (i := 25) rfl))) (mvT hZ (hw _ (List.mem_of_getElem? (i := 24) rfl))) (by decide) (backOf (W := 0) (rm_glease l Z a0 hw [] wDEFAULT_LEASE wDEFAULT_DEAD_LETTER_RETENTION hG b_1 wDEFAULT_LEASE T1.heap n0 Z1 O1 F3 ) hZ (hw _ (List.mem_of_getElem? (i := 26) rfl)) (hw _ (List.mem_of_getElem? (i := 2) rfl)) (Nat.le_of_ble_eq_true rfl) (Nat.le_of_ble_eq_true rfl)) qa6 qc6 (g := (mkF m 5 #[.val (.ref b_1), .unset, .unset, .unset] [(.ref b_1)])) rfl (by rw [hml]; rfl) (Steps.refl _) (argsL := []) (rest := []) (lenOf pd_2 rfl) rfl (by show 2 * 0 + _ ≤ _; exact Nat.le_of_eq rfl) (hb hby at_5) (fun _ _ => ⟨rfl, rfl, (Nat.le_of_ble_eq_true rfl : 1 + 0 ≤ _), (Nat.le_of_ble_eq_true rfl : 3 + 0 ≤ _)⟩)
  dsimp only [Pt.U, Pt.locs, Pt.cells, Pt.slots] at X6 l6 y6 z6 st6 hQ6
  subst l6 y6 z6
  obtain ⟨rfl, Nq6, eq6⟩ := hQ6
  have N6 := Fr.app N1 Nq6
  refine Go.by (fun _ k => st6.trans k) ?_
  show Go p e below P (T6.setTop (mkF m 8 #[.val (.ref b_1), .unset, .unset, .unset] [(.ref wDEFAULT_LEASE)]))
  obtain ⟨T7, X7, e7, st7⟩ := getS2 X6 hx hZ hown (host := "") (Or.inl (hw _ (List.mem_of_getElem? (i := 27) rfl))) Via.refl eq6 (G0.ext O1.2) (g := (mkF m 8 #[.val (.ref b_1), .unset, .unset, .unset] [(.ref wDEFAULT_LEASE)])) rfl (hb hby at_8)
  refine Go.by (fun _ => st7 _) ?_
  show Go p e below P (T7.setTop (mkF m 11 #[.val (.ref b_1), .unset, .unset, .unset] [(.ref wDEFAULT_LEASE), (.ref wDEFAULT_LEASE)]))
  refine Go.by (fun _ => Jvm.RoadKit.acmp (g := (mkF m 11 #[.val (.ref b_1), .unset, .unset, .unset] [(.ref wDEFAULT_LEASE), (.ref wDEFAULT_LEASE)])) X7 hx rfl rfl rfl (pc0 := 11) (pc' := 14) (same := true) rfl (hb hby at_11) rfl (decide_eq_true rfl) (by decide) (by decide)) ?_
  show Go p e below P (T7.setTop (mkF m 14 #[.val (.ref b_1), .unset, .unset, .unset] []))
  refine Go.by (fun _ => XS.iconst X7.here hx rfl (hb hby at_14)) ?_
  show Go p e below P (T7.setTop (mkF m 15 #[.val (.ref b_1), .unset, .unset, .unset] [(.int (1 : Int32))]))
  refine Go.by (fun _ => XS.goto X7.here hx rfl (pc0 := 15) (pc' := 19) rfl (hb hby at_15) (by decide) (by decide)) ?_
  show Go p e below P (T7.setTop (mkF m 19 #[.val (.ref b_1), .unset, .unset, .unset] [(.int (1 : Int32))]))
  refine Go.by (fun _ => XS.istoreN X7.here hx rfl (hb hby at_19) rfl (l' := #[.val (.ref b_1), .val (.int (1 : Int32)), .unset, .unset]) rfl) ?_
  show Go p e below P (T7.setTop (mkF m 20 #[.val (.ref b_1), .val (.int (1 : Int32)), .unset, .unset] []))
  refine Go.by (fun _ => XS.aloadN X7.here hx rfl (hb hby at_20) rfl rfl) ?_
  show Go p e below P (T7.setTop (mkF m 21 #[.val (.ref b_1), .val (.int (1 : Int32)), .unset, .unset] [(.ref b_1)]))
  obtain ⟨cq8, kq8, qa8, qb8, qc8⟩ := isOf hZ e7 F2
  obtain ⟨_, _, ⟨T8, L8, k8, n8⟩, -, X8, ⟨Lc8, hQ8, l8, y8, z8⟩, st8⟩ := X7.virtualBack hx (y := (⟨"com/example/cicada/cicada/model/QueueOptions", "retries", "()I"⟩ : MethodName)) (z := (⟨"com/example/cicada/cicada/model/QueueOptions", "retries", "()I"⟩ : MethodName)) hown (mvT hZ (hw _ (List.mem_of_getElem? (i := 28) rfl))) (mvT hZ (hw _ (List.mem_of_getElem? (i := 29) rfl))) (notFace_of_selects (args := #[]) (mvT hZ (hw _ (List.mem_of_getElem? (i := 31) rfl)))) (mvT hZ (hw _ (List.mem_of_getElem? (i := 31) rfl))) (mvT hZ (hw _ (List.mem_of_getElem? (i := 30) rfl))) (by decide) (backOf (W := 0) (rm_gretries l Z a0 hw [] wDEFAULT_LEASE wDEFAULT_DEAD_LETTER_RETENTION hG b_1 ((3 : Int32)) T1.heap n0 Z1 O1 F4 ) hZ (hw _ (List.mem_of_getElem? (i := 32) rfl)) (hw _ (List.mem_of_getElem? (i := 2) rfl)) (Nat.le_of_ble_eq_true rfl) (Nat.le_of_ble_eq_true rfl)) qa8 qc8 (g := (mkF m 21 #[.val (.ref b_1), .val (.int (1 : Int32)), .unset, .unset] [(.ref b_1)])) rfl (by rw [hml]; rfl) (Steps.refl _) (argsL := []) (rest := []) (lenOf pd_3 rfl) rfl (by show 2 * 0 + _ ≤ _; exact Nat.le_of_eq rfl) (hb hby at_21) (fun _ _ => ⟨rfl, e7, (Nat.le_of_ble_eq_true rfl : 1 + 0 ≤ _), (Nat.le_of_ble_eq_true rfl : 3 + 0 ≤ _)⟩)
  dsimp only [Pt.U, Pt.locs, Pt.cells, Pt.slots] at X8 l8 y8 z8 st8 hQ8
  subst l8 y8 z8
  obtain ⟨rfl, Nq8, eq8⟩ := hQ8
  have N8 := Fr.app N6 Nq8
  refine Go.by (fun _ k => st8.trans k) ?_
  show Go p e below P (T8.setTop (mkF m 24 #[.val (.ref b_1), .val (.int (1 : Int32)), .unset, .unset] [(.int (3 : Int32))]))
  refine Go.by (fun _ => XS.iconst X8.here hx rfl (hb hby at_24)) ?_
  show Go p e below P (T8.setTop (mkF m 25 #[.val (.ref b_1), .val (.int (1 : Int32)), .unset, .unset] [(.int (3 : Int32)), (.int (3 : Int32))]))
  have hc25 : (3 : Int32) = (3 : Int32) := by decide
  refine Go.by (fun _ => XS.icmpNo X8.here hx rfl (hb hby at_25) rfl (teq hc25).2) ?_
  show Go p e below P (T8.setTop (mkF m 28 #[.val (.ref b_1), .val (.int (1 : Int32)), .unset, .unset] []))
  refine Go.by (fun _ => XS.iconst X8.here hx rfl (hb hby at_28)) ?_
  show Go p e below P (T8.setTop (mkF m 29 #[.val (.ref b_1), .val (.int (1 : Int32)), .unset, .unset] [(.int (1 : Int32))]))
  refine Go.by (fun _ => XS.goto X8.here hx rfl (pc0 := 29) (pc' := 33) rfl (hb hby at_29) (by decide) (by decide)) ?_
  show Go p e below P (T8.setTop (mkF m 33 #[.val (.ref b_1), .val (.int (1 : Int32)), .unset, .unset] [(.int (1 : Int32))]))
  refine Go.by (fun _ => XS.istoreN X8.here hx rfl (hb hby at_33) rfl (l' := #[.val (.ref b_1), .val (.int (1 : Int32)), .val (.int (1 : Int32)), .unset]) rfl) ?_
  show Go p e below P (T8.setTop (mkF m 34 #[.val (.ref b_1), .val (.int (1 : Int32)), .val (.int (1 : Int32)), .unset] []))
  refine Go.by (fun _ => XS.aloadN X8.here hx rfl (hb hby at_34) rfl rfl) ?_
  show Go p e below P (T8.setTop (mkF m 35 #[.val (.ref b_1), .val (.int (1 : Int32)), .val (.int (1 : Int32)), .unset] [(.ref b_1)]))
  obtain ⟨cq9, kq9, qa9, qb9, qc9⟩ := isOf hZ eq8 F2
  obtain ⟨_, _, ⟨T9, L9, k9, n9⟩, -, X9, ⟨Lc9, hQ9, l9, y9, z9⟩, st9⟩ := X8.virtualBack hx (y := (⟨"com/example/cicada/cicada/model/QueueOptions", "deadLetterRetention", "()Ljava/time/Duration;"⟩ : MethodName)) (z := (⟨"com/example/cicada/cicada/model/QueueOptions", "deadLetterRetention", "()Ljava/time/Duration;"⟩ : MethodName)) hown (mvT hZ (hw _ (List.mem_of_getElem? (i := 33) rfl))) (mvT hZ (hw _ (List.mem_of_getElem? (i := 34) rfl))) (notFace_of_selects (args := #[]) (mvT hZ (hw _ (List.mem_of_getElem? (i := 36) rfl)))) (mvT hZ (hw _ (List.mem_of_getElem? (i := 36) rfl))) (mvT hZ (hw _ (List.mem_of_getElem? (i := 35) rfl))) (by decide) (backOf (W := 0) (rm_gdeadLetterRetention l Z a0 hw [] wDEFAULT_LEASE wDEFAULT_DEAD_LETTER_RETENTION hG b_1 wDEFAULT_DEAD_LETTER_RETENTION T1.heap n0 Z1 O1 F5 ) hZ (hw _ (List.mem_of_getElem? (i := 37) rfl)) (hw _ (List.mem_of_getElem? (i := 2) rfl)) (Nat.le_of_ble_eq_true rfl) (Nat.le_of_ble_eq_true rfl)) qa9 qc9 (g := (mkF m 35 #[.val (.ref b_1), .val (.int (1 : Int32)), .val (.int (1 : Int32)), .unset] [(.ref b_1)])) rfl (by rw [hml]; rfl) (Steps.refl _) (argsL := []) (rest := []) (lenOf pd_2 rfl) rfl (by show 2 * 0 + _ ≤ _; exact Nat.le_of_eq rfl) (hb hby at_35) (fun _ _ => ⟨rfl, eq8, (Nat.le_of_ble_eq_true rfl : 1 + 0 ≤ _), (Nat.le_of_ble_eq_true rfl : 3 + 0 ≤ _)⟩)
  dsimp only [Pt.U, Pt.locs, Pt.cells, Pt.slots] at X9 l9 y9 z9 st9 hQ9
  subst l9 y9 z9
  obtain ⟨rfl, Nq9, eq9⟩ := hQ9
  have N9 := Fr.app N8 Nq9
  refine Go.by (fun _ k => st9.trans k) ?_
  show Go p e below P (T9.setTop (mkF m 38 #[.val (.ref b_1), .val (.int (1 : Int32)), .val (.int (1 : Int32)), .unset] [(.ref wDEFAULT_DEAD_LETTER_RETENTION)]))
  obtain ⟨T10, X10, e10, st10⟩ := getS2 X9 hx hZ hown (host := "") (Or.inl (hw _ (List.mem_of_getElem? (i := 38) rfl))) Via.refl eq9 (G2.ext O1.2) (g := (mkF m 38 #[.val (.ref b_1), .val (.int (1 : Int32)), .val (.int (1 : Int32)), .unset] [(.ref wDEFAULT_DEAD_LETTER_RETENTION)])) rfl (hb hby at_38)
  refine Go.by (fun _ => st10 _) ?_
  show Go p e below P (T10.setTop (mkF m 41 #[.val (.ref b_1), .val (.int (1 : Int32)), .val (.int (1 : Int32)), .unset] [(.ref wDEFAULT_DEAD_LETTER_RETENTION), (.ref wDEFAULT_DEAD_LETTER_RETENTION)]))
  refine Go.by (fun _ => Jvm.RoadKit.acmp (g := (mkF m 41 #[.val (.ref b_1), .val (.int (1 : Int32)), .val (.int (1 : Int32)), .unset] [(.ref wDEFAULT_DEAD_LETTER_RETENTION), (.ref wDEFAULT_DEAD_LETTER_RETENTION)])) X10 hx rfl rfl rfl (pc0 := 41) (pc' := 44) (same := true) rfl (hb hby at_41) rfl (decide_eq_true rfl) (by decide) (by decide)) ?_
  show Go p e below P (T10.setTop (mkF m 44 #[.val (.ref b_1), .val (.int (1 : Int32)), .val (.int (1 : Int32)), .unset] []))
  refine Go.by (fun _ => XS.iconst X10.here hx rfl (hb hby at_44)) ?_
  show Go p e below P (T10.setTop (mkF m 45 #[.val (.ref b_1), .val (.int (1 : Int32)), .val (.int (1 : Int32)), .unset] [(.int (1 : Int32))]))
  refine Go.by (fun _ => XS.goto X10.here hx rfl (pc0 := 45) (pc' := 49) rfl (hb hby at_45) (by decide) (by decide)) ?_
  show Go p e below P (T10.setTop (mkF m 49 #[.val (.ref b_1), .val (.int (1 : Int32)), .val (.int (1 : Int32)), .unset] [(.int (1 : Int32))]))
  refine Go.by (fun _ => XS.istoreN X10.here hx rfl (hb hby at_49) rfl (l' := #[.val (.ref b_1), .val (.int (1 : Int32)), .val (.int (1 : Int32)), .val (.int (1 : Int32))]) rfl) ?_
  show Go p e below P (T10.setTop (mkF m 50 #[.val (.ref b_1), .val (.int (1 : Int32)), .val (.int (1 : Int32)), .val (.int (1 : Int32))] []))
  refine Go.by (fun _ => XS.iloadN X10.here hx rfl (hb hby at_50) rfl) ?_
  show Go p e below P (T10.setTop (mkF m 51 #[.val (.ref b_1), .val (.int (1 : Int32)), .val (.int (1 : Int32)), .val (.int (1 : Int32))] [(.int (1 : Int32))]))
  have hc51 : ¬ ((1 : Int32) = (0 : Int32)) := by decide
  refine Go.by (fun _ => XS.ifNo X10.here hx rfl (hb hby at_51) rfl ((if0 _ _).trans (feq hc51).1)) ?_
  show Go p e below P (T10.setTop (mkF m 54 #[.val (.ref b_1), .val (.int (1 : Int32)), .val (.int (1 : Int32)), .val (.int (1 : Int32))] []))
  refine Go.by (fun _ => XS.iloadN X10.here hx rfl (hb hby at_54) rfl) ?_
  show Go p e below P (T10.setTop (mkF m 55 #[.val (.ref b_1), .val (.int (1 : Int32)), .val (.int (1 : Int32)), .val (.int (1 : Int32))] [(.int (1 : Int32))]))
  have hc55 : ¬ ((1 : Int32) = (0 : Int32)) := by decide
  refine Go.by (fun _ => XS.ifNo X10.here hx rfl (hb hby at_55) rfl ((if0 _ _).trans (feq hc55).1)) ?_
  show Go p e below P (T10.setTop (mkF m 58 #[.val (.ref b_1), .val (.int (1 : Int32)), .val (.int (1 : Int32)), .val (.int (1 : Int32))] []))
  refine Go.by (fun _ => XS.iloadN X10.here hx rfl (hb hby at_58) rfl) ?_
  show Go p e below P (T10.setTop (mkF m 59 #[.val (.ref b_1), .val (.int (1 : Int32)), .val (.int (1 : Int32)), .val (.int (1 : Int32))] [(.int (1 : Int32))]))
  have hc59 : ¬ ((1 : Int32) = (0 : Int32)) := by decide
  refine Go.by (fun _ => XS.ifNo X10.here hx rfl (hb hby at_59) rfl ((if0 _ _).trans (feq hc59).1)) ?_
  show Go p e below P (T10.setTop (mkF m 62 #[.val (.ref b_1), .val (.int (1 : Int32)), .val (.int (1 : Int32)), .val (.int (1 : Int32))] []))
  refine Go.by (fun _ => XS.iconst X10.here hx rfl (hb hby at_62)) ?_
  show Go p e below P (T10.setTop (mkF m 63 #[.val (.ref b_1), .val (.int (1 : Int32)), .val (.int (1 : Int32)), .val (.int (1 : Int32))] [(.int (1 : Int32))]))
  refine Go.by (fun _ => XS.goto X10.here hx rfl (pc0 := 63) (pc' := 67) rfl (hb hby at_63) (by decide) (by decide)) ?_
  show Go p e below P (T10.setTop (mkF m 67 #[.val (.ref b_1), .val (.int (1 : Int32)), .val (.int (1 : Int32)), .val (.int (1 : Int32))] [(.int (1 : Int32))]))
  subst hP
  refine Go.retZ X10 hx (t := .boolean) Bd.returns (by simp) hlk (hb hby at_67) (Nat.le_of_ble_eq_true rfl) (Nat.le_of_ble_eq_true rfl) ?_
  rw [e10]
  exact ⟨rfl, N9⟩
set_option maxRecDepth 65536 in
set_option maxHeartbeats 40000000 in
theorem comes_1 {Post : Tables → Env → Array Value → State → Outcome → State → Prop} (hpost : ∀ tb e args s v u, (limb_1_1.after args s (.returned v) u = true ∧ limb_1_2.after args s (.returned v) u = true ∧ True) → FrameEnd s (.returned v) u (Jvm.fieldLocs frame_1_writes args s ++ Jvm.arrayLocs frame_1_arrays args s ++ Jvm.staticLocs frame_1_statics s) 16 128 → Post tb e args s (.returned v) u) :
    ArmFor flags0 classFile x code maxLocals ret World_1 tables_1 room_1 Calls_1 rest_1 Pre_1 Post := by
  intro l hfl _ _ p e ha hc hk s m args below hf hA hF happ hP
  obtain ⟨hcalls, hrest, hpre⟩ := hP
  obtain ⟨-, -, -, hnamed, -, -, -, hat⟩ := (Spec.applies_iff hf).mp happ
  obtain ⟨hg, hn⟩ := and_e (Cond.before_iff.mp (show (Jvm.Cond.and given_1 narrow_1).before args s = true from hpre))
  obtain rfl : args = #[] := by
    have hs : args.size = 0 := by simpa [Cond.value, given_1] using hg
    exact Array.eq_empty_of_size_eq_zero hs
  have hw := fun d (hd : d ∈ tables_1) => atoms_spec (ws := Jvm.Cond.code x code maxLocals ret :: tables_1) hat d (List.mem_cons_of_mem _ hd)
  have hfit : Fit s := fun {y c} hc i hi => by
    obtain ⟨ha, rfl⟩ := Array.getElem?_eq_some_iff.mp hc
    have q := List.all_eq_true.mp ((Array.all_eq_true_iff_forall_mem.mp hF) _ (Array.getElem_mem ha)) i (List.mem_range.mpr hi)
    simpa [Array.getElem?_eq_getElem hi] using q
  obtain ⟨nn0, nn_r0⟩ := and_e hn
  obtain ⟨wDEFAULT_LEASE, eDEFAULT_LEASE⟩ := exa_v nn0
  obtain ⟨wDEFAULT_DEAD_LETTER_RETENTION, eDEFAULT_DEAD_LETTER_RETENTION⟩ := exa_v nn_r0
  have hG : Glob s wDEFAULT_LEASE wDEFAULT_DEAD_LETTER_RETENTION := ⟨Sta.start eDEFAULT_LEASE (Or.inr ⟨(hw _ (List.mem_of_getElem? (i := 2) rfl)), (hw _ (List.mem_of_getElem? (i := 7) rfl))⟩), Exa.start eDEFAULT_LEASE nn0, Sta.start eDEFAULT_DEAD_LETTER_RETENTION (Or.inr ⟨(hw _ (List.mem_of_getElem? (i := 2) rfl)), (hw _ (List.mem_of_getElem? (i := 9) rfl))⟩), Exa.start eDEFAULT_DEAD_LETTER_RETENTION nn_r0⟩
  obtain ⟨n, o, h1, h2, h3, _, L, rfl, ⟨rfl, N⟩, hq⟩ := rm_law l s _ hw tables_1 wDEFAULT_LEASE wDEFAULT_DEAD_LETTER_RETENTION hG   s.heap s.heap.size (Nat.le_refl _) (Old.start s)  p e ha hc hk s m _ below hf ((Spec.applies_iff_loose hf).mp happ).1 ⟨rfl, State.Warmed39.refl s, rfl⟩ trivial
  refine ⟨n, _, h1, h2, h3, hpost _ _ _ _ _ _ ⟨Cond.after_iff.mpr rfl, Cond.after_iff.mpr (eq_i res_at (Term.int_eval (1)) rfl), trivial⟩ ⟨hq.1, hq.2.1, (hq.2.2.sift fun y hy => Or.inr (N y hy)).mono (Nat.le_of_ble_eq_true rfl) (Nat.le_of_ble_eq_true rfl)⟩⟩
theorem main_1_1 : Claimed_1_1 := comes_1 fun _ _ _ _ _ _ h hF => ⟨h.1, hF⟩
theorem main_1_2 : Claimed_1_2 := comes_1 fun _ _ _ _ _ _ h hF => ⟨h.2.1, hF⟩
end Jvm.Pilot.@@N@@
namespace Jvm.Pilot.@@N@@
open Jvm Jvm.ClassFile Sem Op Lib Jvm.Free Jvm.Stand Jvm.Pilot.@@N@@.Jvm.D
/-! MADE BY PROGRAM (witnessworld.py) out of the Statement's table words and the real class files: 12 classes; the members and pool entries that the words name. The judged class is class 1, her method 1. -/
namespace start1
open Jvm.ClassFile
def u (s : String) : CpInfo := .utf8 (stringToUtf16 s)
/-- a pool by its gaps: so many unusable entries, then the entry; so many at the end -/
def gap : Nat → List CpInfo → List CpInfo
  | 0, r => r
  | n + 1, r => .unusable :: gap n r
def poolList (es : List (Nat × CpInfo)) (last : Nat) : List CpInfo := es.foldr (fun e r => gap e.1 (e.2 :: r)) (gap last [])
def pool (es : List (Nat × CpInfo)) (last : Nat) : Array CpInfo := ⟨poolList es last⟩
def fileOf (pool : Array CpInfo) (this : Nat) (attrs : Array Attribute := #[]) (ms : Array MethodInfo := #[]) (fl : Nat := 33) (sup : Nat := 0) (ifs : Array Nat := #[]) (fds : Array FieldInfo := #[]) : ClassFile where
  minorVersion := 0
  majorVersion := 65
  constantPool := pool
  accessFlags := fl
  thisClass := this
  superClass := sup
  interfaces := ifs
  fields := fds
  methods := ms
  attributes := attrs
def plain (name : String) (sup : Option ClassId) : Class where
  name := name
  kind := .ordinary
  loader := none
  accessFlags := 33
  super := sup
  interfaces := #[]
  cf := none
  fields := #[]
  methods := #[]
  instanceTypes := #[]
  staticTypes := #[]
  resolved := #[]
  callSites := []
  init := .initialized
  statics := none
  mirror := none

def pool0 : Array CpInfo := pool [(5, u "<init>"), (0, u "()V"), (1, .class_ 10), (1, u "java/lang/Object")] 113

def k0c0 : Code := { maxStack := 0, maxLocals := 1, code := object_method_1_code, exceptionTable := #[], attributes := #[] }
def k0m0 : Method := { name := "<init>", desc := "()V", sig := { parameters := [], returnType := none }, accessFlags := 1, code := some k0c0 }
/-- java/lang/Object -/
def k0 : Class := { plain "java/lang/Object" none with
  accessFlags := 33
  interfaces := #[]
  cf := some (fileOf pool0 8 #[] #[{ accessFlags := 1, nameIndex := 5, descriptorIndex := 6, attributes := #[] }] 33 0 #[] #[])
  fields := #[]
  methods := #[k0m0]
  instanceTypes := #[]
  staticTypes := #[]
  resolved := Array.replicate 124 none
  statics := none }

def pool1 : Array CpInfo := pool [(2, .class_ 4), (1, u "java/lang/Object"), (0, u "<init>"), (0, u "()V"), (0, .methodref 8 9), (0, .class_ 10), (0, .nameAndType 11 12), (0, u "com/example/cicada/cicada/model/QueueOptions"), (0, u "defaults"), (0, u "()Lcom/example/cicada/cicada/model/QueueOptions;"), (0, .methodref 8 14), (0, .nameAndType 15 16), (0, u "lease"), (0, u "()Ljava/time/Duration;"), (0, .fieldref 8 18), (0, .nameAndType 19 20), (0, u "DEFAULT_LEASE"), (0, u "Ljava/time/Duration;"), (0, .methodref 8 22), (0, .nameAndType 23 24), (0, u "retries"), (0, u "()I"), (0, .methodref 8 26), (0, .nameAndType 27 16), (0, u "deadLetterRetention"), (0, .fieldref 8 29), (0, .nameAndType 30 20), (0, u "DEFAULT_DEAD_LETTER_RETENTION"), (0, .class_ 32), (0, u "com/example/cicada/cicada/model/QueueOptionsDefaultsPinLaw"), (2, u "law"), (0, u "()Z")] 3

def k1m0 : Method := { name := "<init>", desc := "()V", sig := { parameters := [], returnType := none }, accessFlags := 1, code := none }
def k1c1 : Code := { maxStack := 2, maxLocals := 4, code := code, exceptionTable := #[], attributes := #[] }
def k1m1 : Method := { name := "law", desc := "()Z", sig := { parameters := [], returnType := some .boolean }, accessFlags := 9, code := some k1c1 }
/-- com/example/cicada/cicada/model/QueueOptionsDefaultsPinLaw -/
def k1 : Class := { plain "com/example/cicada/cicada/model/QueueOptionsDefaultsPinLaw" (some 0) with
  accessFlags := 49
  interfaces := #[]
  cf := some (fileOf pool1 31 #[] #[{ accessFlags := 1, nameIndex := 5, descriptorIndex := 6, attributes := #[] }, { accessFlags := 9, nameIndex := 35, descriptorIndex := 36, attributes := #[] }] 49 2 #[] #[])
  fields := #[]
  methods := #[k1m0, k1m1]
  instanceTypes := #[]
  staticTypes := #[]
  resolved := Array.replicate 40 none
  statics := none }

def pool2 : Array CpInfo := pool [(3, .methodref 4 5), (0, .class_ 6), (0, .nameAndType 7 8), (0, u "java/lang/Object"), (0, u "<init>"), (0, u "()V"), (0, .fieldref 10 11), (0, .class_ 12), (0, .nameAndType 13 14), (0, u "com/example/cicada/cicada/model/QueueOptions"), (0, u "lease"), (0, u "Ljava/time/Duration;"), (0, .fieldref 10 16), (0, .nameAndType 17 18), (0, u "retries"), (0, u "I"), (0, .fieldref 10 20), (0, .nameAndType 21 14), (0, u "deadLetterRetention"), (0, .fieldref 10 23), (0, .nameAndType 24 14), (0, u "DEFAULT_LEASE"), (0, .fieldref 10 26), (0, .nameAndType 27 14), (0, u "DEFAULT_DEAD_LETTER_RETENTION"), (0, .methodref 10 29), (0, .nameAndType 7 30), (0, u "(Ljava/time/Duration;ILjava/time/Duration;)V"), (2, u "MAX_LEASE"), (17, u "MAX_DEAD_LETTER_RETENTION"), (42, u "DEFAULT_RETRIES"), (2, u "MAX_RETRIES"), (2, u "defaults"), (0, u "()Lcom/example/cicada/cicada/model/QueueOptions;"), (6, u "()Ljava/time/Duration;"), (0, u "()I")] 20

def k2c0 : Code := { maxStack := 2, maxLocals := 4, code := prog_5_method_1_code, exceptionTable := #[], attributes := #[] }
def k2m0 : Method := { name := "<init>", desc := "(Ljava/time/Duration;ILjava/time/Duration;)V", sig := { parameters := [(.object "java/time/Duration"), .int, (.object "java/time/Duration")], returnType := none }, accessFlags := 2, code := some k2c0 }
def k2c1 : Code := { maxStack := 5, maxLocals := 0, code := prog_5_method_2_code, exceptionTable := #[], attributes := #[] }
def k2m1 : Method := { name := "defaults", desc := "()Lcom/example/cicada/cicada/model/QueueOptions;", sig := { parameters := [], returnType := some (.object "com/example/cicada/cicada/model/QueueOptions") }, accessFlags := 9, code := some k2c1 }
def k2c2 : Code := { maxStack := 1, maxLocals := 1, code := prog_5_method_6_code, exceptionTable := #[], attributes := #[] }
def k2m2 : Method := { name := "lease", desc := "()Ljava/time/Duration;", sig := { parameters := [], returnType := some (.object "java/time/Duration") }, accessFlags := 1, code := some k2c2 }
def k2c3 : Code := { maxStack := 1, maxLocals := 1, code := prog_5_method_7_code, exceptionTable := #[], attributes := #[] }
def k2m3 : Method := { name := "retries", desc := "()I", sig := { parameters := [], returnType := some .int }, accessFlags := 1, code := some k2c3 }
def k2c4 : Code := { maxStack := 1, maxLocals := 1, code := prog_5_method_8_code, exceptionTable := #[], attributes := #[] }
def k2m4 : Method := { name := "deadLetterRetention", desc := "()Ljava/time/Duration;", sig := { parameters := [], returnType := some (.object "java/time/Duration") }, accessFlags := 1, code := some k2c4 }
/-- com/example/cicada/cicada/model/QueueOptions -/
def k2 : Class := { plain "com/example/cicada/cicada/model/QueueOptions" (some 0) with
  accessFlags := 49
  interfaces := #[]
  cf := some (fileOf pool2 10 #[] #[{ accessFlags := 2, nameIndex := 7, descriptorIndex := 30, attributes := #[] }, { accessFlags := 9, nameIndex := 100, descriptorIndex := 101, attributes := #[] }, { accessFlags := 1, nameIndex := 13, descriptorIndex := 108, attributes := #[] }, { accessFlags := 1, nameIndex := 17, descriptorIndex := 109, attributes := #[] }, { accessFlags := 1, nameIndex := 21, descriptorIndex := 108, attributes := #[] }] 49 4 #[] #[{ accessFlags := 25, nameIndex := 24, descriptorIndex := 14, attributes := #[] }, { accessFlags := 25, nameIndex := 33, descriptorIndex := 14, attributes := #[] }, { accessFlags := 25, nameIndex := 94, descriptorIndex := 18, attributes := #[] }, { accessFlags := 25, nameIndex := 97, descriptorIndex := 18, attributes := #[] }, { accessFlags := 25, nameIndex := 27, descriptorIndex := 14, attributes := #[] }, { accessFlags := 25, nameIndex := 51, descriptorIndex := 14, attributes := #[] }, { accessFlags := 18, nameIndex := 13, descriptorIndex := 14, attributes := #[] }, { accessFlags := 18, nameIndex := 17, descriptorIndex := 18, attributes := #[] }, { accessFlags := 18, nameIndex := 21, descriptorIndex := 14, attributes := #[] }])
  fields := #[{ name := "DEFAULT_LEASE", type := (.object "java/time/Duration"), accessFlags := 25, slot := 0, constantValue := 0 }, { name := "MAX_LEASE", type := (.object "java/time/Duration"), accessFlags := 25, slot := 1, constantValue := 0 }, { name := "DEFAULT_RETRIES", type := .int, accessFlags := 25, slot := 2, constantValue := 0 }, { name := "MAX_RETRIES", type := .int, accessFlags := 25, slot := 3, constantValue := 0 }, { name := "DEFAULT_DEAD_LETTER_RETENTION", type := (.object "java/time/Duration"), accessFlags := 25, slot := 4, constantValue := 0 }, { name := "MAX_DEAD_LETTER_RETENTION", type := (.object "java/time/Duration"), accessFlags := 25, slot := 5, constantValue := 0 }, { name := "lease", type := (.object "java/time/Duration"), accessFlags := 18, slot := 0, constantValue := 0 }, { name := "retries", type := .int, accessFlags := 18, slot := 1, constantValue := 0 }, { name := "deadLetterRetention", type := (.object "java/time/Duration"), accessFlags := 18, slot := 2, constantValue := 0 }]
  methods := #[k2m0, k2m1, k2m2, k2m3, k2m4]
  instanceTypes := #[(.object "java/time/Duration"), .int, (.object "java/time/Duration")]
  staticTypes := #[(.object "java/time/Duration"), (.object "java/time/Duration"), .int, .int, (.object "java/time/Duration"), (.object "java/time/Duration")]
  resolved := Array.replicate 130 none
  statics := some 0 }

def pool3 : Array CpInfo := pool [(1, .class_ 2), (0, u "java/time/temporal/TemporalAmount"), (0, .class_ 4), (0, u "java/lang/Object")] 11

/-- java/time/temporal/TemporalAmount -/
def k3 : Class := { plain "java/time/temporal/TemporalAmount" (some 0) with
  accessFlags := 1537
  interfaces := #[]
  cf := some (fileOf pool3 1 #[] #[] 1537 3 #[] #[])
  fields := #[]
  methods := #[]
  instanceTypes := #[]
  staticTypes := #[]
  resolved := Array.replicate 16 none
  statics := none }

def pool4 : Array CpInfo := pool [(1, .class_ 2), (0, u "java/lang/Comparable"), (0, .class_ 4), (0, u "java/lang/Object")] 7

/-- java/lang/Comparable -/
def k4 : Class := { plain "java/lang/Comparable" (some 0) with
  accessFlags := 1537
  interfaces := #[]
  cf := some (fileOf pool4 1 #[] #[] 1537 3 #[] #[])
  fields := #[]
  methods := #[]
  instanceTypes := #[]
  staticTypes := #[]
  resolved := Array.replicate 12 none
  statics := none }

def pool5 : Array CpInfo := pool [(1, .class_ 2), (0, u "java/io/Serializable"), (0, .class_ 4), (0, u "java/lang/Object")] 2

/-- java/io/Serializable -/
def k5 : Class := { plain "java/io/Serializable" (some 0) with
  accessFlags := 1537
  interfaces := #[]
  cf := some (fileOf pool5 1 #[] #[] 1537 3 #[] #[])
  fields := #[]
  methods := #[]
  instanceTypes := #[]
  staticTypes := #[]
  resolved := Array.replicate 7 none
  statics := none }

def pool6 : Array CpInfo := pool [(11, .class_ 13), (1, u "java/time/Duration"), (20, u "ZERO"), (0, u "Ljava/time/Duration;"), (13, .class_ 51), (1, u "java/time/temporal/TemporalAmount"), (27, .class_ 81), (1, u "java/time/Duration$Lazy"), (35, u "seconds"), (101, .class_ 220), (0, u "java/lang/Object"), (2, u "J"), (2, u "nanos"), (0, u "I"), (11, .class_ 241), (1, u "java/time/Duration$DurationUnits"), (27, .class_ 271), (1, u "java/time/Duration$1"), (91, u "BI_NANOS_PER_SECOND"), (0, u "Ljava/math/BigInteger;"), (120, .class_ 486), (0, u "java/lang/Comparable"), (0, .class_ 488), (0, u "java/io/Serializable"), (0, u "serialVersionUID")] 166

/-- java/time/Duration -/
def k6 : Class := { plain "java/time/Duration" (some 0) with
  accessFlags := 49
  interfaces := #[3, 4, 5]
  cf := some (fileOf pool6 11 #[.nestMembers #[269, 239, 79]] #[] 49 219 #[49, 485, 487] #[{ accessFlags := 25, nameIndex := 34, descriptorIndex := 35, attributes := #[] }, { accessFlags := 26, nameIndex := 489, descriptorIndex := 223, attributes := #[] }, { accessFlags := 26, nameIndex := 363, descriptorIndex := 364, attributes := #[] }, { accessFlags := 18, nameIndex := 117, descriptorIndex := 223, attributes := #[] }, { accessFlags := 18, nameIndex := 226, descriptorIndex := 227, attributes := #[] }])
  fields := #[{ name := "ZERO", type := (.object "java/time/Duration"), accessFlags := 25, slot := 0, constantValue := 0 }, { name := "serialVersionUID", type := .long, accessFlags := 26, slot := 1, constantValue := 0 }, { name := "BI_NANOS_PER_SECOND", type := (.object "java/math/BigInteger"), accessFlags := 26, slot := 2, constantValue := 0 }, { name := "seconds", type := .long, accessFlags := 18, slot := 0, constantValue := 0 }, { name := "nanos", type := .int, accessFlags := 18, slot := 1, constantValue := 0 }]
  methods := #[]
  instanceTypes := #[.long, .int]
  staticTypes := #[(.object "java/time/Duration"), .long, (.object "java/math/BigInteger")]
  resolved := Array.replicate 656 none
  statics := none }

def pool7 : Array CpInfo := pool [(1, u "java/lang/Cloneable"), (0, .class_ 1), (0, u "java/lang/Object"), (0, .class_ 3)] 3

/-- java/lang/Cloneable -/
def k7 : Class := { plain "java/lang/Cloneable" (some 0) with
  accessFlags := 1537
  interfaces := #[]
  cf := some (fileOf pool7 2 #[] #[] 1537 4 #[] #[])
  fields := #[]
  methods := #[]
  instanceTypes := #[]
  staticTypes := #[]
  resolved := Array.replicate 8 none
  statics := none }

/-- the primitive byte -/
def k8 : Class := { plain "byte" none with kind := .primitive 'B', accessFlags := 0x411 }
/-- [B -/
def k9 : Class := { plain "[B" (some 0) with kind := .array 8 .byte, interfaces := #[7, 5], accessFlags := 1041 }

/-- the primitive int -/
def k10 : Class := { plain "int" none with kind := .primitive 'I', accessFlags := 0x411 }
/-- [I -/
def k11 : Class := { plain "[I" (some 0) with kind := .array 10 .int, interfaces := #[7, 5], accessFlags := 1041 }

def heap : Heap := #[{ cls := 2, slots := #[.ref 1, .null, .int 0, .int 0, .ref 2, .null], vm := .statics 2 },
  { cls := 6, slots := #[.long 0, .int 0], vm := .none },
  { cls := 6, slots := #[.long 0, .int 0], vm := .none }]
def classes : Array Class := #[k0, k1, k2, k3, k4, k5, k6, k7, k8, k9, k10, k11]
def interned : List (Array UInt16 × Addr) := []
def slotsUsed : Nat := 10
def theMethod : MethodId := ⟨1, 1⟩
def args0 : Array Value := #[]
def aboutOver (below : List Frame) : State where
  vm := { classes := classes, interned := interned.toArray }
  heap := heap
  slotsUsed := slotsUsed
  threads := #[{ frames := .invoking theMethod args0 :: below }]
def below0 : List Frame := [.native { method := ⟨0, 0⟩, args := #[] }]
def about1 : State := aboutOver below0
def p0 : Program := .bare "" "" ""
def e0 : Env := launch0.env 0 0 0
theorem w_frames : about1.frames = Frame.invoking theMethod args0 :: below0 := rfl
set_option maxRecDepth 65536 in
theorem w_args : argsFit about1.vm theMethod args0 = true := by decide +kernel
set_option maxRecDepth 65536 in
theorem w_heap : heapFits about1 = true := by decide +kernel
set_option maxRecDepth 65536 in
theorem w_runnable : about1.curStatus? = some .runnable := by decide +kernel
set_option maxRecDepth 65536 in
theorem w_alone : about1.alone = true := by decide +kernel
set_option maxRecDepth 65536 in
theorem w_named : about1.methodNamed? x = some theMethod := by decide +kernel
set_option maxRecDepth 65536 in
theorem w_hears : about1.hears theMethod below0 = true := by decide +kernel
set_option maxRecDepth 65536 in
theorem w_ripe : about1.ripe theMethod args0 below0 = true := by decide +kernel
theorem w_running : about1.status = .running := rfl
set_option maxRecDepth 65536 in
theorem w_room : about1.hasRoom e0.platform room_1 = true :=
  launch0.hasRoom_least _ room_1 (by decide +kernel) (by decide +kernel) (by decide +kernel) (by decide +kernel) (by decide +kernel) (by decide +kernel)
theorem allAtoms_all (ts : List Jvm.Cond) (a : Array Jvm.Value) (st : Jvm.State) : (allAtoms ts).before a st = ts.all (fun c => c.before a st) := by
  induction ts with
  | nil => rfl
  | cons c t ih =>
    show (Jvm.Cond.and c (allAtoms t)).before a st = _
    rw [Jvm.Cond.before_and, ih, List.all_cons]
def words1 : List Jvm.Cond := Jvm.Cond.code x code maxLocals ret :: tables_1
/-- a 'code' word, met by the world's own term for the bytes: nothing is compared byte by byte -/
theorem code_word {y : MethodName} {bytes : ByteArray} {mx : Nat} {rt : Option FieldType} {a : Array Value} {s : State} {m : MethodId} {meth : Method} {c : Code} (h1 : s.methodNamed? y = some m) (h2 : s.vm.method? m = some meth) (h3 : meth.code = some c) (h4 : c.code = bytes)
    (h5 : (c.maxLocals == mx && c.exceptionTable.isEmpty && decide (c.maxStack ≤ mostOperands) && decide (meth.sig.returnType = rt) && !meth.locks && decide (parseMethodDescriptor y.desc = some meth.sig)) = true) : (Jvm.Cond.code y bytes mx rt).before a s = true := by
  simp only [Bool.and_eq_true, beq_iff_eq, Bool.not_eq_true', decide_eq_true_eq] at h5
  obtain ⟨⟨⟨⟨⟨g1, g2⟩, g3⟩, g4⟩, g5⟩, g6⟩ := h5
  simp [Cond.before, Cond.holds, Cond.value, h1, h2, h3, h4, g1, g2, g3, g4, g5, g6]
def isCode : Jvm.Cond → Bool
  | .code _ _ _ _ => true
  | _ => false
theorem all_split {L : List Jvm.Cond} {P : Jvm.Cond → Bool} (h1 : L.all (fun c => isCode c || P c) = true) (h2 : ∀ c ∈ L.filter isCode, P c = true) : L.all P = true := by
  refine List.all_eq_true.mpr fun c hc => ?_
  have h := List.all_eq_true.mp h1 c hc
  rcases Bool.eq_false_or_eq_true (isCode c) with hi | hi
  · exact h2 c (List.mem_filter.mpr ⟨hc, hi⟩)
  · simpa [hi] using h
set_option maxRecDepth 65536 in
theorem w_c0 : (Jvm.Cond.code x code maxLocals ret).before args0 about1 = true := code_word (m := ⟨1, 1⟩) (meth := k1m1) (c := k1c1) (by decide +kernel) rfl rfl rfl (by decide +kernel)
set_option maxRecDepth 65536 in
theorem w_c1 : (Jvm.Cond.code ({ cls := "com/example/cicada/cicada/model/QueueOptions", name := "defaults", desc := "()Lcom/example/cicada/cicada/model/QueueOptions;" } : Jvm.MethodName) prog_5_method_2_code (0 : Nat) (Option.some (Jvm.ClassFile.FieldType.object "com/example/cicada/cicada/model/QueueOptions"))).before args0 about1 = true := code_word (m := ⟨2, 1⟩) (meth := k2m1) (c := k2c1) (by decide +kernel) rfl rfl rfl (by decide +kernel)
set_option maxRecDepth 65536 in
theorem w_c2 : (Jvm.Cond.code ({ cls := "com/example/cicada/cicada/model/QueueOptions", name := "<init>", desc := "(Ljava/time/Duration;ILjava/time/Duration;)V" } : Jvm.MethodName) prog_5_method_1_code (4 : Nat) (Option.none : Option Jvm.ClassFile.FieldType)).before args0 about1 = true := code_word (m := ⟨2, 0⟩) (meth := k2m0) (c := k2c0) (by decide +kernel) rfl rfl rfl (by decide +kernel)
set_option maxRecDepth 65536 in
theorem w_c3 : (Jvm.Cond.code ({ cls := "java/lang/Object", name := "<init>", desc := "()V" } : Jvm.MethodName) object_method_1_code (1 : Nat) (Option.none : Option Jvm.ClassFile.FieldType)).before args0 about1 = true := code_word (m := ⟨0, 0⟩) (meth := k0m0) (c := k0c0) (by decide +kernel) rfl rfl rfl (by decide +kernel)
set_option maxRecDepth 65536 in
theorem w_c4 : (Jvm.Cond.code ({ cls := "com/example/cicada/cicada/model/QueueOptions", name := "lease", desc := "()Ljava/time/Duration;" } : Jvm.MethodName) prog_5_method_6_code (1 : Nat) (Option.some (Jvm.ClassFile.FieldType.object "java/time/Duration"))).before args0 about1 = true := code_word (m := ⟨2, 2⟩) (meth := k2m2) (c := k2c2) (by decide +kernel) rfl rfl rfl (by decide +kernel)
set_option maxRecDepth 65536 in
theorem w_c5 : (Jvm.Cond.code ({ cls := "com/example/cicada/cicada/model/QueueOptions", name := "retries", desc := "()I" } : Jvm.MethodName) prog_5_method_7_code (1 : Nat) (Option.some Jvm.ClassFile.FieldType.int)).before args0 about1 = true := code_word (m := ⟨2, 3⟩) (meth := k2m3) (c := k2c3) (by decide +kernel) rfl rfl rfl (by decide +kernel)
set_option maxRecDepth 65536 in
theorem w_c6 : (Jvm.Cond.code ({ cls := "com/example/cicada/cicada/model/QueueOptions", name := "deadLetterRetention", desc := "()Ljava/time/Duration;" } : Jvm.MethodName) prog_5_method_8_code (1 : Nat) (Option.some (Jvm.ClassFile.FieldType.object "java/time/Duration"))).before args0 about1 = true := code_word (m := ⟨2, 4⟩) (meth := k2m4) (c := k2c4) (by decide +kernel) rfl rfl rfl (by decide +kernel)
def codes1 : List Jvm.Cond := [Jvm.Cond.code x code maxLocals ret, Jvm.Cond.code ({ cls := "com/example/cicada/cicada/model/QueueOptions", name := "defaults", desc := "()Lcom/example/cicada/cicada/model/QueueOptions;" } : Jvm.MethodName) prog_5_method_2_code (0 : Nat) (Option.some (Jvm.ClassFile.FieldType.object "com/example/cicada/cicada/model/QueueOptions")), Jvm.Cond.code ({ cls := "com/example/cicada/cicada/model/QueueOptions", name := "<init>", desc := "(Ljava/time/Duration;ILjava/time/Duration;)V" } : Jvm.MethodName) prog_5_method_1_code (4 : Nat) (Option.none : Option Jvm.ClassFile.FieldType), Jvm.Cond.code ({ cls := "java/lang/Object", name := "<init>", desc := "()V" } : Jvm.MethodName) object_method_1_code (1 : Nat) (Option.none : Option Jvm.ClassFile.FieldType), Jvm.Cond.code ({ cls := "com/example/cicada/cicada/model/QueueOptions", name := "lease", desc := "()Ljava/time/Duration;" } : Jvm.MethodName) prog_5_method_6_code (1 : Nat) (Option.some (Jvm.ClassFile.FieldType.object "java/time/Duration")), Jvm.Cond.code ({ cls := "com/example/cicada/cicada/model/QueueOptions", name := "retries", desc := "()I" } : Jvm.MethodName) prog_5_method_7_code (1 : Nat) (Option.some Jvm.ClassFile.FieldType.int), Jvm.Cond.code ({ cls := "com/example/cicada/cicada/model/QueueOptions", name := "deadLetterRetention", desc := "()Ljava/time/Duration;" } : Jvm.MethodName) prog_5_method_8_code (1 : Nat) (Option.some (Jvm.ClassFile.FieldType.object "java/time/Duration"))]
set_option maxRecDepth 65536 in
theorem codes_eq : words1.filter isCode = codes1 := rfl
theorem w_codes : ∀ c ∈ words1.filter isCode, c.before args0 about1 = true := by
  rw [codes_eq]
  intro c hc
  simp only [codes1, List.mem_cons, List.not_mem_nil, or_false] at hc
  rcases hc with rfl | rfl | rfl | rfl | rfl | rfl | rfl
  · exact w_c0
  · exact w_c1
  · exact w_c2
  · exact w_c3
  · exact w_c4
  · exact w_c5
  · exact w_c6
set_option maxRecDepth 65536 in
theorem w_t1 : (words1.take 24).all (fun c => isCode c || c.before args0 about1) = true := by decide +kernel
set_option maxRecDepth 65536 in
theorem w_t2 : (words1.drop 24).all (fun c => isCode c || c.before args0 about1) = true := by decide +kernel
theorem w_tables : (allAtoms (Jvm.Cond.code x code maxLocals ret :: tables_1)).before args0 about1 = true := by
  rw [allAtoms_all]
  show words1.all (fun c => c.before args0 about1) = true
  refine all_split ?_ w_codes
  rw [← List.take_append_drop 24 words1, List.all_append, w_t1, w_t2]
  rfl
set_option maxRecDepth 65536 in
theorem w_case : (Jvm.Cond.and given_1 narrow_1).before args0 about1 = true := by decide +kernel
theorem w_applies : (headSpec (Jvm.Cond.code x code maxLocals ret :: tables_1) room_1).applies x e0.platform about1 = true :=
  (Spec.applies_iff w_frames).mpr ⟨w_running, w_runnable, w_alone, w_named, w_hears, w_ripe, w_room, w_tables⟩
theorem atStart : AtStart classFile x code maxLocals ret World_1 tables_1 room_1 Calls_1 rest_1 Pre_1 launch0 p0 e0 about1 theMethod args0 below0 :=
  ⟨lists_1, trivial, launch0.admits_env _ _ _, launch0.least_env, fairChoices_fair.cas, fairChoices_fair.clock, w_frames, w_args, w_heap, w_applies, trivial, trivial, w_case⟩
end start1
theorem witness_1 : WitnessClaimed_1 := ⟨start1.p0, start1.e0, start1.about1, start1.theMethod, start1.args0, start1.below0, start1.atStart⟩
end Jvm.Pilot.@@N@@

import JvmDerived
import JvmDerived.Pilot.@@N@@Statement
import JvmDerived.Pilot.@@N@@Code
set_option linter.unusedVariables false
set_option linter.unusedSimpArgs false
namespace Jvm.Pilot.@@N@@
open Jvm Jvm.ClassFile Sem Op Lib Jvm.Free Jvm.Stand Jvm.LawKit Jvm.RoadKit Bundle Jvm.Pilot.@@N@@.Jvm.D
/-! the walk in continuation style: 'Go .. A': from A the run comes to its end, and P holds there -/
def Go (p : Program) (e : Env) (below : List Frame) (P : Outcome → State → Prop) (A : State) : Prop := ∃ s₂ o, Steps p.tables e below A s₂ ∧ s₂.status = .running ∧ Ended s₂ below o ∧ P o s₂
theorem Go.by {p : Program} {e : Env} {below : List Frame} {P : Outcome → State → Prop} {A B : State} (h : ∀ t, Steps p.tables e below B t → Steps p.tables e below A t) (k : Go p e below P B) : Go p e below P A := by
  obtain ⟨s2, o, h1, h2⟩ := k
  exact ⟨s2, o, h _ h1, h2⟩
def End (s : State) (Q : Option Value → Heap → List Loc → Prop) (k n : Nat) (o : Outcome) (U : State) : Prop := ∃ v L, o = .returned v ∧ Q v U.heap L ∧ FrameEnd s o U L k n
section Ends
variable {p : Program} {l : Launch} {e : Env} {R : Room} {s : State} {m : MethodId} {args : Array Value} {below : List Frame} {meth : Method} {c : Code} {T : State} {locs : List Loc} {cells slots : Nat} {Q : Option Value → Heap → List Loc → Prop} {C S : Nat}
theorem Go.fin (X : Stand p l e R s m args below meth c T locs cells slots) {A : State} {v : Option Value} (hv : meth.sig.returnType = none → v = none) (hlk : meth.locks = false) (hk : cells ≤ C) (hn : slots ≤ S) (hQ : Q v T.heap locs)
    (k : ∀ fs, (∀ (f : JFrame) (acts : List Action), f.method = m → f.locked = none → f.entered = [] → (doReturn e (T.setTop f) acts v).1 = T.setFrames fs) → Steps p.tables e below A (T.setFrames fs)) : Go p e below (End s Q C S) A := by
  obtain ⟨fs, hr, hrun, hended, hW, hsame⟩ := X.leave (v := v) hv hlk
  exact ⟨_, _, k fs hr, hrun, hended, _, _, rfl, hQ, ⟨_, rfl⟩, hW, hsame.mono hk hn⟩
theorem Go.retZ (X : Stand p l e R s m args below meth c T locs cells slots) (hx : p.tables.exec = Jvm.exec) {pc : Nat} {Ls : Array Slot} {z : Int32} {t : FieldType} {rest : List Value} (hret : meth.sig.returnType = some t) (ht : t = .boolean ∨ t = .byte ∨ t = .char ∨ t = .short) (hlk : meth.locks = false)
    (hd : decode c.code pc = .ok (.ireturn, 1)) (hk : cells ≤ C) (hn : slots ≤ S) (hQ : Q (some (.int (nar t z))) T.heap locs) : Go p e below (End s Q C S) (T.setTop (mkF m pc Ls (.int z :: rest))) :=
  Go.fin X (fun h => by rw [hret] at h; cases h) hlk hk hn hQ fun fs hr => retN X hx hret ht hd hr
theorem Go.retI (X : Stand p l e R s m args below meth c T locs cells slots) (hx : p.tables.exec = Jvm.exec) {pc : Nat} {Ls : Array Slot} {z : Int32} {rest : List Value} (hret : meth.sig.returnType = some .int) (hlk : meth.locks = false)
    (hd : decode c.code pc = .ok (.ireturn, 1)) (hk : cells ≤ C) (hn : slots ≤ S) (hQ : Q (some (.int z)) T.heap locs) : Go p e below (End s Q C S) (T.setTop (mkF m pc Ls (.int z :: rest))) :=
  Go.fin X (fun h => by rw [hret] at h; cases h) hlk hk hn hQ fun fs hr => retOut X hx hret rfl (Or.inl ⟨rfl, Or.inl rfl, _, rfl⟩) hd hr
theorem Go.retR (X : Stand p l e R s m args below meth c T locs cells slots) (hx : p.tables.exec = Jvm.exec) {pc : Nat} {Ls : Array Slot} {w : Value} {t : FieldType} {rest : List Value} (hret : meth.sig.returnType = some t) (ht : t.isReference = true) (hw : w.isRef = true) (hlk : meth.locks = false)
    (hd : decode c.code pc = .ok (.areturn, 1)) (hk : cells ≤ C) (hn : slots ≤ S) (hQ : Q (some w) T.heap locs) : Go p e below (End s Q C S) (T.setTop (mkF m pc Ls (w :: rest))) :=
  Go.fin X (fun h => by rw [hret] at h; cases h) hlk hk hn hQ fun fs hr => retOut X hx hret (by cases t <;> cases w <;> first | rfl | (simp [FieldType.isReference] at ht) | (simp [Value.isRef] at hw)) (Or.inr (Or.inr (Or.inr (Or.inr ⟨rfl, ht, hw⟩)))) hd hr
theorem Go.retV (X : Stand p l e R s m args below meth c T locs cells slots) (hx : p.tables.exec = Jvm.exec) {pc : Nat} {Ls : Array Slot} (hret : meth.sig.returnType = none) (hlk : meth.locks = false)
    (hd : decode c.code pc = .ok (.return_, 1)) (hk : cells ≤ C) (hn : slots ≤ S) (hQ : Q none T.heap locs) : Go p e below (End s Q C S) (T.setTop (mkF m pc Ls [])) :=
  Go.fin X (fun _ => rfl) hlk hk hn hQ fun fs hr => X.returnOut hx hret hd hr
theorem own_eqi {t : Term} {n : Int32} {args : Array Value} {s : State} (h : (Cond.eq t (.int n)).before args s = true) : t.eval args s none [] s = some (.int n) := Cond.eq_int h (Term.int_eval n)
theorem own_n1 : nar .boolean (1 : Int32) = 1 := rfl
theorem own_n0 : nar .boolean (0 : Int32) = 0 := rfl
theorem own_wid (X : Stand p l e R s m args below meth c T locs cells slots) (hk : cells ≤ C) (hn : slots ≤ S) : Stand p l e R s m args below meth c T locs C S :=
  ⟨X.admits, X.cas, X.clock, X.frames, X.room, X.hears, X.method, X.code, X.here, X.tail, X.warmed, X.limits, X.bytes, X.same.mono hk hn⟩
end Ends
def Glob (Z : State) (wNONE : Addr) (wPLAIN : Addr) (wGREATER : Addr) (wLESSER : Addr) (wMOST : Addr) (wLEAST : Addr) (wCOUNT : Addr) : Prop := Sta Z Z.heap "com/example/gofyn/gofyn/keyword/Degree" "NONE" "Lcom/example/gofyn/gofyn/keyword/Degree;" (.ref wNONE) ∧ Exa Z Z.heap wNONE "com/example/gofyn/gofyn/keyword/Degree" ∧ Sta Z Z.heap "com/example/gofyn/gofyn/keyword/Degree" "PLAIN" "Lcom/example/gofyn/gofyn/keyword/Degree;" (.ref wPLAIN) ∧ Exa Z Z.heap wPLAIN "com/example/gofyn/gofyn/keyword/Degree" ∧ Sta Z Z.heap "com/example/gofyn/gofyn/keyword/Degree" "GREATER" "Lcom/example/gofyn/gofyn/keyword/Degree;" (.ref wGREATER) ∧ Exa Z Z.heap wGREATER "com/example/gofyn/gofyn/keyword/Degree" ∧ Sta Z Z.heap "com/example/gofyn/gofyn/keyword/Degree" "LESSER" "Lcom/example/gofyn/gofyn/keyword/Degree;" (.ref wLESSER) ∧ Exa Z Z.heap wLESSER "com/example/gofyn/gofyn/keyword/Degree" ∧ Sta Z Z.heap "com/example/gofyn/gofyn/keyword/Degree" "MOST" "Lcom/example/gofyn/gofyn/keyword/Degree;" (.ref wMOST) ∧ Exa Z Z.heap wMOST "com/example/gofyn/gofyn/keyword/Degree" ∧ Sta Z Z.heap "com/example/gofyn/gofyn/keyword/Degree" "LEAST" "Lcom/example/gofyn/gofyn/keyword/Degree;" (.ref wLEAST) ∧ Exa Z Z.heap wLEAST "com/example/gofyn/gofyn/keyword/Degree" ∧ Sta Z Z.heap "com/example/gofyn/gofyn/keyword/Degree" "COUNT" "Lcom/example/gofyn/gofyn/keyword/Degree;" (.ref wCOUNT) ∧ Exa Z Z.heap wCOUNT "com/example/gofyn/gofyn/keyword/Degree" ∧ Fld Z Z.heap wNONE "java/lang/Enum" "ordinal" "I" (.int (0 : Int32)) ∧ Fld Z Z.heap wGREATER "java/lang/Enum" "ordinal" "I" (.int (2 : Int32)) ∧ Fld Z Z.heap wMOST "java/lang/Enum" "ordinal" "I" (.int (4 : Int32)) ∧ Fld Z Z.heap wLESSER "java/lang/Enum" "ordinal" "I" (.int (3 : Int32)) ∧ Fld Z Z.heap wLEAST "java/lang/Enum" "ordinal" "I" (.int (5 : Int32)) ∧ Fld Z Z.heap wCOUNT "java/lang/Enum" "ordinal" "I" (.int (6 : Int32)) ∧ Fld Z Z.heap wPLAIN "java/lang/Enum" "ordinal" "I" (.int (1 : Int32))
theorem own_lt7 (i : Int32) (h : 0 ≤ i.toInt ∧ i.toInt < 7) : i = 0 ∨ i = 1 ∨ i = 2 ∨ i = 3 ∨ i = 4 ∨ i = 5 ∨ i = 6 := by
  have q : i.toInt = 0 ∨ i.toInt = 1 ∨ i.toInt = 2 ∨ i.toInt = 3 ∨ i.toInt = 4 ∨ i.toInt = 5 ∨ i.toInt = 6 := by omega
  rcases q with q | q | q | q | q | q | q
  · exact Or.inl (Int32.toInt_inj.mp q)
  · exact Or.inr (Or.inl (Int32.toInt_inj.mp q))
  · exact Or.inr (Or.inr (Or.inl (Int32.toInt_inj.mp q)))
  · exact Or.inr (Or.inr (Or.inr (Or.inl (Int32.toInt_inj.mp q))))
  · exact Or.inr (Or.inr (Or.inr (Or.inr (Or.inl (Int32.toInt_inj.mp q)))))
  · exact Or.inr (Or.inr (Or.inr (Or.inr (Or.inr (Or.inl (Int32.toInt_inj.mp q))))))
  · exact Or.inr (Or.inr (Or.inr (Or.inr (Or.inr (Or.inr (Int32.toInt_inj.mp q))))))
theorem own_mod7 (x : Int32) : 0 ≤ ((x &&& (2147483647 : Int32)) % (7 : Int32)).toInt ∧ ((x &&& (2147483647 : Int32)) % (7 : Int32)).toInt < 7 := by
  have h1 : (x &&& (2147483647 : Int32)).toInt = x.toInt % (2 ^ 31 : Nat) := c_mask x 2147483647 31 (by decide) (by decide)
  have h2 := (c_irem (x &&& (2147483647 : Int32)) 7 7 rfl).1 (by omega)
  omega
theorem pn_0 : plainName "com/example/gofyn/gofyn/keyword/Degree" = true := by first | (simp [plainName, overriddenIn]; done) | decide +kernel
theorem pd_0 : parseMethodDescriptor "()Z" = some ⟨[], some .boolean⟩ := by decide +kernel
theorem pn_1 : plainName "com/example/gofyn/gofyn/keyword/DegreeIsGreaterPinLaw" = true := by first | (simp [plainName, overriddenIn]; done) | decide +kernel
theorem d1_0 : decode prog_7_method_4_code 0 = .ok (.aload_n 0, 1) := by decide +kernel
theorem d1_1 : decode prog_7_method_4_code 1 = .ok (.getstatic 10, 3) := by decide +kernel
theorem d1_4 : decode prog_7_method_4_code 4 = .ok (.if_acmp .eq 10, 3) := by decide +kernel
theorem d1_7 : decode prog_7_method_4_code 7 = .ok (.aload_n 0, 1) := by decide +kernel
theorem d1_8 : decode prog_7_method_4_code 8 = .ok (.getstatic 16, 3) := by decide +kernel
theorem d1_11 : decode prog_7_method_4_code 11 = .ok (.if_acmp .ne 7, 3) := by decide +kernel
theorem d1_14 : decode prog_7_method_4_code 14 = .ok (.iconst 1, 1) := by decide +kernel
theorem d1_15 : decode prog_7_method_4_code 15 = .ok (.goto 4, 3) := by decide +kernel
theorem d1_18 : decode prog_7_method_4_code 18 = .ok (.iconst 0, 1) := by decide +kernel
theorem d1_19 : decode prog_7_method_4_code 19 = .ok (.ireturn, 1) := by decide +kernel
theorem ef_gr (m : MethodId) (x0 : Addr) : entryFrame m #[(.ref x0)] 1 = mkF m 0 #[.val (.ref x0)] [] := by first | (simp [entryFrame, mkF, argsToLocals, Value.category]; done) | rfl
def Q_gr (Z : State) (wNONE : Addr) (wPLAIN : Addr) (wGREATER : Addr) (wLESSER : Addr) (wMOST : Addr) (wLEAST : Addr) (wCOUNT : Addr) (a1 : Addr) (r : Int32) (h0 : Heap) (n0 : Nat) (v : Option Value) (h : Heap) (L : List Loc) : Prop := v = some (.int r) ∧ Fr n0 L ∧ h = h0
set_option maxRecDepth 65536 in
set_option maxHeartbeats 40000000 in
theorem rm_gr (l : Launch) (Z : State) (a0 : Array Value) (hw : ∀ d ∈ tables_1, d.before a0 Z = true) (ws : List Jvm.Cond) (wNONE : Addr) (wPLAIN : Addr) (wGREATER : Addr) (wLESSER : Addr) (wMOST : Addr) (wLEAST : Addr) (wCOUNT : Addr) (hG : Glob Z wNONE wPLAIN wGREATER wLESSER wMOST wLEAST wCOUNT) (a1 : Addr) (r : Int32) (h0 : Heap) (n0 : Nat) (Z0 : n0 ≤ h0.size) (O0 : Old Z n0 h0) (hr : r = if a1 = wGREATER then 1 else if a1 = wMOST then 1 else 0) :
    MetFree l (⟨"com/example/gofyn/gofyn/keyword/Degree", "isGreater", "()Z"⟩ : MethodName) (head1 (Jvm.Cond.code (⟨"com/example/gofyn/gofyn/keyword/Degree", "isGreater", "()Z"⟩ : MethodName) prog_7_method_4_code 1 (some .boolean) :: ws) ({ frames := 0, cells := 0, slots := 0, locals := 0 } : Room)) (fun a U => a = #[(.ref a1)] ∧ Z.Warmed39 U.vm ∧ U.heap = h0) (fun _ _ _ _ _ => True) (fun _ U o U' => ∃ v L, o = .returned v ∧ Q_gr Z wNONE wPLAIN wGREATER wLESSER wMOST wLEAST wCOUNT a1 r h0 n0 v U'.heap L ∧ FrameEnd U o U' L ({ frames := 0, cells := 0, slots := 0, locals := 0 } : Room).cells ({ frames := 0, cells := 0, slots := 0, locals := 0 } : Room).slots) := by
  refine MetFree.of_bodySF (plainFor_of_name pn_0) hisR ?_
  intro p e s m args below meth c s₁ Bd hml0 hP hK
  obtain ⟨rfl, hZ, hh⟩ := hP
  have hx := Bd.exec
  have hby := Bd.bytes
  have hml : c.maxLocals = 1 := hml0
  have hown : s.vm.findClass "com/example/gofyn/gofyn/keyword/Degree" = some m.cls := findClass_of_methodNamed Bd.named
  have hnm := (name_of_methodNamed Bd.named Bd.method).1
  have hlk : meth.locks = false := BodyLoose.notSynchronized Bd
  have X0 : Stand p l e ({ frames := 0, cells := 0, slots := 0, locals := 0 } : Room) s m #[(.ref a1)] below meth c s₁ [] 0 0 := Stand.of_body Bd
  have e0 : s₁.heap = h0 := by rw [← hh, Bd.state]; rfl
  have N0 := Fr.nil n0
  obtain ⟨G0, G1, G2, G3, G4, G5, G6, G7, G8, G9, G10, G11, G12, G13, G14, G15, G16, G17, G18, G19, G20⟩ := id hG
  show Go p e below (End s (Q_gr Z wNONE wPLAIN wGREATER wLESSER wMOST wLEAST wCOUNT a1 r h0 n0) ({ frames := 0, cells := 0, slots := 0, locals := 0 } : Room).cells ({ frames := 0, cells := 0, slots := 0, locals := 0 } : Room).slots) (s₁.setTop (entryFrame m #[(.ref a1)] 1))
  rw [ef_gr]
  generalize hP : End s (Q_gr Z wNONE wPLAIN wGREATER wLESSER wMOST wLEAST wCOUNT a1 r h0 n0) ({ frames := 0, cells := 0, slots := 0, locals := 0 } : Room).cells ({ frames := 0, cells := 0, slots := 0, locals := 0 } : Room).slots = P
  show Go p e below P (s₁.setTop (mkF m 0 #[.val (.ref a1)] []))
  refine Go.by (fun _ => XS.aloadN X0.here hx rfl (hb hby d1_0) rfl rfl) ?_
  show Go p e below P (s₁.setTop (mkF m 1 #[.val (.ref a1)] [(.ref a1)]))
  obtain ⟨T1, X1, e1, st1⟩ := getS2 X0 hx hZ hown (host := "") (Or.inl (hw _ (List.mem_of_getElem? (i := 25) rfl))) Via.refl e0 (G4.ext O0.2) (g := (mkF m 1 #[.val (.ref a1)] [(.ref a1)])) rfl (hb hby d1_1)
  refine Go.by (fun _ => st1 _) ?_
  show Go p e below P (T1.setTop (mkF m 4 #[.val (.ref a1)] [(.ref wGREATER), (.ref a1)]))
  by_cases ha4 : a1 = wGREATER
  · refine Go.by (fun _ => Jvm.RoadKit.acmp (g := (mkF m 4 #[.val (.ref a1)] [(.ref wGREATER), (.ref a1)])) X1 hx rfl rfl rfl (pc0 := 4) (pc' := 14) (same := true) rfl (hb hby d1_4) rfl (decide_eq_true (congrArg Value.ref ha4)) (by decide) (by decide)) ?_
    show Go p e below P (T1.setTop (mkF m 14 #[.val (.ref a1)] []))
    refine Go.by (fun _ => XS.iconst X1.here hx rfl (hb hby d1_14)) ?_
    show Go p e below P (T1.setTop (mkF m 15 #[.val (.ref a1)] [(.int (1 : Int32))]))
    refine Go.by (fun _ => XS.goto X1.here hx rfl (pc0 := 15) (pc' := 19) rfl (hb hby d1_15) (by decide) (by decide)) ?_
    show Go p e below P (T1.setTop (mkF m 19 #[.val (.ref a1)] [(.int (1 : Int32))]))
    subst hP
    refine Go.retZ X1 hx (t := .boolean) Bd.returns (by simp) hlk (hb hby d1_19) (Nat.le_of_ble_eq_true rfl) (Nat.le_of_ble_eq_true rfl) ?_
    rw [e1]
    exact ⟨by simp [hr, own_n1, own_n0, *], N0, rfl⟩
  · refine Go.by (fun _ => Jvm.RoadKit.acmp (g := (mkF m 4 #[.val (.ref a1)] [(.ref wGREATER), (.ref a1)])) X1 hx rfl rfl rfl (pc0 := 4) (pc' := 7) (same := false) rfl (hb hby d1_4) rfl (decide_eq_false fun q => ha4 (Value.ref.inj q)) (by decide) (by decide)) ?_
    show Go p e below P (T1.setTop (mkF m 7 #[.val (.ref a1)] []))
    refine Go.by (fun _ => XS.aloadN X1.here hx rfl (hb hby d1_7) rfl rfl) ?_
    show Go p e below P (T1.setTop (mkF m 8 #[.val (.ref a1)] [(.ref a1)]))
    obtain ⟨T2, X2, e2, st2⟩ := getS2 X1 hx hZ hown (host := "") (Or.inl (hw _ (List.mem_of_getElem? (i := 26) rfl))) Via.refl e1 (G8.ext O0.2) (g := (mkF m 8 #[.val (.ref a1)] [(.ref a1)])) rfl (hb hby d1_8)
    refine Go.by (fun _ => st2 _) ?_
    show Go p e below P (T2.setTop (mkF m 11 #[.val (.ref a1)] [(.ref wMOST), (.ref a1)]))
    by_cases ha11 : a1 = wMOST
    · refine Go.by (fun _ => Jvm.RoadKit.acmp (g := (mkF m 11 #[.val (.ref a1)] [(.ref wMOST), (.ref a1)])) X2 hx rfl rfl rfl (pc0 := 11) (pc' := 14) (same := true) rfl (hb hby d1_11) rfl (decide_eq_true (congrArg Value.ref ha11)) (by decide) (by decide)) ?_
      show Go p e below P (T2.setTop (mkF m 14 #[.val (.ref a1)] []))
      refine Go.by (fun _ => XS.iconst X2.here hx rfl (hb hby d1_14)) ?_
      show Go p e below P (T2.setTop (mkF m 15 #[.val (.ref a1)] [(.int (1 : Int32))]))
      refine Go.by (fun _ => XS.goto X2.here hx rfl (pc0 := 15) (pc' := 19) rfl (hb hby d1_15) (by decide) (by decide)) ?_
      show Go p e below P (T2.setTop (mkF m 19 #[.val (.ref a1)] [(.int (1 : Int32))]))
      subst hP
      refine Go.retZ X2 hx (t := .boolean) Bd.returns (by simp) hlk (hb hby d1_19) (Nat.le_of_ble_eq_true rfl) (Nat.le_of_ble_eq_true rfl) ?_
      rw [e2]
      exact ⟨by simp [hr, own_n1, own_n0, *], N0, rfl⟩
    · refine Go.by (fun _ => Jvm.RoadKit.acmp (g := (mkF m 11 #[.val (.ref a1)] [(.ref wMOST), (.ref a1)])) X2 hx rfl rfl rfl (pc0 := 11) (pc' := 18) (same := false) rfl (hb hby d1_11) rfl (decide_eq_false fun q => ha11 (Value.ref.inj q)) (by decide) (by decide)) ?_
      show Go p e below P (T2.setTop (mkF m 18 #[.val (.ref a1)] []))
      refine Go.by (fun _ => XS.iconst X2.here hx rfl (hb hby d1_18)) ?_
      show Go p e below P (T2.setTop (mkF m 19 #[.val (.ref a1)] [(.int (0 : Int32))]))
      subst hP
      refine Go.retZ X2 hx (t := .boolean) Bd.returns (by simp) hlk (hb hby d1_19) (Nat.le_of_ble_eq_true rfl) (Nat.le_of_ble_eq_true rfl) ?_
      rw [e2]
      exact ⟨by simp [hr, own_n1, own_n0, *], N0, rfl⟩
theorem ef_law (m : MethodId) (x0 : Int32) : entryFrame m #[(.int x0)] maxLocals = mkF m 0 #[.val (.int x0), .unset, .unset, .unset] [] := by first | (simp [entryFrame, mkF, argsToLocals, Value.category, maxLocals]; done) | rfl
def Q_law (Z : State) (wNONE : Addr) (wPLAIN : Addr) (wGREATER : Addr) (wLESSER : Addr) (wMOST : Addr) (wLEAST : Addr) (wCOUNT : Addr) (p0 : Int32) (h0 : Heap) (n0 : Nat) (v : Option Value) (h : Heap) (L : List Loc) : Prop := v = some (.int 1) ∧ Fr n0 L
set_option maxRecDepth 65536 in
set_option maxHeartbeats 40000000 in
theorem rm_law (l : Launch) (Z : State) (a0 : Array Value) (hw : ∀ d ∈ tables_1, d.before a0 Z = true) (ws : List Jvm.Cond) (wNONE : Addr) (wPLAIN : Addr) (wGREATER : Addr) (wLESSER : Addr) (wMOST : Addr) (wLEAST : Addr) (wCOUNT : Addr) (hG : Glob Z wNONE wPLAIN wGREATER wLESSER wMOST wLEAST wCOUNT) (p0 : Int32) (h0 : Heap) (n0 : Nat) (Z0 : n0 ≤ h0.size) (O0 : Old Z n0 h0) :
    MetFree l x (head1 (Jvm.Cond.code x code maxLocals ret :: ws) room_1) (fun a U => a = #[(.int p0)] ∧ Z.Warmed39 U.vm ∧ U.heap = h0) (fun _ _ _ _ _ => True) (fun _ U o U' => ∃ v L, o = .returned v ∧ Q_law Z wNONE wPLAIN wGREATER wLESSER wMOST wLEAST wCOUNT p0 h0 n0 v U'.heap L ∧ FrameEnd U o U' L 2 14) := by
  refine MetFree.of_bodySF (plainFor_of_name pn_1) hisR ?_
  intro p e s m args below meth c s₁ Bd hml0 hP hK
  obtain ⟨rfl, hZ, hh⟩ := hP
  have hx := Bd.exec
  have hby := Bd.bytes
  have hml : c.maxLocals = 4 := hml0
  have hown : s.vm.findClass "com/example/gofyn/gofyn/keyword/DegreeIsGreaterPinLaw" = some m.cls := findClass_of_methodNamed Bd.named
  have hnm := (name_of_methodNamed Bd.named Bd.method).1
  have hlk : meth.locks = false := BodyLoose.notSynchronized Bd
  have X0 : Stand p l e room_1 s m #[(.int p0)] below meth c s₁ [] 0 0 := Stand.of_body Bd
  have e0 : s₁.heap = h0 := by rw [← hh, Bd.state]; rfl
  have N0 := Fr.nil n0
  obtain ⟨G0, G1, G2, G3, G4, G5, G6, G7, G8, G9, G10, G11, G12, G13, G14, G15, G16, G17, G18, G19, G20⟩ := id hG
  show Go p e below (End s (Q_law Z wNONE wPLAIN wGREATER wLESSER wMOST wLEAST wCOUNT p0 h0 n0) 2 14) (s₁.setTop (entryFrame m #[(.int p0)] maxLocals))
  rw [ef_law]
  generalize hP : End s (Q_law Z wNONE wPLAIN wGREATER wLESSER wMOST wLEAST wCOUNT p0 h0 n0) 2 14 = P
  show Go p e below P (s₁.setTop (mkF m 0 #[.val (.int p0), .unset, .unset, .unset] []))
  refine Go.by (fun _ => XS.bipush X0.here hx rfl (hb hby at_0)) ?_
  show Go p e below P (s₁.setTop (mkF m 2 #[.val (.int p0), .unset, .unset, .unset] [(.int (7 : Int32))]))
  obtain ⟨T1, h1, k1, X1, e1, E1, A1, Ov1, st1⟩ := newR X0 hx hZ hown (hw _ (List.mem_of_getElem? (i := 0) rfl)) (hw _ (List.mem_of_getElem? (i := 1) rfl)) e0 (g := (mkF m 2 #[.val (.int p0), .unset, .unset, .unset] [(.int (7 : Int32))])) rfl (hb hby at_2) rfl (by decide) (cap := 7) (by decide) (Nat.le_of_ble_eq_true rfl) (Nat.le_of_ble_eq_true rfl) (Nat.le_of_ble_eq_true rfl)
  obtain ⟨b1, q1⟩ : ∃ z, z = h0.size := ⟨_, rfl⟩
  rw [← q1] at A1 st1
  refine Go.by (fun _ => st1 _) ?_
  have g_b1 : n0 ≤ b1 := Nat.le_trans Z0 (Nat.le_of_eq q1.symm)
  have O1 := O0.ext E1
  have Z1 : n0 ≤ h1.size := Nat.le_trans Z0 E1.1
  have F2 : Arv Z h1 b1 k1 (.object "com/example/gofyn/gofyn/keyword/Degree") (7 : Int32) [.null, .null, .null, .null, .null, .null, .null] .null := (Arv.new A1 (by decide)).pad (pad_rep [] .null 7)
  show Go p e below P (T1.setTop (mkF m 5 #[.val (.int p0), .unset, .unset, .unset] [(.ref b1)]))
  refine Go.by (fun _ => XS.dup X1.here hx rfl (hb hby at_5) rfl rfl) ?_
  show Go p e below P (T1.setTop (mkF m 6 #[.val (.int p0), .unset, .unset, .unset] [(.ref b1), (.ref b1)]))
  refine Go.by (fun _ => XS.iconst X1.here hx rfl (hb hby at_6)) ?_
  show Go p e below P (T1.setTop (mkF m 7 #[.val (.int p0), .unset, .unset, .unset] [(.int (0 : Int32)), (.ref b1), (.ref b1)]))
  obtain ⟨T3, X3, e3, st3⟩ := getS2 X1 hx hZ hown (host := "") (Or.inl (hw _ (List.mem_of_getElem? (i := 2) rfl))) Via.refl e1 (G0.ext O1.2) (g := (mkF m 7 #[.val (.int p0), .unset, .unset, .unset] [(.int (0 : Int32)), (.ref b1), (.ref b1)])) rfl (hb hby at_7)
  refine Go.by (fun _ => st3 _) ?_
  show Go p e below P (T3.setTop (mkF m 10 #[.val (.int p0), .unset, .unset, .unset] [(.ref wNONE), (.int (0 : Int32)), (.ref b1), (.ref b1)]))
  obtain ⟨cl4, Ar4, qc4, Sz4, Ng4, Hs4, Gf4⟩ := F2
  have hin4 : ¬ ((0 : Int32) < 0 ∨ cl4.slots.size ≤ ((0 : Int32)).toNatClampNeg) := inb_of Sz4 ⟨by decide, by decide⟩
  obtain ⟨T4, h4, X4, e4, W4, st4⟩ := stR X3 hx hZ e3 Ar4 (j := (0 : Int32)) hin4 rfl (Sto.ofV Ar4 qc4 Ov1 (Ins.self (G1.ext O1.2))) (g := (mkF m 10 #[.val (.int p0), .unset, .unset, .unset] [(.ref wNONE), (.int (0 : Int32)), (.ref b1), (.ref b1)])) rfl rfl (hb hby at_10)
  refine Go.by (fun _ => st4 _) ?_
  have O4 := O1.wr W4 g_b1
  have Z4 : n0 ≤ h4.size := Nat.le_trans Z1 (Keep.of_wr W4).1
  have F5 : Arv Z h4 b1 k1 (.object "com/example/gofyn/gofyn/keyword/Degree") (7 : Int32) [(.ref wNONE), .null, .null, .null, .null, .null, .null] .null := Arv.set Ar4 qc4 Sz4 Ng4 Hs4 Gf4 rfl W4 0 rfl (Nat.le_of_ble_eq_true rfl)
  have N4 := Fr.snoc X4 N0 g_b1
  show Go p e below P (T4.setTop (mkF m 11 #[.val (.int p0), .unset, .unset, .unset] [(.ref b1)]))
  refine Go.by (fun _ => XS.dup X4.here hx rfl (hb hby at_11) rfl rfl) ?_
  show Go p e below P (T4.setTop (mkF m 12 #[.val (.int p0), .unset, .unset, .unset] [(.ref b1), (.ref b1)]))
  refine Go.by (fun _ => XS.iconst X4.here hx rfl (hb hby at_12)) ?_
  show Go p e below P (T4.setTop (mkF m 13 #[.val (.int p0), .unset, .unset, .unset] [(.int (1 : Int32)), (.ref b1), (.ref b1)]))
  obtain ⟨T6, X6, e6, st6⟩ := getS2 X4 hx hZ hown (host := "") (Or.inl (hw _ (List.mem_of_getElem? (i := 6) rfl))) Via.refl e4 (G2.ext O4.2) (g := (mkF m 13 #[.val (.int p0), .unset, .unset, .unset] [(.int (1 : Int32)), (.ref b1), (.ref b1)])) rfl (hb hby at_13)
  refine Go.by (fun _ => st6 _) ?_
  show Go p e below P (T6.setTop (mkF m 16 #[.val (.int p0), .unset, .unset, .unset] [(.ref wPLAIN), (.int (1 : Int32)), (.ref b1), (.ref b1)]))
  obtain ⟨cl7, Ar7, qc7, Sz7, Ng7, Hs7, Gf7⟩ := F5
  have hin7 : ¬ ((1 : Int32) < 0 ∨ cl7.slots.size ≤ ((1 : Int32)).toNatClampNeg) := inb_of Sz7 ⟨by decide, by decide⟩
  obtain ⟨T7, h7, X7, e7, W7, st7⟩ := stR X6 hx hZ e6 Ar7 (j := (1 : Int32)) hin7 rfl (Sto.ofV Ar7 qc7 Ov1 (Ins.self (G3.ext O4.2))) (g := (mkF m 16 #[.val (.int p0), .unset, .unset, .unset] [(.ref wPLAIN), (.int (1 : Int32)), (.ref b1), (.ref b1)])) rfl rfl (hb hby at_16)
  refine Go.by (fun _ => st7 _) ?_
  have O7 := O4.wr W7 g_b1
  have Z7 : n0 ≤ h7.size := Nat.le_trans Z4 (Keep.of_wr W7).1
  have F8 : Arv Z h7 b1 k1 (.object "com/example/gofyn/gofyn/keyword/Degree") (7 : Int32) [(.ref wNONE), (.ref wPLAIN), .null, .null, .null, .null, .null] .null := Arv.set Ar7 qc7 Sz7 Ng7 Hs7 Gf7 rfl W7 1 rfl (Nat.le_of_ble_eq_true rfl)
  have N7 := Fr.snoc X7 N4 g_b1
  show Go p e below P (T7.setTop (mkF m 17 #[.val (.int p0), .unset, .unset, .unset] [(.ref b1)]))
  refine Go.by (fun _ => XS.dup X7.here hx rfl (hb hby at_17) rfl rfl) ?_
  show Go p e below P (T7.setTop (mkF m 18 #[.val (.int p0), .unset, .unset, .unset] [(.ref b1), (.ref b1)]))
  refine Go.by (fun _ => XS.iconst X7.here hx rfl (hb hby at_18)) ?_
  show Go p e below P (T7.setTop (mkF m 19 #[.val (.int p0), .unset, .unset, .unset] [(.int (2 : Int32)), (.ref b1), (.ref b1)]))
  obtain ⟨T9, X9, e9, st9⟩ := getS2 X7 hx hZ hown (host := "") (Or.inl (hw _ (List.mem_of_getElem? (i := 8) rfl))) Via.refl e7 (G4.ext O7.2) (g := (mkF m 19 #[.val (.int p0), .unset, .unset, .unset] [(.int (2 : Int32)), (.ref b1), (.ref b1)])) rfl (hb hby at_19)
  refine Go.by (fun _ => st9 _) ?_
  show Go p e below P (T9.setTop (mkF m 22 #[.val (.int p0), .unset, .unset, .unset] [(.ref wGREATER), (.int (2 : Int32)), (.ref b1), (.ref b1)]))
  obtain ⟨cl10, Ar10, qc10, Sz10, Ng10, Hs10, Gf10⟩ := F8
  have hin10 : ¬ ((2 : Int32) < 0 ∨ cl10.slots.size ≤ ((2 : Int32)).toNatClampNeg) := inb_of Sz10 ⟨by decide, by decide⟩
  obtain ⟨T10, h10, X10, e10, W10, st10⟩ := stR X9 hx hZ e9 Ar10 (j := (2 : Int32)) hin10 rfl (Sto.ofV Ar10 qc10 Ov1 (Ins.self (G5.ext O7.2))) (g := (mkF m 22 #[.val (.int p0), .unset, .unset, .unset] [(.ref wGREATER), (.int (2 : Int32)), (.ref b1), (.ref b1)])) rfl rfl (hb hby at_22)
  refine Go.by (fun _ => st10 _) ?_
  have O10 := O7.wr W10 g_b1
  have Z10 : n0 ≤ h10.size := Nat.le_trans Z7 (Keep.of_wr W10).1
  have F11 : Arv Z h10 b1 k1 (.object "com/example/gofyn/gofyn/keyword/Degree") (7 : Int32) [(.ref wNONE), (.ref wPLAIN), (.ref wGREATER), .null, .null, .null, .null] .null := Arv.set Ar10 qc10 Sz10 Ng10 Hs10 Gf10 rfl W10 2 rfl (Nat.le_of_ble_eq_true rfl)
  have N10 := Fr.snoc X10 N7 g_b1
  show Go p e below P (T10.setTop (mkF m 23 #[.val (.int p0), .unset, .unset, .unset] [(.ref b1)]))
  refine Go.by (fun _ => XS.dup X10.here hx rfl (hb hby at_23) rfl rfl) ?_
  show Go p e below P (T10.setTop (mkF m 24 #[.val (.int p0), .unset, .unset, .unset] [(.ref b1), (.ref b1)]))
  refine Go.by (fun _ => XS.iconst X10.here hx rfl (hb hby at_24)) ?_
  show Go p e below P (T10.setTop (mkF m 25 #[.val (.int p0), .unset, .unset, .unset] [(.int (3 : Int32)), (.ref b1), (.ref b1)]))
  obtain ⟨T12, X12, e12, st12⟩ := getS2 X10 hx hZ hown (host := "") (Or.inl (hw _ (List.mem_of_getElem? (i := 10) rfl))) Via.refl e10 (G6.ext O10.2) (g := (mkF m 25 #[.val (.int p0), .unset, .unset, .unset] [(.int (3 : Int32)), (.ref b1), (.ref b1)])) rfl (hb hby at_25)
  refine Go.by (fun _ => st12 _) ?_
  show Go p e below P (T12.setTop (mkF m 28 #[.val (.int p0), .unset, .unset, .unset] [(.ref wLESSER), (.int (3 : Int32)), (.ref b1), (.ref b1)]))
  obtain ⟨cl13, Ar13, qc13, Sz13, Ng13, Hs13, Gf13⟩ := F11
  have hin13 : ¬ ((3 : Int32) < 0 ∨ cl13.slots.size ≤ ((3 : Int32)).toNatClampNeg) := inb_of Sz13 ⟨by decide, by decide⟩
  obtain ⟨T13, h13, X13, e13, W13, st13⟩ := stR X12 hx hZ e12 Ar13 (j := (3 : Int32)) hin13 rfl (Sto.ofV Ar13 qc13 Ov1 (Ins.self (G7.ext O10.2))) (g := (mkF m 28 #[.val (.int p0), .unset, .unset, .unset] [(.ref wLESSER), (.int (3 : Int32)), (.ref b1), (.ref b1)])) rfl rfl (hb hby at_28)
  refine Go.by (fun _ => st13 _) ?_
  have O13 := O10.wr W13 g_b1
  have Z13 : n0 ≤ h13.size := Nat.le_trans Z10 (Keep.of_wr W13).1
  have F14 : Arv Z h13 b1 k1 (.object "com/example/gofyn/gofyn/keyword/Degree") (7 : Int32) [(.ref wNONE), (.ref wPLAIN), (.ref wGREATER), (.ref wLESSER), .null, .null, .null] .null := Arv.set Ar13 qc13 Sz13 Ng13 Hs13 Gf13 rfl W13 3 rfl (Nat.le_of_ble_eq_true rfl)
  have N13 := Fr.snoc X13 N10 g_b1
  show Go p e below P (T13.setTop (mkF m 29 #[.val (.int p0), .unset, .unset, .unset] [(.ref b1)]))
  refine Go.by (fun _ => XS.dup X13.here hx rfl (hb hby at_29) rfl rfl) ?_
  show Go p e below P (T13.setTop (mkF m 30 #[.val (.int p0), .unset, .unset, .unset] [(.ref b1), (.ref b1)]))
  refine Go.by (fun _ => XS.iconst X13.here hx rfl (hb hby at_30)) ?_
  show Go p e below P (T13.setTop (mkF m 31 #[.val (.int p0), .unset, .unset, .unset] [(.int (4 : Int32)), (.ref b1), (.ref b1)]))
  obtain ⟨T15, X15, e15, st15⟩ := getS2 X13 hx hZ hown (host := "") (Or.inl (hw _ (List.mem_of_getElem? (i := 12) rfl))) Via.refl e13 (G8.ext O13.2) (g := (mkF m 31 #[.val (.int p0), .unset, .unset, .unset] [(.int (4 : Int32)), (.ref b1), (.ref b1)])) rfl (hb hby at_31)
  refine Go.by (fun _ => st15 _) ?_
  show Go p e below P (T15.setTop (mkF m 34 #[.val (.int p0), .unset, .unset, .unset] [(.ref wMOST), (.int (4 : Int32)), (.ref b1), (.ref b1)]))
  obtain ⟨cl16, Ar16, qc16, Sz16, Ng16, Hs16, Gf16⟩ := F14
  have hin16 : ¬ ((4 : Int32) < 0 ∨ cl16.slots.size ≤ ((4 : Int32)).toNatClampNeg) := inb_of Sz16 ⟨by decide, by decide⟩
  obtain ⟨T16, h16, X16, e16, W16, st16⟩ := stR X15 hx hZ e15 Ar16 (j := (4 : Int32)) hin16 rfl (Sto.ofV Ar16 qc16 Ov1 (Ins.self (G9.ext O13.2))) (g := (mkF m 34 #[.val (.int p0), .unset, .unset, .unset] [(.ref wMOST), (.int (4 : Int32)), (.ref b1), (.ref b1)])) rfl rfl (hb hby at_34)
  refine Go.by (fun _ => st16 _) ?_
  have O16 := O13.wr W16 g_b1
  have Z16 : n0 ≤ h16.size := Nat.le_trans Z13 (Keep.of_wr W16).1
  have F17 : Arv Z h16 b1 k1 (.object "com/example/gofyn/gofyn/keyword/Degree") (7 : Int32) [(.ref wNONE), (.ref wPLAIN), (.ref wGREATER), (.ref wLESSER), (.ref wMOST), .null, .null] .null := Arv.set Ar16 qc16 Sz16 Ng16 Hs16 Gf16 rfl W16 4 rfl (Nat.le_of_ble_eq_true rfl)
  have N16 := Fr.snoc X16 N13 g_b1
  show Go p e below P (T16.setTop (mkF m 35 #[.val (.int p0), .unset, .unset, .unset] [(.ref b1)]))
  refine Go.by (fun _ => XS.dup X16.here hx rfl (hb hby at_35) rfl rfl) ?_
  show Go p e below P (T16.setTop (mkF m 36 #[.val (.int p0), .unset, .unset, .unset] [(.ref b1), (.ref b1)]))
  refine Go.by (fun _ => XS.iconst X16.here hx rfl (hb hby at_36)) ?_
  show Go p e below P (T16.setTop (mkF m 37 #[.val (.int p0), .unset, .unset, .unset] [(.int (5 : Int32)), (.ref b1), (.ref b1)]))
  obtain ⟨T18, X18, e18, st18⟩ := getS2 X16 hx hZ hown (host := "") (Or.inl (hw _ (List.mem_of_getElem? (i := 14) rfl))) Via.refl e16 (G10.ext O16.2) (g := (mkF m 37 #[.val (.int p0), .unset, .unset, .unset] [(.int (5 : Int32)), (.ref b1), (.ref b1)])) rfl (hb hby at_37)
  refine Go.by (fun _ => st18 _) ?_
  show Go p e below P (T18.setTop (mkF m 40 #[.val (.int p0), .unset, .unset, .unset] [(.ref wLEAST), (.int (5 : Int32)), (.ref b1), (.ref b1)]))
  obtain ⟨cl19, Ar19, qc19, Sz19, Ng19, Hs19, Gf19⟩ := F17
  have hin19 : ¬ ((5 : Int32) < 0 ∨ cl19.slots.size ≤ ((5 : Int32)).toNatClampNeg) := inb_of Sz19 ⟨by decide, by decide⟩
  obtain ⟨T19, h19, X19, e19, W19, st19⟩ := stR X18 hx hZ e18 Ar19 (j := (5 : Int32)) hin19 rfl (Sto.ofV Ar19 qc19 Ov1 (Ins.self (G11.ext O16.2))) (g := (mkF m 40 #[.val (.int p0), .unset, .unset, .unset] [(.ref wLEAST), (.int (5 : Int32)), (.ref b1), (.ref b1)])) rfl rfl (hb hby at_40)
  refine Go.by (fun _ => st19 _) ?_
  have O19 := O16.wr W19 g_b1
  have Z19 : n0 ≤ h19.size := Nat.le_trans Z16 (Keep.of_wr W19).1
  have F20 : Arv Z h19 b1 k1 (.object "com/example/gofyn/gofyn/keyword/Degree") (7 : Int32) [(.ref wNONE), (.ref wPLAIN), (.ref wGREATER), (.ref wLESSER), (.ref wMOST), (.ref wLEAST), .null] .null := Arv.set Ar19 qc19 Sz19 Ng19 Hs19 Gf19 rfl W19 5 rfl (Nat.le_of_ble_eq_true rfl)
  have N19 := Fr.snoc X19 N16 g_b1
  show Go p e below P (T19.setTop (mkF m 41 #[.val (.int p0), .unset, .unset, .unset] [(.ref b1)]))
  refine Go.by (fun _ => XS.dup X19.here hx rfl (hb hby at_41) rfl rfl) ?_
  show Go p e below P (T19.setTop (mkF m 42 #[.val (.int p0), .unset, .unset, .unset] [(.ref b1), (.ref b1)]))
  refine Go.by (fun _ => XS.bipush X19.here hx rfl (hb hby at_42)) ?_
  show Go p e below P (T19.setTop (mkF m 44 #[.val (.int p0), .unset, .unset, .unset] [(.int (6 : Int32)), (.ref b1), (.ref b1)]))
  obtain ⟨T21, X21, e21, st21⟩ := getS2 X19 hx hZ hown (host := "") (Or.inl (hw _ (List.mem_of_getElem? (i := 16) rfl))) Via.refl e19 (G12.ext O19.2) (g := (mkF m 44 #[.val (.int p0), .unset, .unset, .unset] [(.int (6 : Int32)), (.ref b1), (.ref b1)])) rfl (hb hby at_44)
  refine Go.by (fun _ => st21 _) ?_
  show Go p e below P (T21.setTop (mkF m 47 #[.val (.int p0), .unset, .unset, .unset] [(.ref wCOUNT), (.int (6 : Int32)), (.ref b1), (.ref b1)]))
  obtain ⟨cl22, Ar22, qc22, Sz22, Ng22, Hs22, Gf22⟩ := F20
  have hin22 : ¬ ((6 : Int32) < 0 ∨ cl22.slots.size ≤ ((6 : Int32)).toNatClampNeg) := inb_of Sz22 ⟨by decide, by decide⟩
  obtain ⟨T22, h22, X22, e22, W22, st22⟩ := stR X21 hx hZ e21 Ar22 (j := (6 : Int32)) hin22 rfl (Sto.ofV Ar22 qc22 Ov1 (Ins.self (G13.ext O19.2))) (g := (mkF m 47 #[.val (.int p0), .unset, .unset, .unset] [(.ref wCOUNT), (.int (6 : Int32)), (.ref b1), (.ref b1)])) rfl rfl (hb hby at_47)
  refine Go.by (fun _ => st22 _) ?_
  have O22 := O19.wr W22 g_b1
  have Z22 : n0 ≤ h22.size := Nat.le_trans Z19 (Keep.of_wr W22).1
  have F23 : Arv Z h22 b1 k1 (.object "com/example/gofyn/gofyn/keyword/Degree") (7 : Int32) [(.ref wNONE), (.ref wPLAIN), (.ref wGREATER), (.ref wLESSER), (.ref wMOST), (.ref wLEAST), (.ref wCOUNT)] .null := Arv.set Ar22 qc22 Sz22 Ng22 Hs22 Gf22 rfl W22 6 rfl (Nat.le_of_ble_eq_true rfl)
  have N22 := Fr.snoc X22 N19 g_b1
  show Go p e below P (T22.setTop (mkF m 48 #[.val (.int p0), .unset, .unset, .unset] [(.ref b1)]))
  refine Go.by (fun _ => XS.astoreN X22.here hx rfl (hb hby at_48) rfl rfl (l' := #[.val (.int p0), .val (.ref b1), .unset, .unset]) rfl) ?_
  show Go p e below P (T22.setTop (mkF m 49 #[.val (.int p0), .val (.ref b1), .unset, .unset] []))
  refine Go.by (fun _ => XS.bipush X22.here hx rfl (hb hby at_49)) ?_
  show Go p e below P (T22.setTop (mkF m 51 #[.val (.int p0), .val (.ref b1), .unset, .unset] [(.int (7 : Int32))]))
  obtain ⟨T24, h24, k24, X24, e24, E24, A24, st24⟩ := newP X22 hx hZ (hw _ (List.mem_of_getElem? (i := 18) rfl)) e22 (g := (mkF m 51 #[.val (.int p0), .val (.ref b1), .unset, .unset] [(.int (7 : Int32))])) rfl (hb hby at_51) rfl (by decide) (cap := 7) (by decide) (Nat.le_of_ble_eq_true rfl) (Nat.le_of_ble_eq_true rfl) (Nat.le_of_ble_eq_true rfl)
  obtain ⟨b24, q24⟩ : ∃ z, z = h22.size := ⟨_, rfl⟩
  rw [← q24] at A24 st24
  refine Go.by (fun _ => st24 _) ?_
  have ne_b1_b24 : b1 ≠ b24 := Nat.ne_of_lt (Nat.lt_of_lt_of_le F23.lt (Nat.le_of_eq q24.symm))
  have g_b24 : n0 ≤ b24 := Nat.le_trans Z22 (Nat.le_of_eq q24.symm)
  have F25 : Arv Z h24 b1 k1 (.object "com/example/gofyn/gofyn/keyword/Degree") (7 : Int32) [(.ref wNONE), (.ref wPLAIN), (.ref wGREATER), (.ref wLESSER), (.ref wMOST), (.ref wLEAST), (.ref wCOUNT)] .null := F23.ext E24
  have O24 := O22.ext E24
  have Z24 : n0 ≤ h24.size := Nat.le_trans Z22 E24.1
  have F26 : Arv Z h24 b24 k24 .boolean (7 : Int32) [(.int (0 : Int32)), (.int (0 : Int32)), (.int (0 : Int32)), (.int (0 : Int32)), (.int (0 : Int32)), (.int (0 : Int32)), (.int (0 : Int32))] (.int (0 : Int32)) := (Arv.new A24 (by decide)).pad (pad_rep [] (.int (0 : Int32)) 7)
  show Go p e below P (T24.setTop (mkF m 53 #[.val (.int p0), .val (.ref b1), .unset, .unset] [(.ref b24)]))
  refine Go.by (fun _ => XS.dup X24.here hx rfl (hb hby at_53) rfl rfl) ?_
  show Go p e below P (T24.setTop (mkF m 54 #[.val (.int p0), .val (.ref b1), .unset, .unset] [(.ref b24), (.ref b24)]))
  refine Go.by (fun _ => XS.iconst X24.here hx rfl (hb hby at_54)) ?_
  show Go p e below P (T24.setTop (mkF m 55 #[.val (.int p0), .val (.ref b1), .unset, .unset] [(.int (0 : Int32)), (.ref b24), (.ref b24)]))
  refine Go.by (fun _ => XS.iconst X24.here hx rfl (hb hby at_55)) ?_
  show Go p e below P (T24.setTop (mkF m 56 #[.val (.int p0), .val (.ref b1), .unset, .unset] [(.int (0 : Int32)), (.int (0 : Int32)), (.ref b24), (.ref b24)]))
  obtain ⟨cl27, Ar27, qc27, Sz27, Ng27, Hs27, Gf27⟩ := F26
  have hin27 : ¬ ((0 : Int32) < 0 ∨ cl27.slots.size ≤ ((0 : Int32)).toNatClampNeg) := inb_of Sz27 ⟨by decide, by decide⟩
  obtain ⟨T27, h27, X27, e27, W27, st27⟩ := stZ X24 hx hZ e24 Ar27 (j := (0 : Int32)) hin27 (g := (mkF m 56 #[.val (.int p0), .val (.ref b1), .unset, .unset] [(.int (0 : Int32)), (.int (0 : Int32)), (.ref b24), (.ref b24)])) rfl rfl (hb hby at_56)
  refine Go.by (fun _ => st27 _) ?_
  have F28 : Arv Z h27 b1 k1 (.object "com/example/gofyn/gofyn/keyword/Degree") (7 : Int32) [(.ref wNONE), (.ref wPLAIN), (.ref wGREATER), (.ref wLESSER), (.ref wMOST), (.ref wLEAST), (.ref wCOUNT)] .null := F25.other W27 ne_b1_b24
  have O27 := O24.wr W27 g_b24
  have Z27 : n0 ≤ h27.size := Nat.le_trans Z24 (Keep.of_wr W27).1
  have F29 : Arv Z h27 b24 k24 .boolean (7 : Int32) [(.int (0 : Int32)), (.int (0 : Int32)), (.int (0 : Int32)), (.int (0 : Int32)), (.int (0 : Int32)), (.int (0 : Int32)), (.int (0 : Int32))] (.int (0 : Int32)) := Arv.set Ar27 qc27 Sz27 Ng27 Hs27 Gf27 (fits_nar_bool _) W27 0 rfl (Nat.le_of_ble_eq_true rfl)
  have N27 := Fr.snoc X27 N22 g_b24
  show Go p e below P (T27.setTop (mkF m 57 #[.val (.int p0), .val (.ref b1), .unset, .unset] [(.ref b24)]))
  refine Go.by (fun _ => XS.dup X27.here hx rfl (hb hby at_57) rfl rfl) ?_
  show Go p e below P (T27.setTop (mkF m 58 #[.val (.int p0), .val (.ref b1), .unset, .unset] [(.ref b24), (.ref b24)]))
  refine Go.by (fun _ => XS.iconst X27.here hx rfl (hb hby at_58)) ?_
  show Go p e below P (T27.setTop (mkF m 59 #[.val (.int p0), .val (.ref b1), .unset, .unset] [(.int (1 : Int32)), (.ref b24), (.ref b24)]))
  refine Go.by (fun _ => XS.iconst X27.here hx rfl (hb hby at_59)) ?_
  show Go p e below P (T27.setTop (mkF m 60 #[.val (.int p0), .val (.ref b1), .unset, .unset] [(.int (0 : Int32)), (.int (1 : Int32)), (.ref b24), (.ref b24)]))
  obtain ⟨cl30, Ar30, qc30, Sz30, Ng30, Hs30, Gf30⟩ := F29
  have hin30 : ¬ ((1 : Int32) < 0 ∨ cl30.slots.size ≤ ((1 : Int32)).toNatClampNeg) := inb_of Sz30 ⟨by decide, by decide⟩
  obtain ⟨T30, h30, X30, e30, W30, st30⟩ := stZ X27 hx hZ e27 Ar30 (j := (1 : Int32)) hin30 (g := (mkF m 60 #[.val (.int p0), .val (.ref b1), .unset, .unset] [(.int (0 : Int32)), (.int (1 : Int32)), (.ref b24), (.ref b24)])) rfl rfl (hb hby at_60)
  refine Go.by (fun _ => st30 _) ?_
  have F31 : Arv Z h30 b1 k1 (.object "com/example/gofyn/gofyn/keyword/Degree") (7 : Int32) [(.ref wNONE), (.ref wPLAIN), (.ref wGREATER), (.ref wLESSER), (.ref wMOST), (.ref wLEAST), (.ref wCOUNT)] .null := F28.other W30 ne_b1_b24
  have O30 := O27.wr W30 g_b24
  have Z30 : n0 ≤ h30.size := Nat.le_trans Z27 (Keep.of_wr W30).1
  have F32 : Arv Z h30 b24 k24 .boolean (7 : Int32) [(.int (0 : Int32)), (.int (0 : Int32)), (.int (0 : Int32)), (.int (0 : Int32)), (.int (0 : Int32)), (.int (0 : Int32)), (.int (0 : Int32))] (.int (0 : Int32)) := Arv.set Ar30 qc30 Sz30 Ng30 Hs30 Gf30 (fits_nar_bool _) W30 1 rfl (Nat.le_of_ble_eq_true rfl)
  have N30 := Fr.snoc X30 N27 g_b24
  show Go p e below P (T30.setTop (mkF m 61 #[.val (.int p0), .val (.ref b1), .unset, .unset] [(.ref b24)]))
  refine Go.by (fun _ => XS.dup X30.here hx rfl (hb hby at_61) rfl rfl) ?_
  show Go p e below P (T30.setTop (mkF m 62 #[.val (.int p0), .val (.ref b1), .unset, .unset] [(.ref b24), (.ref b24)]))
  refine Go.by (fun _ => XS.iconst X30.here hx rfl (hb hby at_62)) ?_
  show Go p e below P (T30.setTop (mkF m 63 #[.val (.int p0), .val (.ref b1), .unset, .unset] [(.int (2 : Int32)), (.ref b24), (.ref b24)]))
  refine Go.by (fun _ => XS.iconst X30.here hx rfl (hb hby at_63)) ?_
  show Go p e below P (T30.setTop (mkF m 64 #[.val (.int p0), .val (.ref b1), .unset, .unset] [(.int (1 : Int32)), (.int (2 : Int32)), (.ref b24), (.ref b24)]))
  obtain ⟨cl33, Ar33, qc33, Sz33, Ng33, Hs33, Gf33⟩ := F32
  have hin33 : ¬ ((2 : Int32) < 0 ∨ cl33.slots.size ≤ ((2 : Int32)).toNatClampNeg) := inb_of Sz33 ⟨by decide, by decide⟩
  obtain ⟨T33, h33, X33, e33, W33, st33⟩ := stZ X30 hx hZ e30 Ar33 (j := (2 : Int32)) hin33 (g := (mkF m 64 #[.val (.int p0), .val (.ref b1), .unset, .unset] [(.int (1 : Int32)), (.int (2 : Int32)), (.ref b24), (.ref b24)])) rfl rfl (hb hby at_64)
  refine Go.by (fun _ => st33 _) ?_
  have F34 : Arv Z h33 b1 k1 (.object "com/example/gofyn/gofyn/keyword/Degree") (7 : Int32) [(.ref wNONE), (.ref wPLAIN), (.ref wGREATER), (.ref wLESSER), (.ref wMOST), (.ref wLEAST), (.ref wCOUNT)] .null := F31.other W33 ne_b1_b24
  have O33 := O30.wr W33 g_b24
  have Z33 : n0 ≤ h33.size := Nat.le_trans Z30 (Keep.of_wr W33).1
  have F35 : Arv Z h33 b24 k24 .boolean (7 : Int32) [(.int (0 : Int32)), (.int (0 : Int32)), (.int (1 : Int32)), (.int (0 : Int32)), (.int (0 : Int32)), (.int (0 : Int32)), (.int (0 : Int32))] (.int (0 : Int32)) := Arv.set Ar33 qc33 Sz33 Ng33 Hs33 Gf33 (fits_nar_bool _) W33 2 rfl (Nat.le_of_ble_eq_true rfl)
  have N33 := Fr.snoc X33 N30 g_b24
  show Go p e below P (T33.setTop (mkF m 65 #[.val (.int p0), .val (.ref b1), .unset, .unset] [(.ref b24)]))
  refine Go.by (fun _ => XS.dup X33.here hx rfl (hb hby at_65) rfl rfl) ?_
  show Go p e below P (T33.setTop (mkF m 66 #[.val (.int p0), .val (.ref b1), .unset, .unset] [(.ref b24), (.ref b24)]))
  refine Go.by (fun _ => XS.iconst X33.here hx rfl (hb hby at_66)) ?_
  show Go p e below P (T33.setTop (mkF m 67 #[.val (.int p0), .val (.ref b1), .unset, .unset] [(.int (3 : Int32)), (.ref b24), (.ref b24)]))
  refine Go.by (fun _ => XS.iconst X33.here hx rfl (hb hby at_67)) ?_
  show Go p e below P (T33.setTop (mkF m 68 #[.val (.int p0), .val (.ref b1), .unset, .unset] [(.int (0 : Int32)), (.int (3 : Int32)), (.ref b24), (.ref b24)]))
  obtain ⟨cl36, Ar36, qc36, Sz36, Ng36, Hs36, Gf36⟩ := F35
  have hin36 : ¬ ((3 : Int32) < 0 ∨ cl36.slots.size ≤ ((3 : Int32)).toNatClampNeg) := inb_of Sz36 ⟨by decide, by decide⟩
  obtain ⟨T36, h36, X36, e36, W36, st36⟩ := stZ X33 hx hZ e33 Ar36 (j := (3 : Int32)) hin36 (g := (mkF m 68 #[.val (.int p0), .val (.ref b1), .unset, .unset] [(.int (0 : Int32)), (.int (3 : Int32)), (.ref b24), (.ref b24)])) rfl rfl (hb hby at_68)
  refine Go.by (fun _ => st36 _) ?_
  have F37 : Arv Z h36 b1 k1 (.object "com/example/gofyn/gofyn/keyword/Degree") (7 : Int32) [(.ref wNONE), (.ref wPLAIN), (.ref wGREATER), (.ref wLESSER), (.ref wMOST), (.ref wLEAST), (.ref wCOUNT)] .null := F34.other W36 ne_b1_b24
  have O36 := O33.wr W36 g_b24
  have Z36 : n0 ≤ h36.size := Nat.le_trans Z33 (Keep.of_wr W36).1
  have F38 : Arv Z h36 b24 k24 .boolean (7 : Int32) [(.int (0 : Int32)), (.int (0 : Int32)), (.int (1 : Int32)), (.int (0 : Int32)), (.int (0 : Int32)), (.int (0 : Int32)), (.int (0 : Int32))] (.int (0 : Int32)) := Arv.set Ar36 qc36 Sz36 Ng36 Hs36 Gf36 (fits_nar_bool _) W36 3 rfl (Nat.le_of_ble_eq_true rfl)
  have N36 := Fr.snoc X36 N33 g_b24
  show Go p e below P (T36.setTop (mkF m 69 #[.val (.int p0), .val (.ref b1), .unset, .unset] [(.ref b24)]))
  refine Go.by (fun _ => XS.dup X36.here hx rfl (hb hby at_69) rfl rfl) ?_
  show Go p e below P (T36.setTop (mkF m 70 #[.val (.int p0), .val (.ref b1), .unset, .unset] [(.ref b24), (.ref b24)]))
  refine Go.by (fun _ => XS.iconst X36.here hx rfl (hb hby at_70)) ?_
  show Go p e below P (T36.setTop (mkF m 71 #[.val (.int p0), .val (.ref b1), .unset, .unset] [(.int (4 : Int32)), (.ref b24), (.ref b24)]))
  refine Go.by (fun _ => XS.iconst X36.here hx rfl (hb hby at_71)) ?_
  show Go p e below P (T36.setTop (mkF m 72 #[.val (.int p0), .val (.ref b1), .unset, .unset] [(.int (1 : Int32)), (.int (4 : Int32)), (.ref b24), (.ref b24)]))
  obtain ⟨cl39, Ar39, qc39, Sz39, Ng39, Hs39, Gf39⟩ := F38
  have hin39 : ¬ ((4 : Int32) < 0 ∨ cl39.slots.size ≤ ((4 : Int32)).toNatClampNeg) := inb_of Sz39 ⟨by decide, by decide⟩
  obtain ⟨T39, h39, X39, e39, W39, st39⟩ := stZ X36 hx hZ e36 Ar39 (j := (4 : Int32)) hin39 (g := (mkF m 72 #[.val (.int p0), .val (.ref b1), .unset, .unset] [(.int (1 : Int32)), (.int (4 : Int32)), (.ref b24), (.ref b24)])) rfl rfl (hb hby at_72)
  refine Go.by (fun _ => st39 _) ?_
  have F40 : Arv Z h39 b1 k1 (.object "com/example/gofyn/gofyn/keyword/Degree") (7 : Int32) [(.ref wNONE), (.ref wPLAIN), (.ref wGREATER), (.ref wLESSER), (.ref wMOST), (.ref wLEAST), (.ref wCOUNT)] .null := F37.other W39 ne_b1_b24
  have O39 := O36.wr W39 g_b24
  have Z39 : n0 ≤ h39.size := Nat.le_trans Z36 (Keep.of_wr W39).1
  have F41 : Arv Z h39 b24 k24 .boolean (7 : Int32) [(.int (0 : Int32)), (.int (0 : Int32)), (.int (1 : Int32)), (.int (0 : Int32)), (.int (1 : Int32)), (.int (0 : Int32)), (.int (0 : Int32))] (.int (0 : Int32)) := Arv.set Ar39 qc39 Sz39 Ng39 Hs39 Gf39 (fits_nar_bool _) W39 4 rfl (Nat.le_of_ble_eq_true rfl)
  have N39 := Fr.snoc X39 N36 g_b24
  show Go p e below P (T39.setTop (mkF m 73 #[.val (.int p0), .val (.ref b1), .unset, .unset] [(.ref b24)]))
  refine Go.by (fun _ => XS.dup X39.here hx rfl (hb hby at_73) rfl rfl) ?_
  show Go p e below P (T39.setTop (mkF m 74 #[.val (.int p0), .val (.ref b1), .unset, .unset] [(.ref b24), (.ref b24)]))
  refine Go.by (fun _ => XS.iconst X39.here hx rfl (hb hby at_74)) ?_
  show Go p e below P (T39.setTop (mkF m 75 #[.val (.int p0), .val (.ref b1), .unset, .unset] [(.int (5 : Int32)), (.ref b24), (.ref b24)]))
  refine Go.by (fun _ => XS.iconst X39.here hx rfl (hb hby at_75)) ?_
  show Go p e below P (T39.setTop (mkF m 76 #[.val (.int p0), .val (.ref b1), .unset, .unset] [(.int (0 : Int32)), (.int (5 : Int32)), (.ref b24), (.ref b24)]))
  obtain ⟨cl42, Ar42, qc42, Sz42, Ng42, Hs42, Gf42⟩ := F41
  have hin42 : ¬ ((5 : Int32) < 0 ∨ cl42.slots.size ≤ ((5 : Int32)).toNatClampNeg) := inb_of Sz42 ⟨by decide, by decide⟩
  obtain ⟨T42, h42, X42, e42, W42, st42⟩ := stZ X39 hx hZ e39 Ar42 (j := (5 : Int32)) hin42 (g := (mkF m 76 #[.val (.int p0), .val (.ref b1), .unset, .unset] [(.int (0 : Int32)), (.int (5 : Int32)), (.ref b24), (.ref b24)])) rfl rfl (hb hby at_76)
  refine Go.by (fun _ => st42 _) ?_
  have F43 : Arv Z h42 b1 k1 (.object "com/example/gofyn/gofyn/keyword/Degree") (7 : Int32) [(.ref wNONE), (.ref wPLAIN), (.ref wGREATER), (.ref wLESSER), (.ref wMOST), (.ref wLEAST), (.ref wCOUNT)] .null := F40.other W42 ne_b1_b24
  have O42 := O39.wr W42 g_b24
  have Z42 : n0 ≤ h42.size := Nat.le_trans Z39 (Keep.of_wr W42).1
  have F44 : Arv Z h42 b24 k24 .boolean (7 : Int32) [(.int (0 : Int32)), (.int (0 : Int32)), (.int (1 : Int32)), (.int (0 : Int32)), (.int (1 : Int32)), (.int (0 : Int32)), (.int (0 : Int32))] (.int (0 : Int32)) := Arv.set Ar42 qc42 Sz42 Ng42 Hs42 Gf42 (fits_nar_bool _) W42 5 rfl (Nat.le_of_ble_eq_true rfl)
  have N42 := Fr.snoc X42 N39 g_b24
  show Go p e below P (T42.setTop (mkF m 77 #[.val (.int p0), .val (.ref b1), .unset, .unset] [(.ref b24)]))
  refine Go.by (fun _ => XS.dup X42.here hx rfl (hb hby at_77) rfl rfl) ?_
  show Go p e below P (T42.setTop (mkF m 78 #[.val (.int p0), .val (.ref b1), .unset, .unset] [(.ref b24), (.ref b24)]))
  refine Go.by (fun _ => XS.bipush X42.here hx rfl (hb hby at_78)) ?_
  show Go p e below P (T42.setTop (mkF m 80 #[.val (.int p0), .val (.ref b1), .unset, .unset] [(.int (6 : Int32)), (.ref b24), (.ref b24)]))
  refine Go.by (fun _ => XS.iconst X42.here hx rfl (hb hby at_80)) ?_
  show Go p e below P (T42.setTop (mkF m 81 #[.val (.int p0), .val (.ref b1), .unset, .unset] [(.int (0 : Int32)), (.int (6 : Int32)), (.ref b24), (.ref b24)]))
  obtain ⟨cl45, Ar45, qc45, Sz45, Ng45, Hs45, Gf45⟩ := F44
  have hin45 : ¬ ((6 : Int32) < 0 ∨ cl45.slots.size ≤ ((6 : Int32)).toNatClampNeg) := inb_of Sz45 ⟨by decide, by decide⟩
  obtain ⟨T45, h45, X45, e45, W45, st45⟩ := stZ X42 hx hZ e42 Ar45 (j := (6 : Int32)) hin45 (g := (mkF m 81 #[.val (.int p0), .val (.ref b1), .unset, .unset] [(.int (0 : Int32)), (.int (6 : Int32)), (.ref b24), (.ref b24)])) rfl rfl (hb hby at_81)
  refine Go.by (fun _ => st45 _) ?_
  have F46 : Arv Z h45 b1 k1 (.object "com/example/gofyn/gofyn/keyword/Degree") (7 : Int32) [(.ref wNONE), (.ref wPLAIN), (.ref wGREATER), (.ref wLESSER), (.ref wMOST), (.ref wLEAST), (.ref wCOUNT)] .null := F43.other W45 ne_b1_b24
  have O45 := O42.wr W45 g_b24
  have Z45 : n0 ≤ h45.size := Nat.le_trans Z42 (Keep.of_wr W45).1
  have F47 : Arv Z h45 b24 k24 .boolean (7 : Int32) [(.int (0 : Int32)), (.int (0 : Int32)), (.int (1 : Int32)), (.int (0 : Int32)), (.int (1 : Int32)), (.int (0 : Int32)), (.int (0 : Int32))] (.int (0 : Int32)) := Arv.set Ar45 qc45 Sz45 Ng45 Hs45 Gf45 (fits_nar_bool _) W45 6 rfl (Nat.le_of_ble_eq_true rfl)
  have N45 := Fr.snoc X45 N42 g_b24
  show Go p e below P (T45.setTop (mkF m 82 #[.val (.int p0), .val (.ref b1), .unset, .unset] [(.ref b24)]))
  refine Go.by (fun _ => XS.astoreN X45.here hx rfl (hb hby at_82) rfl rfl (l' := #[.val (.int p0), .val (.ref b1), .val (.ref b24), .unset]) rfl) ?_
  show Go p e below P (T45.setTop (mkF m 83 #[.val (.int p0), .val (.ref b1), .val (.ref b24), .unset] []))
  refine Go.by (fun _ => XS.iloadN X45.here hx rfl (hb hby at_83) rfl) ?_
  show Go p e below P (T45.setTop (mkF m 84 #[.val (.int p0), .val (.ref b1), .val (.ref b24), .unset] [(.int p0)]))
  refine Go.by (fun _ => X45.ldcInt hx hown (mvT hZ (hw _ (List.mem_of_getElem? (i := 19) rfl))) (g := (mkF m 84 #[.val (.int p0), .val (.ref b1), .val (.ref b24), .unset] [(.int p0)])) rfl (hb hby at_84) _) ?_
  show Go p e below P (T45.setTop (mkF m 86 #[.val (.int p0), .val (.ref b1), .val (.ref b24), .unset] [(.int (2147483647 : Int32)), (.int p0)]))
  refine Go.by (fun _ => XS.iand X45.here hx rfl (hb hby at_86) rfl) ?_
  show Go p e below P (T45.setTop (mkF m 87 #[.val (.int p0), .val (.ref b1), .val (.ref b24), .unset] [(.int (p0 &&& (2147483647 : Int32)))]))
  refine Go.by (fun _ => XS.bipush X45.here hx rfl (hb hby at_87)) ?_
  show Go p e below P (T45.setTop (mkF m 89 #[.val (.int p0), .val (.ref b1), .val (.ref b24), .unset] [(.int (7 : Int32)), (.int (p0 &&& (2147483647 : Int32)))]))
  refine Go.by (fun _ => iremM X45 hx rfl (hb hby at_89) rfl (by decide)) ?_
  show Go p e below P (T45.setTop (mkF m 90 #[.val (.int p0), .val (.ref b1), .val (.ref b24), .unset] [(.int ((p0 &&& (2147483647 : Int32)) % (7 : Int32)))]))
  generalize hv_i : ((p0 &&& (2147483647 : Int32)) % (7 : Int32)) = i
  refine Go.by (fun _ => XS.istoreN X45.here hx rfl (hb hby at_90) rfl (l' := #[.val (.int p0), .val (.ref b1), .val (.ref b24), .val (.int i)]) rfl) ?_
  show Go p e below P (T45.setTop (mkF m 91 #[.val (.int p0), .val (.ref b1), .val (.ref b24), .val (.int i)] []))
  have hi := own_lt7 i (hv_i ▸ own_mod7 p0)
  rcases hi with rfl | rfl | rfl | rfl | rfl | rfl | rfl
  · show Go p e below P (T45.setTop (mkF m 91 #[.val (.int p0), .val (.ref b1), .val (.ref b24), .val (.int (0 : Int32))] []))
    refine Go.by (fun _ => XS.aloadN X45.here hx rfl (hb hby at_91) rfl rfl) ?_
    show Go p e below P (T45.setTop (mkF m 92 #[.val (.int p0), .val (.ref b1), .val (.ref b24), .val (.int (0 : Int32))] [(.ref b1)]))
    refine Go.by (fun _ => XS.iloadN X45.here hx rfl (hb hby at_92) rfl) ?_
    show Go p e below P (T45.setTop (mkF m 93 #[.val (.int p0), .val (.ref b1), .val (.ref b24), .val (.int (0 : Int32))] [(.int (0 : Int32)), (.ref b1)]))
    obtain ⟨cl48, Ar48, qc48, Sz48, Ng48, Hs48, Gf48⟩ := F46
    have hin48 : ¬ ((0 : Int32) < 0 ∨ cl48.slots.size ≤ ((0 : Int32)).toNatClampNeg) := inb_of Sz48 ⟨by decide, by decide⟩
    refine Go.by (fun _ => X45.aaload hx (j := (0 : Int32)) (v := (.ref wNONE)) (by rw [e45]; exact Ar48.1) (State.isArrayOf_alike hZ.alike Ar48.2.1) rfl Ar48.2.2 hin48 (Has.at Hs48 hin48 rfl) (g := (mkF m 93 #[.val (.int p0), .val (.ref b1), .val (.ref b24), .val (.int (0 : Int32))] [(.int (0 : Int32)), (.ref b1)])) rfl rfl (hb hby at_93) _) ?_
    show Go p e below P (T45.setTop (mkF m 94 #[.val (.int p0), .val (.ref b1), .val (.ref b24), .val (.int (0 : Int32))] [(.ref wNONE)]))
    obtain ⟨cq49, kq49, qa49, qb49, qc49⟩ := isOf hZ e45 (G1.ext O45.2)
    obtain ⟨_, _, ⟨T49, L49, k49, n49⟩, -, X49, ⟨Lc49, hQ49, l49, y49, z49⟩, st49⟩ := X45.virtualBack hx (y := (⟨"com/example/gofyn/gofyn/keyword/Degree", "isGreater", "()Z"⟩ : MethodName)) (z := (⟨"com/example/gofyn/gofyn/keyword/Degree", "isGreater", "()Z"⟩ : MethodName)) hown (mvT hZ (hw _ (List.mem_of_getElem? (i := 20) rfl))) (mvT hZ (hw _ (List.mem_of_getElem? (i := 21) rfl))) (notFace_of_selects (args := #[]) (mvT hZ (hw _ (List.mem_of_getElem? (i := 23) rfl)))) (mvT hZ (hw _ (List.mem_of_getElem? (i := 23) rfl))) (mvT hZ (hw _ (List.mem_of_getElem? (i := 22) rfl))) (by decide) (backOf (W := 0) (rm_gr l Z a0 hw [] wNONE wPLAIN wGREATER wLESSER wMOST wLEAST wCOUNT hG wNONE ((0 : Int32)) h45 n0 Z45 O45  (by simp [(Fld.ne G14 G15 (by decide)), (Fld.ne G14 G16 (by decide))])) hZ (hw _ (List.mem_of_getElem? (i := 24) rfl)) (hw _ (List.mem_of_getElem? (i := 3) rfl)) (Nat.le_of_ble_eq_true rfl) (Nat.le_of_ble_eq_true rfl)) qa49 qc49 (g := (mkF m 94 #[.val (.int p0), .val (.ref b1), .val (.ref b24), .val (.int (0 : Int32))] [(.ref wNONE)])) rfl (by rw [hml]; rfl) (Steps.refl _) (argsL := []) (rest := []) (lenOf pd_0 rfl) rfl (by show 2 * 0 + _ ≤ _; exact Nat.le_of_eq rfl) (hb hby at_94) (fun _ _ => ⟨rfl, e45, (Nat.le_of_ble_eq_true rfl : 2 + 0 ≤ _), (Nat.le_of_ble_eq_true rfl : 14 + 0 ≤ _)⟩)
    dsimp only [Pt.U, Pt.locs, Pt.cells, Pt.slots] at X49 l49 y49 z49 st49 hQ49
    subst l49 y49 z49
    obtain ⟨rfl, Nq49, eq49⟩ := hQ49
    have N49 := Fr.app N45 Nq49
    refine Go.by (fun _ k => st49.trans k) ?_
    show Go p e below P (T49.setTop (mkF m 97 #[.val (.int p0), .val (.ref b1), .val (.ref b24), .val (.int (0 : Int32))] [(.int (0 : Int32))]))
    refine Go.by (fun _ => XS.aloadN X49.here hx rfl (hb hby at_97) rfl rfl) ?_
    show Go p e below P (T49.setTop (mkF m 98 #[.val (.int p0), .val (.ref b1), .val (.ref b24), .val (.int (0 : Int32))] [(.ref b24), (.int (0 : Int32))]))
    refine Go.by (fun _ => XS.iloadN X49.here hx rfl (hb hby at_98) rfl) ?_
    show Go p e below P (T49.setTop (mkF m 99 #[.val (.int p0), .val (.ref b1), .val (.ref b24), .val (.int (0 : Int32))] [(.int (0 : Int32)), (.ref b24), (.int (0 : Int32))]))
    obtain ⟨cl50, Ar50, qc50, Sz50, Ng50, Hs50, Gf50⟩ := F47
    have hin50 : ¬ ((0 : Int32) < 0 ∨ cl50.slots.size ≤ ((0 : Int32)).toNatClampNeg) := inb_of Sz50 ⟨by decide, by decide⟩
    refine Go.by (fun _ => X49.baloadBooleans hx (j := (0 : Int32)) (v := (.int (0 : Int32))) (by rw [eq49]; exact Ar50.1) (State.isArrayOf_alike hZ.alike Ar50.2.1) Ar50.2.2 hin50 (Has.at Hs50 hin50 rfl) (g := (mkF m 99 #[.val (.int p0), .val (.ref b1), .val (.ref b24), .val (.int (0 : Int32))] [(.int (0 : Int32)), (.ref b24), (.int (0 : Int32))])) rfl rfl (hb hby at_99) _) ?_
    show Go p e below P (T49.setTop (mkF m 100 #[.val (.int p0), .val (.ref b1), .val (.ref b24), .val (.int (0 : Int32))] [(.int (0 : Int32)), (.int (0 : Int32))]))
    have hc100 : (0 : Int32) = (0 : Int32) := by decide
    refine Go.by (fun _ => XS.icmpNo X49.here hx rfl (hb hby at_100) rfl (teq hc100).2) ?_
    show Go p e below P (T49.setTop (mkF m 103 #[.val (.int p0), .val (.ref b1), .val (.ref b24), .val (.int (0 : Int32))] []))
    refine Go.by (fun _ => XS.iconst X49.here hx rfl (hb hby at_103)) ?_
    show Go p e below P (T49.setTop (mkF m 104 #[.val (.int p0), .val (.ref b1), .val (.ref b24), .val (.int (0 : Int32))] [(.int (1 : Int32))]))
    refine Go.by (fun _ => XS.goto X49.here hx rfl (pc0 := 104) (pc' := 108) rfl (hb hby at_104) (by decide) (by decide)) ?_
    show Go p e below P (T49.setTop (mkF m 108 #[.val (.int p0), .val (.ref b1), .val (.ref b24), .val (.int (0 : Int32))] [(.int (1 : Int32))]))
    subst hP
    refine Go.retZ X49 hx (t := .boolean) Bd.returns (by simp) hlk (hb hby at_108) (Nat.le_of_ble_eq_true rfl) (Nat.le_of_ble_eq_true rfl) ?_
    rw [eq49]
    exact ⟨rfl, N49⟩
  · show Go p e below P (T45.setTop (mkF m 91 #[.val (.int p0), .val (.ref b1), .val (.ref b24), .val (.int (1 : Int32))] []))
    refine Go.by (fun _ => XS.aloadN X45.here hx rfl (hb hby at_91) rfl rfl) ?_
    show Go p e below P (T45.setTop (mkF m 92 #[.val (.int p0), .val (.ref b1), .val (.ref b24), .val (.int (1 : Int32))] [(.ref b1)]))
    refine Go.by (fun _ => XS.iloadN X45.here hx rfl (hb hby at_92) rfl) ?_
    show Go p e below P (T45.setTop (mkF m 93 #[.val (.int p0), .val (.ref b1), .val (.ref b24), .val (.int (1 : Int32))] [(.int (1 : Int32)), (.ref b1)]))
    obtain ⟨cl51, Ar51, qc51, Sz51, Ng51, Hs51, Gf51⟩ := F46
    have hin51 : ¬ ((1 : Int32) < 0 ∨ cl51.slots.size ≤ ((1 : Int32)).toNatClampNeg) := inb_of Sz51 ⟨by decide, by decide⟩
    refine Go.by (fun _ => X45.aaload hx (j := (1 : Int32)) (v := (.ref wPLAIN)) (by rw [e45]; exact Ar51.1) (State.isArrayOf_alike hZ.alike Ar51.2.1) rfl Ar51.2.2 hin51 (Has.at Hs51 hin51 rfl) (g := (mkF m 93 #[.val (.int p0), .val (.ref b1), .val (.ref b24), .val (.int (1 : Int32))] [(.int (1 : Int32)), (.ref b1)])) rfl rfl (hb hby at_93) _) ?_
    show Go p e below P (T45.setTop (mkF m 94 #[.val (.int p0), .val (.ref b1), .val (.ref b24), .val (.int (1 : Int32))] [(.ref wPLAIN)]))
    obtain ⟨cq52, kq52, qa52, qb52, qc52⟩ := isOf hZ e45 (G3.ext O45.2)
    obtain ⟨_, _, ⟨T52, L52, k52, n52⟩, -, X52, ⟨Lc52, hQ52, l52, y52, z52⟩, st52⟩ := X45.virtualBack hx (y := (⟨"com/example/gofyn/gofyn/keyword/Degree", "isGreater", "()Z"⟩ : MethodName)) (z := (⟨"com/example/gofyn/gofyn/keyword/Degree", "isGreater", "()Z"⟩ : MethodName)) hown (mvT hZ (hw _ (List.mem_of_getElem? (i := 20) rfl))) (mvT hZ (hw _ (List.mem_of_getElem? (i := 21) rfl))) (notFace_of_selects (args := #[]) (mvT hZ (hw _ (List.mem_of_getElem? (i := 23) rfl)))) (mvT hZ (hw _ (List.mem_of_getElem? (i := 23) rfl))) (mvT hZ (hw _ (List.mem_of_getElem? (i := 22) rfl))) (by decide) (backOf (W := 0) (rm_gr l Z a0 hw [] wNONE wPLAIN wGREATER wLESSER wMOST wLEAST wCOUNT hG wPLAIN ((0 : Int32)) h45 n0 Z45 O45  (by simp [(Fld.ne G20 G15 (by decide)), (Fld.ne G20 G16 (by decide))])) hZ (hw _ (List.mem_of_getElem? (i := 24) rfl)) (hw _ (List.mem_of_getElem? (i := 3) rfl)) (Nat.le_of_ble_eq_true rfl) (Nat.le_of_ble_eq_true rfl)) qa52 qc52 (g := (mkF m 94 #[.val (.int p0), .val (.ref b1), .val (.ref b24), .val (.int (1 : Int32))] [(.ref wPLAIN)])) rfl (by rw [hml]; rfl) (Steps.refl _) (argsL := []) (rest := []) (lenOf pd_0 rfl) rfl (by show 2 * 0 + _ ≤ _; exact Nat.le_of_eq rfl) (hb hby at_94) (fun _ _ => ⟨rfl, e45, (Nat.le_of_ble_eq_true rfl : 2 + 0 ≤ _), (Nat.le_of_ble_eq_true rfl : 14 + 0 ≤ _)⟩)
    dsimp only [Pt.U, Pt.locs, Pt.cells, Pt.slots] at X52 l52 y52 z52 st52 hQ52
    subst l52 y52 z52
    obtain ⟨rfl, Nq52, eq52⟩ := hQ52
    have N52 := Fr.app N45 Nq52
    refine Go.by (fun _ k => st52.trans k) ?_
    show Go p e below P (T52.setTop (mkF m 97 #[.val (.int p0), .val (.ref b1), .val (.ref b24), .val (.int (1 : Int32))] [(.int (0 : Int32))]))
    refine Go.by (fun _ => XS.aloadN X52.here hx rfl (hb hby at_97) rfl rfl) ?_
    show Go p e below P (T52.setTop (mkF m 98 #[.val (.int p0), .val (.ref b1), .val (.ref b24), .val (.int (1 : Int32))] [(.ref b24), (.int (0 : Int32))]))
    refine Go.by (fun _ => XS.iloadN X52.here hx rfl (hb hby at_98) rfl) ?_
    show Go p e below P (T52.setTop (mkF m 99 #[.val (.int p0), .val (.ref b1), .val (.ref b24), .val (.int (1 : Int32))] [(.int (1 : Int32)), (.ref b24), (.int (0 : Int32))]))
    obtain ⟨cl53, Ar53, qc53, Sz53, Ng53, Hs53, Gf53⟩ := F47
    have hin53 : ¬ ((1 : Int32) < 0 ∨ cl53.slots.size ≤ ((1 : Int32)).toNatClampNeg) := inb_of Sz53 ⟨by decide, by decide⟩
    refine Go.by (fun _ => X52.baloadBooleans hx (j := (1 : Int32)) (v := (.int (0 : Int32))) (by rw [eq52]; exact Ar53.1) (State.isArrayOf_alike hZ.alike Ar53.2.1) Ar53.2.2 hin53 (Has.at Hs53 hin53 rfl) (g := (mkF m 99 #[.val (.int p0), .val (.ref b1), .val (.ref b24), .val (.int (1 : Int32))] [(.int (1 : Int32)), (.ref b24), (.int (0 : Int32))])) rfl rfl (hb hby at_99) _) ?_
    show Go p e below P (T52.setTop (mkF m 100 #[.val (.int p0), .val (.ref b1), .val (.ref b24), .val (.int (1 : Int32))] [(.int (0 : Int32)), (.int (0 : Int32))]))
    have hc100 : (0 : Int32) = (0 : Int32) := by decide
    refine Go.by (fun _ => XS.icmpNo X52.here hx rfl (hb hby at_100) rfl (teq hc100).2) ?_
    show Go p e below P (T52.setTop (mkF m 103 #[.val (.int p0), .val (.ref b1), .val (.ref b24), .val (.int (1 : Int32))] []))
    refine Go.by (fun _ => XS.iconst X52.here hx rfl (hb hby at_103)) ?_
    show Go p e below P (T52.setTop (mkF m 104 #[.val (.int p0), .val (.ref b1), .val (.ref b24), .val (.int (1 : Int32))] [(.int (1 : Int32))]))
    refine Go.by (fun _ => XS.goto X52.here hx rfl (pc0 := 104) (pc' := 108) rfl (hb hby at_104) (by decide) (by decide)) ?_
    show Go p e below P (T52.setTop (mkF m 108 #[.val (.int p0), .val (.ref b1), .val (.ref b24), .val (.int (1 : Int32))] [(.int (1 : Int32))]))
    subst hP
    refine Go.retZ X52 hx (t := .boolean) Bd.returns (by simp) hlk (hb hby at_108) (Nat.le_of_ble_eq_true rfl) (Nat.le_of_ble_eq_true rfl) ?_
    rw [eq52]
    exact ⟨rfl, N52⟩
  · show Go p e below P (T45.setTop (mkF m 91 #[.val (.int p0), .val (.ref b1), .val (.ref b24), .val (.int (2 : Int32))] []))
    refine Go.by (fun _ => XS.aloadN X45.here hx rfl (hb hby at_91) rfl rfl) ?_
    show Go p e below P (T45.setTop (mkF m 92 #[.val (.int p0), .val (.ref b1), .val (.ref b24), .val (.int (2 : Int32))] [(.ref b1)]))
    refine Go.by (fun _ => XS.iloadN X45.here hx rfl (hb hby at_92) rfl) ?_
    show Go p e below P (T45.setTop (mkF m 93 #[.val (.int p0), .val (.ref b1), .val (.ref b24), .val (.int (2 : Int32))] [(.int (2 : Int32)), (.ref b1)]))
    obtain ⟨cl54, Ar54, qc54, Sz54, Ng54, Hs54, Gf54⟩ := F46
    have hin54 : ¬ ((2 : Int32) < 0 ∨ cl54.slots.size ≤ ((2 : Int32)).toNatClampNeg) := inb_of Sz54 ⟨by decide, by decide⟩
    refine Go.by (fun _ => X45.aaload hx (j := (2 : Int32)) (v := (.ref wGREATER)) (by rw [e45]; exact Ar54.1) (State.isArrayOf_alike hZ.alike Ar54.2.1) rfl Ar54.2.2 hin54 (Has.at Hs54 hin54 rfl) (g := (mkF m 93 #[.val (.int p0), .val (.ref b1), .val (.ref b24), .val (.int (2 : Int32))] [(.int (2 : Int32)), (.ref b1)])) rfl rfl (hb hby at_93) _) ?_
    show Go p e below P (T45.setTop (mkF m 94 #[.val (.int p0), .val (.ref b1), .val (.ref b24), .val (.int (2 : Int32))] [(.ref wGREATER)]))
    obtain ⟨cq55, kq55, qa55, qb55, qc55⟩ := isOf hZ e45 (G5.ext O45.2)
    obtain ⟨_, _, ⟨T55, L55, k55, n55⟩, -, X55, ⟨Lc55, hQ55, l55, y55, z55⟩, st55⟩ := X45.virtualBack hx (y := (⟨"com/example/gofyn/gofyn/keyword/Degree", "isGreater", "()Z"⟩ : MethodName)) (z := (⟨"com/example/gofyn/gofyn/keyword/Degree", "isGreater", "()Z"⟩ : MethodName)) hown (mvT hZ (hw _ (List.mem_of_getElem? (i := 20) rfl))) (mvT hZ (hw _ (List.mem_of_getElem? (i := 21) rfl))) (notFace_of_selects (args := #[]) (mvT hZ (hw _ (List.mem_of_getElem? (i := 23) rfl)))) (mvT hZ (hw _ (List.mem_of_getElem? (i := 23) rfl))) (mvT hZ (hw _ (List.mem_of_getElem? (i := 22) rfl))) (by decide) (backOf (W := 0) (rm_gr l Z a0 hw [] wNONE wPLAIN wGREATER wLESSER wMOST wLEAST wCOUNT hG wGREATER ((1 : Int32)) h45 n0 Z45 O45  (by simp [(Fld.ne G15 G16 (by decide))])) hZ (hw _ (List.mem_of_getElem? (i := 24) rfl)) (hw _ (List.mem_of_getElem? (i := 3) rfl)) (Nat.le_of_ble_eq_true rfl) (Nat.le_of_ble_eq_true rfl)) qa55 qc55 (g := (mkF m 94 #[.val (.int p0), .val (.ref b1), .val (.ref b24), .val (.int (2 : Int32))] [(.ref wGREATER)])) rfl (by rw [hml]; rfl) (Steps.refl _) (argsL := []) (rest := []) (lenOf pd_0 rfl) rfl (by show 2 * 0 + _ ≤ _; exact Nat.le_of_eq rfl) (hb hby at_94) (fun _ _ => ⟨rfl, e45, (Nat.le_of_ble_eq_true rfl : 2 + 0 ≤ _), (Nat.le_of_ble_eq_true rfl : 14 + 0 ≤ _)⟩)
    dsimp only [Pt.U, Pt.locs, Pt.cells, Pt.slots] at X55 l55 y55 z55 st55 hQ55
    subst l55 y55 z55
    obtain ⟨rfl, Nq55, eq55⟩ := hQ55
    have N55 := Fr.app N45 Nq55
    refine Go.by (fun _ k => st55.trans k) ?_
    show Go p e below P (T55.setTop (mkF m 97 #[.val (.int p0), .val (.ref b1), .val (.ref b24), .val (.int (2 : Int32))] [(.int (1 : Int32))]))
    refine Go.by (fun _ => XS.aloadN X55.here hx rfl (hb hby at_97) rfl rfl) ?_
    show Go p e below P (T55.setTop (mkF m 98 #[.val (.int p0), .val (.ref b1), .val (.ref b24), .val (.int (2 : Int32))] [(.ref b24), (.int (1 : Int32))]))
    refine Go.by (fun _ => XS.iloadN X55.here hx rfl (hb hby at_98) rfl) ?_
    show Go p e below P (T55.setTop (mkF m 99 #[.val (.int p0), .val (.ref b1), .val (.ref b24), .val (.int (2 : Int32))] [(.int (2 : Int32)), (.ref b24), (.int (1 : Int32))]))
    obtain ⟨cl56, Ar56, qc56, Sz56, Ng56, Hs56, Gf56⟩ := F47
    have hin56 : ¬ ((2 : Int32) < 0 ∨ cl56.slots.size ≤ ((2 : Int32)).toNatClampNeg) := inb_of Sz56 ⟨by decide, by decide⟩
    refine Go.by (fun _ => X55.baloadBooleans hx (j := (2 : Int32)) (v := (.int (1 : Int32))) (by rw [eq55]; exact Ar56.1) (State.isArrayOf_alike hZ.alike Ar56.2.1) Ar56.2.2 hin56 (Has.at Hs56 hin56 rfl) (g := (mkF m 99 #[.val (.int p0), .val (.ref b1), .val (.ref b24), .val (.int (2 : Int32))] [(.int (2 : Int32)), (.ref b24), (.int (1 : Int32))])) rfl rfl (hb hby at_99) _) ?_
    show Go p e below P (T55.setTop (mkF m 100 #[.val (.int p0), .val (.ref b1), .val (.ref b24), .val (.int (2 : Int32))] [(.int (1 : Int32)), (.int (1 : Int32))]))
    have hc100 : (1 : Int32) = (1 : Int32) := by decide
    refine Go.by (fun _ => XS.icmpNo X55.here hx rfl (hb hby at_100) rfl (teq hc100).2) ?_
    show Go p e below P (T55.setTop (mkF m 103 #[.val (.int p0), .val (.ref b1), .val (.ref b24), .val (.int (2 : Int32))] []))
    refine Go.by (fun _ => XS.iconst X55.here hx rfl (hb hby at_103)) ?_
    show Go p e below P (T55.setTop (mkF m 104 #[.val (.int p0), .val (.ref b1), .val (.ref b24), .val (.int (2 : Int32))] [(.int (1 : Int32))]))
    refine Go.by (fun _ => XS.goto X55.here hx rfl (pc0 := 104) (pc' := 108) rfl (hb hby at_104) (by decide) (by decide)) ?_
    show Go p e below P (T55.setTop (mkF m 108 #[.val (.int p0), .val (.ref b1), .val (.ref b24), .val (.int (2 : Int32))] [(.int (1 : Int32))]))
    subst hP
    refine Go.retZ X55 hx (t := .boolean) Bd.returns (by simp) hlk (hb hby at_108) (Nat.le_of_ble_eq_true rfl) (Nat.le_of_ble_eq_true rfl) ?_
    rw [eq55]
    exact ⟨rfl, N55⟩
  · show Go p e below P (T45.setTop (mkF m 91 #[.val (.int p0), .val (.ref b1), .val (.ref b24), .val (.int (3 : Int32))] []))
    refine Go.by (fun _ => XS.aloadN X45.here hx rfl (hb hby at_91) rfl rfl) ?_
    show Go p e below P (T45.setTop (mkF m 92 #[.val (.int p0), .val (.ref b1), .val (.ref b24), .val (.int (3 : Int32))] [(.ref b1)]))
    refine Go.by (fun _ => XS.iloadN X45.here hx rfl (hb hby at_92) rfl) ?_
    show Go p e below P (T45.setTop (mkF m 93 #[.val (.int p0), .val (.ref b1), .val (.ref b24), .val (.int (3 : Int32))] [(.int (3 : Int32)), (.ref b1)]))
    obtain ⟨cl57, Ar57, qc57, Sz57, Ng57, Hs57, Gf57⟩ := F46
    have hin57 : ¬ ((3 : Int32) < 0 ∨ cl57.slots.size ≤ ((3 : Int32)).toNatClampNeg) := inb_of Sz57 ⟨by decide, by decide⟩
    refine Go.by (fun _ => X45.aaload hx (j := (3 : Int32)) (v := (.ref wLESSER)) (by rw [e45]; exact Ar57.1) (State.isArrayOf_alike hZ.alike Ar57.2.1) rfl Ar57.2.2 hin57 (Has.at Hs57 hin57 rfl) (g := (mkF m 93 #[.val (.int p0), .val (.ref b1), .val (.ref b24), .val (.int (3 : Int32))] [(.int (3 : Int32)), (.ref b1)])) rfl rfl (hb hby at_93) _) ?_
    show Go p e below P (T45.setTop (mkF m 94 #[.val (.int p0), .val (.ref b1), .val (.ref b24), .val (.int (3 : Int32))] [(.ref wLESSER)]))
    obtain ⟨cq58, kq58, qa58, qb58, qc58⟩ := isOf hZ e45 (G7.ext O45.2)
    obtain ⟨_, _, ⟨T58, L58, k58, n58⟩, -, X58, ⟨Lc58, hQ58, l58, y58, z58⟩, st58⟩ := X45.virtualBack hx (y := (⟨"com/example/gofyn/gofyn/keyword/Degree", "isGreater", "()Z"⟩ : MethodName)) (z := (⟨"com/example/gofyn/gofyn/keyword/Degree", "isGreater", "()Z"⟩ : MethodName)) hown (mvT hZ (hw _ (List.mem_of_getElem? (i := 20) rfl))) (mvT hZ (hw _ (List.mem_of_getElem? (i := 21) rfl))) (notFace_of_selects (args := #[]) (mvT hZ (hw _ (List.mem_of_getElem? (i := 23) rfl)))) (mvT hZ (hw _ (List.mem_of_getElem? (i := 23) rfl))) (mvT hZ (hw _ (List.mem_of_getElem? (i := 22) rfl))) (by decide) (backOf (W := 0) (rm_gr l Z a0 hw [] wNONE wPLAIN wGREATER wLESSER wMOST wLEAST wCOUNT hG wLESSER ((0 : Int32)) h45 n0 Z45 O45  (by simp [(Fld.ne G17 G15 (by decide)), (Fld.ne G17 G16 (by decide))])) hZ (hw _ (List.mem_of_getElem? (i := 24) rfl)) (hw _ (List.mem_of_getElem? (i := 3) rfl)) (Nat.le_of_ble_eq_true rfl) (Nat.le_of_ble_eq_true rfl)) qa58 qc58 (g := (mkF m 94 #[.val (.int p0), .val (.ref b1), .val (.ref b24), .val (.int (3 : Int32))] [(.ref wLESSER)])) rfl (by rw [hml]; rfl) (Steps.refl _) (argsL := []) (rest := []) (lenOf pd_0 rfl) rfl (by show 2 * 0 + _ ≤ _; exact Nat.le_of_eq rfl) (hb hby at_94) (fun _ _ => ⟨rfl, e45, (Nat.le_of_ble_eq_true rfl : 2 + 0 ≤ _), (Nat.le_of_ble_eq_true rfl : 14 + 0 ≤ _)⟩)
    dsimp only [Pt.U, Pt.locs, Pt.cells, Pt.slots] at X58 l58 y58 z58 st58 hQ58
    subst l58 y58 z58
    obtain ⟨rfl, Nq58, eq58⟩ := hQ58
    have N58 := Fr.app N45 Nq58
    refine Go.by (fun _ k => st58.trans k) ?_
    show Go p e below P (T58.setTop (mkF m 97 #[.val (.int p0), .val (.ref b1), .val (.ref b24), .val (.int (3 : Int32))] [(.int (0 : Int32))]))
    refine Go.by (fun _ => XS.aloadN X58.here hx rfl (hb hby at_97) rfl rfl) ?_
    show Go p e below P (T58.setTop (mkF m 98 #[.val (.int p0), .val (.ref b1), .val (.ref b24), .val (.int (3 : Int32))] [(.ref b24), (.int (0 : Int32))]))
    refine Go.by (fun _ => XS.iloadN X58.here hx rfl (hb hby at_98) rfl) ?_
    show Go p e below P (T58.setTop (mkF m 99 #[.val (.int p0), .val (.ref b1), .val (.ref b24), .val (.int (3 : Int32))] [(.int (3 : Int32)), (.ref b24), (.int (0 : Int32))]))
    obtain ⟨cl59, Ar59, qc59, Sz59, Ng59, Hs59, Gf59⟩ := F47
    have hin59 : ¬ ((3 : Int32) < 0 ∨ cl59.slots.size ≤ ((3 : Int32)).toNatClampNeg) := inb_of Sz59 ⟨by decide, by decide⟩
    refine Go.by (fun _ => X58.baloadBooleans hx (j := (3 : Int32)) (v := (.int (0 : Int32))) (by rw [eq58]; exact Ar59.1) (State.isArrayOf_alike hZ.alike Ar59.2.1) Ar59.2.2 hin59 (Has.at Hs59 hin59 rfl) (g := (mkF m 99 #[.val (.int p0), .val (.ref b1), .val (.ref b24), .val (.int (3 : Int32))] [(.int (3 : Int32)), (.ref b24), (.int (0 : Int32))])) rfl rfl (hb hby at_99) _) ?_
    show Go p e below P (T58.setTop (mkF m 100 #[.val (.int p0), .val (.ref b1), .val (.ref b24), .val (.int (3 : Int32))] [(.int (0 : Int32)), (.int (0 : Int32))]))
    have hc100 : (0 : Int32) = (0 : Int32) := by decide
    refine Go.by (fun _ => XS.icmpNo X58.here hx rfl (hb hby at_100) rfl (teq hc100).2) ?_
    show Go p e below P (T58.setTop (mkF m 103 #[.val (.int p0), .val (.ref b1), .val (.ref b24), .val (.int (3 : Int32))] []))
    refine Go.by (fun _ => XS.iconst X58.here hx rfl (hb hby at_103)) ?_
    show Go p e below P (T58.setTop (mkF m 104 #[.val (.int p0), .val (.ref b1), .val (.ref b24), .val (.int (3 : Int32))] [(.int (1 : Int32))]))
    refine Go.by (fun _ => XS.goto X58.here hx rfl (pc0 := 104) (pc' := 108) rfl (hb hby at_104) (by decide) (by decide)) ?_
    show Go p e below P (T58.setTop (mkF m 108 #[.val (.int p0), .val (.ref b1), .val (.ref b24), .val (.int (3 : Int32))] [(.int (1 : Int32))]))
    subst hP
    refine Go.retZ X58 hx (t := .boolean) Bd.returns (by simp) hlk (hb hby at_108) (Nat.le_of_ble_eq_true rfl) (Nat.le_of_ble_eq_true rfl) ?_
    rw [eq58]
    exact ⟨rfl, N58⟩
  · show Go p e below P (T45.setTop (mkF m 91 #[.val (.int p0), .val (.ref b1), .val (.ref b24), .val (.int (4 : Int32))] []))
    refine Go.by (fun _ => XS.aloadN X45.here hx rfl (hb hby at_91) rfl rfl) ?_
    show Go p e below P (T45.setTop (mkF m 92 #[.val (.int p0), .val (.ref b1), .val (.ref b24), .val (.int (4 : Int32))] [(.ref b1)]))
    refine Go.by (fun _ => XS.iloadN X45.here hx rfl (hb hby at_92) rfl) ?_
    show Go p e below P (T45.setTop (mkF m 93 #[.val (.int p0), .val (.ref b1), .val (.ref b24), .val (.int (4 : Int32))] [(.int (4 : Int32)), (.ref b1)]))
    obtain ⟨cl60, Ar60, qc60, Sz60, Ng60, Hs60, Gf60⟩ := F46
    have hin60 : ¬ ((4 : Int32) < 0 ∨ cl60.slots.size ≤ ((4 : Int32)).toNatClampNeg) := inb_of Sz60 ⟨by decide, by decide⟩
    refine Go.by (fun _ => X45.aaload hx (j := (4 : Int32)) (v := (.ref wMOST)) (by rw [e45]; exact Ar60.1) (State.isArrayOf_alike hZ.alike Ar60.2.1) rfl Ar60.2.2 hin60 (Has.at Hs60 hin60 rfl) (g := (mkF m 93 #[.val (.int p0), .val (.ref b1), .val (.ref b24), .val (.int (4 : Int32))] [(.int (4 : Int32)), (.ref b1)])) rfl rfl (hb hby at_93) _) ?_
    show Go p e below P (T45.setTop (mkF m 94 #[.val (.int p0), .val (.ref b1), .val (.ref b24), .val (.int (4 : Int32))] [(.ref wMOST)]))
    obtain ⟨cq61, kq61, qa61, qb61, qc61⟩ := isOf hZ e45 (G9.ext O45.2)
    obtain ⟨_, _, ⟨T61, L61, k61, n61⟩, -, X61, ⟨Lc61, hQ61, l61, y61, z61⟩, st61⟩ := X45.virtualBack hx (y := (⟨"com/example/gofyn/gofyn/keyword/Degree", "isGreater", "()Z"⟩ : MethodName)) (z := (⟨"com/example/gofyn/gofyn/keyword/Degree", "isGreater", "()Z"⟩ : MethodName)) hown (mvT hZ (hw _ (List.mem_of_getElem? (i := 20) rfl))) (mvT hZ (hw _ (List.mem_of_getElem? (i := 21) rfl))) (notFace_of_selects (args := #[]) (mvT hZ (hw _ (List.mem_of_getElem? (i := 23) rfl)))) (mvT hZ (hw _ (List.mem_of_getElem? (i := 23) rfl))) (mvT hZ (hw _ (List.mem_of_getElem? (i := 22) rfl))) (by decide) (backOf (W := 0) (rm_gr l Z a0 hw [] wNONE wPLAIN wGREATER wLESSER wMOST wLEAST wCOUNT hG wMOST ((1 : Int32)) h45 n0 Z45 O45  (by simp [(Fld.ne G16 G15 (by decide))])) hZ (hw _ (List.mem_of_getElem? (i := 24) rfl)) (hw _ (List.mem_of_getElem? (i := 3) rfl)) (Nat.le_of_ble_eq_true rfl) (Nat.le_of_ble_eq_true rfl)) qa61 qc61 (g := (mkF m 94 #[.val (.int p0), .val (.ref b1), .val (.ref b24), .val (.int (4 : Int32))] [(.ref wMOST)])) rfl (by rw [hml]; rfl) (Steps.refl _) (argsL := []) (rest := []) (lenOf pd_0 rfl) rfl (by show 2 * 0 + _ ≤ _; exact Nat.le_of_eq rfl) (hb hby at_94) (fun _ _ => ⟨rfl, e45, (Nat.le_of_ble_eq_true rfl : 2 + 0 ≤ _), (Nat.le_of_ble_eq_true rfl : 14 + 0 ≤ _)⟩)
    dsimp only [Pt.U, Pt.locs, Pt.cells, Pt.slots] at X61 l61 y61 z61 st61 hQ61
    subst l61 y61 z61
    obtain ⟨rfl, Nq61, eq61⟩ := hQ61
    have N61 := Fr.app N45 Nq61
    refine Go.by (fun _ k => st61.trans k) ?_
    show Go p e below P (T61.setTop (mkF m 97 #[.val (.int p0), .val (.ref b1), .val (.ref b24), .val (.int (4 : Int32))] [(.int (1 : Int32))]))
    refine Go.by (fun _ => XS.aloadN X61.here hx rfl (hb hby at_97) rfl rfl) ?_
    show Go p e below P (T61.setTop (mkF m 98 #[.val (.int p0), .val (.ref b1), .val (.ref b24), .val (.int (4 : Int32))] [(.ref b24), (.int (1 : Int32))]))
    refine Go.by (fun _ => XS.iloadN X61.here hx rfl (hb hby at_98) rfl) ?_
    show Go p e below P (T61.setTop (mkF m 99 #[.val (.int p0), .val (.ref b1), .val (.ref b24), .val (.int (4 : Int32))] [(.int (4 : Int32)), (.ref b24), (.int (1 : Int32))]))
    obtain ⟨cl62, Ar62, qc62, Sz62, Ng62, Hs62, Gf62⟩ := F47
    have hin62 : ¬ ((4 : Int32) < 0 ∨ cl62.slots.size ≤ ((4 : Int32)).toNatClampNeg) := inb_of Sz62 ⟨by decide, by decide⟩
    refine Go.by (fun _ => X61.baloadBooleans hx (j := (4 : Int32)) (v := (.int (1 : Int32))) (by rw [eq61]; exact Ar62.1) (State.isArrayOf_alike hZ.alike Ar62.2.1) Ar62.2.2 hin62 (Has.at Hs62 hin62 rfl) (g := (mkF m 99 #[.val (.int p0), .val (.ref b1), .val (.ref b24), .val (.int (4 : Int32))] [(.int (4 : Int32)), (.ref b24), (.int (1 : Int32))])) rfl rfl (hb hby at_99) _) ?_
    show Go p e below P (T61.setTop (mkF m 100 #[.val (.int p0), .val (.ref b1), .val (.ref b24), .val (.int (4 : Int32))] [(.int (1 : Int32)), (.int (1 : Int32))]))
    have hc100 : (1 : Int32) = (1 : Int32) := by decide
    refine Go.by (fun _ => XS.icmpNo X61.here hx rfl (hb hby at_100) rfl (teq hc100).2) ?_
    show Go p e below P (T61.setTop (mkF m 103 #[.val (.int p0), .val (.ref b1), .val (.ref b24), .val (.int (4 : Int32))] []))
    refine Go.by (fun _ => XS.iconst X61.here hx rfl (hb hby at_103)) ?_
    show Go p e below P (T61.setTop (mkF m 104 #[.val (.int p0), .val (.ref b1), .val (.ref b24), .val (.int (4 : Int32))] [(.int (1 : Int32))]))
    refine Go.by (fun _ => XS.goto X61.here hx rfl (pc0 := 104) (pc' := 108) rfl (hb hby at_104) (by decide) (by decide)) ?_
    show Go p e below P (T61.setTop (mkF m 108 #[.val (.int p0), .val (.ref b1), .val (.ref b24), .val (.int (4 : Int32))] [(.int (1 : Int32))]))
    subst hP
    refine Go.retZ X61 hx (t := .boolean) Bd.returns (by simp) hlk (hb hby at_108) (Nat.le_of_ble_eq_true rfl) (Nat.le_of_ble_eq_true rfl) ?_
    rw [eq61]
    exact ⟨rfl, N61⟩
  · show Go p e below P (T45.setTop (mkF m 91 #[.val (.int p0), .val (.ref b1), .val (.ref b24), .val (.int (5 : Int32))] []))
    refine Go.by (fun _ => XS.aloadN X45.here hx rfl (hb hby at_91) rfl rfl) ?_
    show Go p e below P (T45.setTop (mkF m 92 #[.val (.int p0), .val (.ref b1), .val (.ref b24), .val (.int (5 : Int32))] [(.ref b1)]))
    refine Go.by (fun _ => XS.iloadN X45.here hx rfl (hb hby at_92) rfl) ?_
    show Go p e below P (T45.setTop (mkF m 93 #[.val (.int p0), .val (.ref b1), .val (.ref b24), .val (.int (5 : Int32))] [(.int (5 : Int32)), (.ref b1)]))
    obtain ⟨cl63, Ar63, qc63, Sz63, Ng63, Hs63, Gf63⟩ := F46
    have hin63 : ¬ ((5 : Int32) < 0 ∨ cl63.slots.size ≤ ((5 : Int32)).toNatClampNeg) := inb_of Sz63 ⟨by decide, by decide⟩
    refine Go.by (fun _ => X45.aaload hx (j := (5 : Int32)) (v := (.ref wLEAST)) (by rw [e45]; exact Ar63.1) (State.isArrayOf_alike hZ.alike Ar63.2.1) rfl Ar63.2.2 hin63 (Has.at Hs63 hin63 rfl) (g := (mkF m 93 #[.val (.int p0), .val (.ref b1), .val (.ref b24), .val (.int (5 : Int32))] [(.int (5 : Int32)), (.ref b1)])) rfl rfl (hb hby at_93) _) ?_
    show Go p e below P (T45.setTop (mkF m 94 #[.val (.int p0), .val (.ref b1), .val (.ref b24), .val (.int (5 : Int32))] [(.ref wLEAST)]))
    obtain ⟨cq64, kq64, qa64, qb64, qc64⟩ := isOf hZ e45 (G11.ext O45.2)
    obtain ⟨_, _, ⟨T64, L64, k64, n64⟩, -, X64, ⟨Lc64, hQ64, l64, y64, z64⟩, st64⟩ := X45.virtualBack hx (y := (⟨"com/example/gofyn/gofyn/keyword/Degree", "isGreater", "()Z"⟩ : MethodName)) (z := (⟨"com/example/gofyn/gofyn/keyword/Degree", "isGreater", "()Z"⟩ : MethodName)) hown (mvT hZ (hw _ (List.mem_of_getElem? (i := 20) rfl))) (mvT hZ (hw _ (List.mem_of_getElem? (i := 21) rfl))) (notFace_of_selects (args := #[]) (mvT hZ (hw _ (List.mem_of_getElem? (i := 23) rfl)))) (mvT hZ (hw _ (List.mem_of_getElem? (i := 23) rfl))) (mvT hZ (hw _ (List.mem_of_getElem? (i := 22) rfl))) (by decide) (backOf (W := 0) (rm_gr l Z a0 hw [] wNONE wPLAIN wGREATER wLESSER wMOST wLEAST wCOUNT hG wLEAST ((0 : Int32)) h45 n0 Z45 O45  (by simp [(Fld.ne G18 G15 (by decide)), (Fld.ne G18 G16 (by decide))])) hZ (hw _ (List.mem_of_getElem? (i := 24) rfl)) (hw _ (List.mem_of_getElem? (i := 3) rfl)) (Nat.le_of_ble_eq_true rfl) (Nat.le_of_ble_eq_true rfl)) qa64 qc64 (g := (mkF m 94 #[.val (.int p0), .val (.ref b1), .val (.ref b24), .val (.int (5 : Int32))] [(.ref wLEAST)])) rfl (by rw [hml]; rfl) (Steps.refl _) (argsL := []) (rest := []) (lenOf pd_0 rfl) rfl (by show 2 * 0 + _ ≤ _; exact Nat.le_of_eq rfl) (hb hby at_94) (fun _ _ => ⟨rfl, e45, (Nat.le_of_ble_eq_true rfl : 2 + 0 ≤ _), (Nat.le_of_ble_eq_true rfl : 14 + 0 ≤ _)⟩)
    dsimp only [Pt.U, Pt.locs, Pt.cells, Pt.slots] at X64 l64 y64 z64 st64 hQ64
    subst l64 y64 z64
    obtain ⟨rfl, Nq64, eq64⟩ := hQ64
    have N64 := Fr.app N45 Nq64
    refine Go.by (fun _ k => st64.trans k) ?_
    show Go p e below P (T64.setTop (mkF m 97 #[.val (.int p0), .val (.ref b1), .val (.ref b24), .val (.int (5 : Int32))] [(.int (0 : Int32))]))
    refine Go.by (fun _ => XS.aloadN X64.here hx rfl (hb hby at_97) rfl rfl) ?_
    show Go p e below P (T64.setTop (mkF m 98 #[.val (.int p0), .val (.ref b1), .val (.ref b24), .val (.int (5 : Int32))] [(.ref b24), (.int (0 : Int32))]))
    refine Go.by (fun _ => XS.iloadN X64.here hx rfl (hb hby at_98) rfl) ?_
    show Go p e below P (T64.setTop (mkF m 99 #[.val (.int p0), .val (.ref b1), .val (.ref b24), .val (.int (5 : Int32))] [(.int (5 : Int32)), (.ref b24), (.int (0 : Int32))]))
    obtain ⟨cl65, Ar65, qc65, Sz65, Ng65, Hs65, Gf65⟩ := F47
    have hin65 : ¬ ((5 : Int32) < 0 ∨ cl65.slots.size ≤ ((5 : Int32)).toNatClampNeg) := inb_of Sz65 ⟨by decide, by decide⟩
    refine Go.by (fun _ => X64.baloadBooleans hx (j := (5 : Int32)) (v := (.int (0 : Int32))) (by rw [eq64]; exact Ar65.1) (State.isArrayOf_alike hZ.alike Ar65.2.1) Ar65.2.2 hin65 (Has.at Hs65 hin65 rfl) (g := (mkF m 99 #[.val (.int p0), .val (.ref b1), .val (.ref b24), .val (.int (5 : Int32))] [(.int (5 : Int32)), (.ref b24), (.int (0 : Int32))])) rfl rfl (hb hby at_99) _) ?_
    show Go p e below P (T64.setTop (mkF m 100 #[.val (.int p0), .val (.ref b1), .val (.ref b24), .val (.int (5 : Int32))] [(.int (0 : Int32)), (.int (0 : Int32))]))
    have hc100 : (0 : Int32) = (0 : Int32) := by decide
    refine Go.by (fun _ => XS.icmpNo X64.here hx rfl (hb hby at_100) rfl (teq hc100).2) ?_
    show Go p e below P (T64.setTop (mkF m 103 #[.val (.int p0), .val (.ref b1), .val (.ref b24), .val (.int (5 : Int32))] []))
    refine Go.by (fun _ => XS.iconst X64.here hx rfl (hb hby at_103)) ?_
    show Go p e below P (T64.setTop (mkF m 104 #[.val (.int p0), .val (.ref b1), .val (.ref b24), .val (.int (5 : Int32))] [(.int (1 : Int32))]))
    refine Go.by (fun _ => XS.goto X64.here hx rfl (pc0 := 104) (pc' := 108) rfl (hb hby at_104) (by decide) (by decide)) ?_
    show Go p e below P (T64.setTop (mkF m 108 #[.val (.int p0), .val (.ref b1), .val (.ref b24), .val (.int (5 : Int32))] [(.int (1 : Int32))]))
    subst hP
    refine Go.retZ X64 hx (t := .boolean) Bd.returns (by simp) hlk (hb hby at_108) (Nat.le_of_ble_eq_true rfl) (Nat.le_of_ble_eq_true rfl) ?_
    rw [eq64]
    exact ⟨rfl, N64⟩
  · show Go p e below P (T45.setTop (mkF m 91 #[.val (.int p0), .val (.ref b1), .val (.ref b24), .val (.int (6 : Int32))] []))
    refine Go.by (fun _ => XS.aloadN X45.here hx rfl (hb hby at_91) rfl rfl) ?_
    show Go p e below P (T45.setTop (mkF m 92 #[.val (.int p0), .val (.ref b1), .val (.ref b24), .val (.int (6 : Int32))] [(.ref b1)]))
    refine Go.by (fun _ => XS.iloadN X45.here hx rfl (hb hby at_92) rfl) ?_
    show Go p e below P (T45.setTop (mkF m 93 #[.val (.int p0), .val (.ref b1), .val (.ref b24), .val (.int (6 : Int32))] [(.int (6 : Int32)), (.ref b1)]))
    obtain ⟨cl66, Ar66, qc66, Sz66, Ng66, Hs66, Gf66⟩ := F46
    have hin66 : ¬ ((6 : Int32) < 0 ∨ cl66.slots.size ≤ ((6 : Int32)).toNatClampNeg) := inb_of Sz66 ⟨by decide, by decide⟩
    refine Go.by (fun _ => X45.aaload hx (j := (6 : Int32)) (v := (.ref wCOUNT)) (by rw [e45]; exact Ar66.1) (State.isArrayOf_alike hZ.alike Ar66.2.1) rfl Ar66.2.2 hin66 (Has.at Hs66 hin66 rfl) (g := (mkF m 93 #[.val (.int p0), .val (.ref b1), .val (.ref b24), .val (.int (6 : Int32))] [(.int (6 : Int32)), (.ref b1)])) rfl rfl (hb hby at_93) _) ?_
    show Go p e below P (T45.setTop (mkF m 94 #[.val (.int p0), .val (.ref b1), .val (.ref b24), .val (.int (6 : Int32))] [(.ref wCOUNT)]))
    obtain ⟨cq67, kq67, qa67, qb67, qc67⟩ := isOf hZ e45 (G13.ext O45.2)
    obtain ⟨_, _, ⟨T67, L67, k67, n67⟩, -, X67, ⟨Lc67, hQ67, l67, y67, z67⟩, st67⟩ := X45.virtualBack hx (y := (⟨"com/example/gofyn/gofyn/keyword/Degree", "isGreater", "()Z"⟩ : MethodName)) (z := (⟨"com/example/gofyn/gofyn/keyword/Degree", "isGreater", "()Z"⟩ : MethodName)) hown (mvT hZ (hw _ (List.mem_of_getElem? (i := 20) rfl))) (mvT hZ (hw _ (List.mem_of_getElem? (i := 21) rfl))) (notFace_of_selects (args := #[]) (mvT hZ (hw _ (List.mem_of_getElem? (i := 23) rfl)))) (mvT hZ (hw _ (List.mem_of_getElem? (i := 23) rfl))) (mvT hZ (hw _ (List.mem_of_getElem? (i := 22) rfl))) (by decide) (backOf (W := 0) (rm_gr l Z a0 hw [] wNONE wPLAIN wGREATER wLESSER wMOST wLEAST wCOUNT hG wCOUNT ((0 : Int32)) h45 n0 Z45 O45  (by simp [(Fld.ne G19 G15 (by decide)), (Fld.ne G19 G16 (by decide))])) hZ (hw _ (List.mem_of_getElem? (i := 24) rfl)) (hw _ (List.mem_of_getElem? (i := 3) rfl)) (Nat.le_of_ble_eq_true rfl) (Nat.le_of_ble_eq_true rfl)) qa67 qc67 (g := (mkF m 94 #[.val (.int p0), .val (.ref b1), .val (.ref b24), .val (.int (6 : Int32))] [(.ref wCOUNT)])) rfl (by rw [hml]; rfl) (Steps.refl _) (argsL := []) (rest := []) (lenOf pd_0 rfl) rfl (by show 2 * 0 + _ ≤ _; exact Nat.le_of_eq rfl) (hb hby at_94) (fun _ _ => ⟨rfl, e45, (Nat.le_of_ble_eq_true rfl : 2 + 0 ≤ _), (Nat.le_of_ble_eq_true rfl : 14 + 0 ≤ _)⟩)
    dsimp only [Pt.U, Pt.locs, Pt.cells, Pt.slots] at X67 l67 y67 z67 st67 hQ67
    subst l67 y67 z67
    obtain ⟨rfl, Nq67, eq67⟩ := hQ67
    have N67 := Fr.app N45 Nq67
    refine Go.by (fun _ k => st67.trans k) ?_
    show Go p e below P (T67.setTop (mkF m 97 #[.val (.int p0), .val (.ref b1), .val (.ref b24), .val (.int (6 : Int32))] [(.int (0 : Int32))]))
    refine Go.by (fun _ => XS.aloadN X67.here hx rfl (hb hby at_97) rfl rfl) ?_
    show Go p e below P (T67.setTop (mkF m 98 #[.val (.int p0), .val (.ref b1), .val (.ref b24), .val (.int (6 : Int32))] [(.ref b24), (.int (0 : Int32))]))
    refine Go.by (fun _ => XS.iloadN X67.here hx rfl (hb hby at_98) rfl) ?_
    show Go p e below P (T67.setTop (mkF m 99 #[.val (.int p0), .val (.ref b1), .val (.ref b24), .val (.int (6 : Int32))] [(.int (6 : Int32)), (.ref b24), (.int (0 : Int32))]))
    obtain ⟨cl68, Ar68, qc68, Sz68, Ng68, Hs68, Gf68⟩ := F47
    have hin68 : ¬ ((6 : Int32) < 0 ∨ cl68.slots.size ≤ ((6 : Int32)).toNatClampNeg) := inb_of Sz68 ⟨by decide, by decide⟩
    refine Go.by (fun _ => X67.baloadBooleans hx (j := (6 : Int32)) (v := (.int (0 : Int32))) (by rw [eq67]; exact Ar68.1) (State.isArrayOf_alike hZ.alike Ar68.2.1) Ar68.2.2 hin68 (Has.at Hs68 hin68 rfl) (g := (mkF m 99 #[.val (.int p0), .val (.ref b1), .val (.ref b24), .val (.int (6 : Int32))] [(.int (6 : Int32)), (.ref b24), (.int (0 : Int32))])) rfl rfl (hb hby at_99) _) ?_
    show Go p e below P (T67.setTop (mkF m 100 #[.val (.int p0), .val (.ref b1), .val (.ref b24), .val (.int (6 : Int32))] [(.int (0 : Int32)), (.int (0 : Int32))]))
    have hc100 : (0 : Int32) = (0 : Int32) := by decide
    refine Go.by (fun _ => XS.icmpNo X67.here hx rfl (hb hby at_100) rfl (teq hc100).2) ?_
    show Go p e below P (T67.setTop (mkF m 103 #[.val (.int p0), .val (.ref b1), .val (.ref b24), .val (.int (6 : Int32))] []))
    refine Go.by (fun _ => XS.iconst X67.here hx rfl (hb hby at_103)) ?_
    show Go p e below P (T67.setTop (mkF m 104 #[.val (.int p0), .val (.ref b1), .val (.ref b24), .val (.int (6 : Int32))] [(.int (1 : Int32))]))
    refine Go.by (fun _ => XS.goto X67.here hx rfl (pc0 := 104) (pc' := 108) rfl (hb hby at_104) (by decide) (by decide)) ?_
    show Go p e below P (T67.setTop (mkF m 108 #[.val (.int p0), .val (.ref b1), .val (.ref b24), .val (.int (6 : Int32))] [(.int (1 : Int32))]))
    subst hP
    refine Go.retZ X67 hx (t := .boolean) Bd.returns (by simp) hlk (hb hby at_108) (Nat.le_of_ble_eq_true rfl) (Nat.le_of_ble_eq_true rfl) ?_
    rw [eq67]
    exact ⟨rfl, N67⟩
set_option maxRecDepth 65536 in
set_option maxHeartbeats 40000000 in
theorem comes_1 {Post : Tables → Env → Array Value → State → Outcome → State → Prop} (hpost : ∀ tb e args s v u, (limb_1_1.after args s (.returned v) u = true ∧ limb_1_2.after args s (.returned v) u = true ∧ True) → FrameEnd s (.returned v) u (Jvm.fieldLocs frame_1_writes args s ++ Jvm.arrayLocs frame_1_arrays args s ++ Jvm.staticLocs frame_1_statics s) 16 128 → Post tb e args s (.returned v) u) :
    ArmFor flags0 classFile x code maxLocals ret World_1 tables_1 room_1 Calls_1 rest_1 Pre_1 Post := by
  intro l hfl _ _ p e ha hc hk s m args below hf hA hF happ hP
  obtain ⟨hcalls, hrest, hpre⟩ := hP
  obtain ⟨-, -, -, hnamed, -, -, -, hat⟩ := (Spec.applies_iff hf).mp happ
  obtain ⟨hg, hn⟩ := and_e (Cond.before_iff.mp (show (Jvm.Cond.and given_1 narrow_1).before args s = true from hpre))
  obtain ⟨hg0, hr0⟩ := and_e hg
  obtain ⟨w0, rfl⟩ : ∃ w0 : Value, args = #[w0] := by
    have hs : args.size = 1 := by simpa [Cond.value, given_1] using hg0
    obtain ⟨L⟩ := args
    match L, hs with
    | [w0], _ => exact ⟨w0, rfl⟩
  have hw := fun d (hd : d ∈ tables_1) => atoms_spec (ws := Jvm.Cond.code x code maxLocals ret :: tables_1) hat d (List.mem_cons_of_mem _ hd)
  have hfit : Fit s := fun {y c} hc i hi => by
    obtain ⟨ha, rfl⟩ := Array.getElem?_eq_some_iff.mp hc
    have q := List.all_eq_true.mp ((Array.all_eq_true_iff_forall_mem.mp hF) _ (Array.getElem_mem ha)) i (List.mem_range.mpr hi)
    simpa [Array.getElem?_eq_getElem hi] using q
  obtain ⟨i0, ei0⟩ := is_v hr0
  obtain rfl : w0 = (.int i0) := Option.some.inj ei0
  obtain ⟨nn0, nn_r0⟩ := and_e hn
  obtain ⟨nn1, nn_r1⟩ := and_e nn_r0
  obtain ⟨nn2, nn_r2⟩ := and_e nn_r1
  obtain ⟨nn3, nn_r3⟩ := and_e nn_r2
  obtain ⟨nn4, nn_r4⟩ := and_e nn_r3
  obtain ⟨nn5, nn_r5⟩ := and_e nn_r4
  obtain ⟨nn6, nn_r6⟩ := and_e nn_r5
  obtain ⟨nn7, nn_r7⟩ := and_e nn_r6
  obtain ⟨nn8, nn_r8⟩ := and_e nn_r7
  obtain ⟨nn9, nn_r9⟩ := and_e nn_r8
  obtain ⟨nn10, nn_r10⟩ := and_e nn_r9
  obtain ⟨nn11, nn_r11⟩ := and_e nn_r10
  obtain ⟨nn12, nn_r12⟩ := and_e nn_r11
  obtain ⟨wNONE, eNONE⟩ := exa_v nn0
  obtain ⟨wPLAIN, ePLAIN⟩ := exa_v nn1
  obtain ⟨wGREATER, eGREATER⟩ := exa_v nn2
  obtain ⟨wLESSER, eLESSER⟩ := exa_v nn3
  obtain ⟨wMOST, eMOST⟩ := exa_v nn4
  obtain ⟨wLEAST, eLEAST⟩ := exa_v nn5
  obtain ⟨wCOUNT, eCOUNT⟩ := exa_v nn6
  have hG : Glob s wNONE wPLAIN wGREATER wLESSER wMOST wLEAST wCOUNT := ⟨Sta.start eNONE (Or.inr ⟨(hw _ (List.mem_of_getElem? (i := 3) rfl)), (hw _ (List.mem_of_getElem? (i := 4) rfl))⟩), Exa.start eNONE nn0, Sta.start ePLAIN (Or.inr ⟨(hw _ (List.mem_of_getElem? (i := 3) rfl)), (hw _ (List.mem_of_getElem? (i := 7) rfl))⟩), Exa.start ePLAIN nn1, Sta.start eGREATER (Or.inr ⟨(hw _ (List.mem_of_getElem? (i := 3) rfl)), (hw _ (List.mem_of_getElem? (i := 9) rfl))⟩), Exa.start eGREATER nn2, Sta.start eLESSER (Or.inr ⟨(hw _ (List.mem_of_getElem? (i := 3) rfl)), (hw _ (List.mem_of_getElem? (i := 11) rfl))⟩), Exa.start eLESSER nn3, Sta.start eMOST (Or.inr ⟨(hw _ (List.mem_of_getElem? (i := 3) rfl)), (hw _ (List.mem_of_getElem? (i := 13) rfl))⟩), Exa.start eMOST nn4, Sta.start eLEAST (Or.inr ⟨(hw _ (List.mem_of_getElem? (i := 3) rfl)), (hw _ (List.mem_of_getElem? (i := 15) rfl))⟩), Exa.start eLEAST nn5, Sta.start eCOUNT (Or.inr ⟨(hw _ (List.mem_of_getElem? (i := 3) rfl)), (hw _ (List.mem_of_getElem? (i := 17) rfl))⟩), Exa.start eCOUNT nn6, Fld.start ((fld_at eNONE).symm.trans (own_eqi (Cond.before_iff.mpr nn7))), Fld.start ((fld_at eGREATER).symm.trans (own_eqi (Cond.before_iff.mpr nn8))), Fld.start ((fld_at eMOST).symm.trans (own_eqi (Cond.before_iff.mpr nn9))), Fld.start ((fld_at eLESSER).symm.trans (own_eqi (Cond.before_iff.mpr nn10))), Fld.start ((fld_at eLEAST).symm.trans (own_eqi (Cond.before_iff.mpr nn11))), Fld.start ((fld_at eCOUNT).symm.trans (own_eqi (Cond.before_iff.mpr nn12))), Fld.start ((fld_at ePLAIN).symm.trans (own_eqi (Cond.before_iff.mpr nn_r12)))⟩
  obtain ⟨n, o, h1, h2, h3, _, L, rfl, ⟨rfl, N⟩, hq⟩ := rm_law l s _ hw tables_1 wNONE wPLAIN wGREATER wLESSER wMOST wLEAST wCOUNT hG i0  s.heap s.heap.size (Nat.le_refl _) (Old.start s)  p e ha hc hk s m _ below hf ((Spec.applies_iff_loose hf).mp happ).1 ⟨rfl, State.Warmed39.refl s, rfl⟩ trivial
  refine ⟨n, _, h1, h2, h3, hpost _ _ _ _ _ _ ⟨Cond.after_iff.mpr rfl, Cond.after_iff.mpr (eq_i res_at (Term.int_eval (1)) rfl), trivial⟩ ⟨hq.1, hq.2.1, (hq.2.2.sift fun y hy => Or.inr (N y hy)).mono (Nat.le_of_ble_eq_true rfl) (Nat.le_of_ble_eq_true rfl)⟩⟩
theorem main_1_1 : Claimed_1_1 := comes_1 fun _ _ _ _ _ _ h hF => ⟨h.1, hF⟩
theorem main_1_2 : Claimed_1_2 := comes_1 fun _ _ _ _ _ _ h hF => ⟨h.2.1, hF⟩
end Jvm.Pilot.@@N@@
namespace Jvm.Pilot.@@N@@
open Jvm Jvm.ClassFile Sem Op Lib Jvm.Free Jvm.Stand Jvm.Pilot.@@N@@.Jvm.D
/-! MADE BY PROGRAM (witnessworld.py) out of the Statement's table words and the real class files: 15 classes; the members and pool entries that the words name. The judged class is class 1, her method 1. -/
namespace start1
open Jvm.ClassFile
def u (s : String) : CpInfo := .utf8 (stringToUtf16 s)
/-- a pool by its gaps: so many unusable entries, then the entry; so many at the end -/
def gap : Nat → List CpInfo → List CpInfo
  | 0, r => r
  | n + 1, r => .unusable :: gap n r
def poolList (es : List (Nat × CpInfo)) (last : Nat) : List CpInfo := es.foldr (fun e r => gap e.1 (e.2 :: r)) (gap last [])
def pool (es : List (Nat × CpInfo)) (last : Nat) : Array CpInfo := ⟨poolList es last⟩
def fileOf (pool : Array CpInfo) (this : Nat) (attrs : Array Attribute := #[]) (ms : Array MethodInfo := #[]) (fl : Nat := 33) (sup : Nat := 0) (ifs : Array Nat := #[]) (fds : Array FieldInfo := #[]) : ClassFile where
  minorVersion := 0
  majorVersion := 65
  constantPool := pool
  accessFlags := fl
  thisClass := this
  superClass := sup
  interfaces := ifs
  fields := fds
  methods := ms
  attributes := attrs
def plain (name : String) (sup : Option ClassId) : Class where
  name := name
  kind := .ordinary
  loader := none
  accessFlags := 33
  super := sup
  interfaces := #[]
  cf := none
  fields := #[]
  methods := #[]
  instanceTypes := #[]
  staticTypes := #[]
  resolved := #[]
  callSites := []
  init := .initialized
  statics := none
  mirror := none

def pool0 : Array CpInfo := pool [(5, u "<init>"), (0, u "()V"), (1, .class_ 10), (1, u "java/lang/Object")] 113

def k0m0 : Method := { name := "<init>", desc := "()V", sig := { parameters := [], returnType := none }, accessFlags := 1, code := none }
/-- java/lang/Object -/
def k0 : Class := { plain "java/lang/Object" none with
  accessFlags := 33
  interfaces := #[]
  cf := some (fileOf pool0 8 #[] #[{ accessFlags := 1, nameIndex := 5, descriptorIndex := 6, attributes := #[] }] 33 0 #[] #[])
  fields := #[]
  methods := #[k0m0]
  instanceTypes := #[]
  staticTypes := #[]
  resolved := Array.replicate 124 none
  statics := none }

def pool1 : Array CpInfo := pool [(2, .class_ 4), (1, u "java/lang/Object"), (0, u "<init>"), (0, u "()V"), (0, .class_ 8), (0, u "com/example/gofyn/gofyn/keyword/Degree"), (0, .fieldref 7 10), (0, .nameAndType 11 12), (0, u "NONE"), (0, u "Lcom/example/gofyn/gofyn/keyword/Degree;"), (0, .fieldref 7 14), (0, .nameAndType 15 12), (0, u "PLAIN"), (0, .fieldref 7 17), (0, .nameAndType 18 12), (0, u "GREATER"), (0, .fieldref 7 20), (0, .nameAndType 21 12), (0, u "LESSER"), (0, .fieldref 7 23), (0, .nameAndType 24 12), (0, u "MOST"), (0, .fieldref 7 26), (0, .nameAndType 27 12), (0, u "LEAST"), (0, .fieldref 7 29), (0, .nameAndType 30 12), (0, u "COUNT"), (0, .integer 2147483647), (0, .methodref 7 33), (0, .nameAndType 34 35), (0, u "isGreater"), (0, u "()Z"), (0, .class_ 37), (0, u "com/example/gofyn/gofyn/keyword/DegreeIsGreaterPinLaw"), (2, u "law"), (0, u "(I)Z")] 7

def k1m0 : Method := { name := "<init>", desc := "()V", sig := { parameters := [], returnType := none }, accessFlags := 1, code := none }
def k1c1 : Code := { maxStack := 4, maxLocals := 4, code := code, exceptionTable := #[], attributes := #[] }
def k1m1 : Method := { name := "law", desc := "(I)Z", sig := { parameters := [.int], returnType := some .boolean }, accessFlags := 9, code := some k1c1 }
/-- com/example/gofyn/gofyn/keyword/DegreeIsGreaterPinLaw -/
def k1 : Class := { plain "com/example/gofyn/gofyn/keyword/DegreeIsGreaterPinLaw" (some 0) with
  accessFlags := 49
  interfaces := #[]
  cf := some (fileOf pool1 36 #[] #[{ accessFlags := 1, nameIndex := 5, descriptorIndex := 6, attributes := #[] }, { accessFlags := 9, nameIndex := 40, descriptorIndex := 41, attributes := #[] }] 49 2 #[] #[])
  fields := #[]
  methods := #[k1m0, k1m1]
  instanceTypes := #[]
  staticTypes := #[]
  resolved := Array.replicate 49 none
  statics := none }

def pool2 : Array CpInfo := pool [(1, .class_ 2), (0, u "java/lang/constant/Constable"), (0, .class_ 4), (0, u "java/lang/Object")] 6

/-- java/lang/constant/Constable -/
def k2 : Class := { plain "java/lang/constant/Constable" (some 0) with
  accessFlags := 1537
  interfaces := #[]
  cf := some (fileOf pool2 1 #[] #[] 1537 3 #[] #[])
  fields := #[]
  methods := #[]
  instanceTypes := #[]
  staticTypes := #[]
  resolved := Array.replicate 11 none
  statics := none }

def pool3 : Array CpInfo := pool [(1, .class_ 2), (0, u "java/lang/Comparable"), (0, .class_ 4), (0, u "java/lang/Object")] 7

/-- java/lang/Comparable -/
def k3 : Class := { plain "java/lang/Comparable" (some 0) with
  accessFlags := 1537
  interfaces := #[]
  cf := some (fileOf pool3 1 #[] #[] 1537 3 #[] #[])
  fields := #[]
  methods := #[]
  instanceTypes := #[]
  staticTypes := #[]
  resolved := Array.replicate 12 none
  statics := none }

def pool4 : Array CpInfo := pool [(1, .class_ 2), (0, u "java/io/Serializable"), (0, .class_ 4), (0, u "java/lang/Object")] 2

/-- java/io/Serializable -/
def k4 : Class := { plain "java/io/Serializable" (some 0) with
  accessFlags := 1537
  interfaces := #[]
  cf := some (fileOf pool4 1 #[] #[] 1537 3 #[] #[])
  fields := #[]
  methods := #[]
  instanceTypes := #[]
  staticTypes := #[]
  resolved := Array.replicate 7 none
  statics := none }

def pool5 : Array CpInfo := pool [(2, .class_ 4), (1, u "java/lang/Enum"), (0, u "name"), (0, u "Ljava/lang/String;"), (2, u "ordinal"), (0, u "I"), (1, .class_ 14), (1, u "java/lang/Object"), (4, u "hash"), (86, .class_ 108), (1, u "java/lang/Enum$EnumDesc"), (2, .class_ 112), (0, u "java/lang/constant/Constable"), (0, .class_ 114), (0, u "java/lang/Comparable"), (0, .class_ 116), (0, u "java/io/Serializable")] 87

/-- java/lang/Enum -/
def k5 : Class := { plain "java/lang/Enum" (some 0) with
  accessFlags := 1057
  interfaces := #[2, 3, 4]
  cf := some (fileOf pool5 2 #[.nestMembers #[106]] #[] 1057 12 #[111, 113, 115] #[{ accessFlags := 18, nameIndex := 5, descriptorIndex := 6, attributes := #[] }, { accessFlags := 18, nameIndex := 9, descriptorIndex := 10, attributes := #[] }, { accessFlags := 2, nameIndex := 19, descriptorIndex := 10, attributes := #[] }])
  fields := #[{ name := "name", type := (.object "java/lang/String"), accessFlags := 18, slot := 0, constantValue := 0 }, { name := "ordinal", type := .int, accessFlags := 18, slot := 1, constantValue := 0 }, { name := "hash", type := .int, accessFlags := 2, slot := 2, constantValue := 0 }]
  methods := #[]
  instanceTypes := #[(.object "java/lang/String"), .int, .int]
  staticTypes := #[]
  resolved := Array.replicate 204 none
  statics := none }

def pool6 : Array CpInfo := pool [(1, .class_ 2), (0, u "com/example/gofyn/gofyn/keyword/Degree"), (2, u "NONE"), (0, u "Lcom/example/gofyn/gofyn/keyword/Degree;"), (2, u "PLAIN"), (0, .fieldref 1 11), (0, .nameAndType 12 6), (0, u "GREATER"), (2, u "LESSER"), (0, .fieldref 1 17), (0, .nameAndType 18 6), (0, u "MOST"), (2, u "LEAST"), (2, u "COUNT"), (2, u "$VALUES"), (0, u "[Lcom/example/gofyn/gofyn/keyword/Degree;"), (6, .class_ 37), (1, u "java/lang/Enum"), (25, u "isGreater"), (0, u "()Z")] 5

def k6c0 : Code := { maxStack := 2, maxLocals := 1, code := prog_7_method_4_code, exceptionTable := #[], attributes := #[] }
def k6m0 : Method := { name := "isGreater", desc := "()Z", sig := { parameters := [], returnType := some .boolean }, accessFlags := 1, code := some k6c0 }
/-- com/example/gofyn/gofyn/keyword/Degree -/
def k6 : Class := { plain "com/example/gofyn/gofyn/keyword/Degree" (some 5) with
  accessFlags := 16433
  interfaces := #[]
  cf := some (fileOf pool6 1 #[] #[{ accessFlags := 1, nameIndex := 63, descriptorIndex := 64, attributes := #[] }] 16433 35 #[] #[{ accessFlags := 16409, nameIndex := 5, descriptorIndex := 6, attributes := #[] }, { accessFlags := 16409, nameIndex := 9, descriptorIndex := 6, attributes := #[] }, { accessFlags := 16409, nameIndex := 12, descriptorIndex := 6, attributes := #[] }, { accessFlags := 16409, nameIndex := 15, descriptorIndex := 6, attributes := #[] }, { accessFlags := 16409, nameIndex := 18, descriptorIndex := 6, attributes := #[] }, { accessFlags := 16409, nameIndex := 21, descriptorIndex := 6, attributes := #[] }, { accessFlags := 16409, nameIndex := 24, descriptorIndex := 6, attributes := #[] }, { accessFlags := 4122, nameIndex := 27, descriptorIndex := 28, attributes := #[] }])
  fields := #[{ name := "NONE", type := (.object "com/example/gofyn/gofyn/keyword/Degree"), accessFlags := 16409, slot := 0, constantValue := 0 }, { name := "PLAIN", type := (.object "com/example/gofyn/gofyn/keyword/Degree"), accessFlags := 16409, slot := 1, constantValue := 0 }, { name := "GREATER", type := (.object "com/example/gofyn/gofyn/keyword/Degree"), accessFlags := 16409, slot := 2, constantValue := 0 }, { name := "LESSER", type := (.object "com/example/gofyn/gofyn/keyword/Degree"), accessFlags := 16409, slot := 3, constantValue := 0 }, { name := "MOST", type := (.object "com/example/gofyn/gofyn/keyword/Degree"), accessFlags := 16409, slot := 4, constantValue := 0 }, { name := "LEAST", type := (.object "com/example/gofyn/gofyn/keyword/Degree"), accessFlags := 16409, slot := 5, constantValue := 0 }, { name := "COUNT", type := (.object "com/example/gofyn/gofyn/keyword/Degree"), accessFlags := 16409, slot := 6, constantValue := 0 }, { name := "$VALUES", type := (.array (.object "com/example/gofyn/gofyn/keyword/Degree")), accessFlags := 4122, slot := 7, constantValue := 0 }]
  methods := #[k6m0]
  instanceTypes := #[(.object "java/lang/String"), .int, .int]
  staticTypes := #[(.object "com/example/gofyn/gofyn/keyword/Degree"), (.object "com/example/gofyn/gofyn/keyword/Degree"), (.object "com/example/gofyn/gofyn/keyword/Degree"), (.object "com/example/gofyn/gofyn/keyword/Degree"), (.object "com/example/gofyn/gofyn/keyword/Degree"), (.object "com/example/gofyn/gofyn/keyword/Degree"), (.object "com/example/gofyn/gofyn/keyword/Degree"), (.array (.object "com/example/gofyn/gofyn/keyword/Degree"))]
  resolved := Array.replicate 70 none
  statics := some 0 }

def pool7 : Array CpInfo := pool [(1, u "java/lang/Cloneable"), (0, .class_ 1), (0, u "java/lang/Object"), (0, .class_ 3)] 3

/-- java/lang/Cloneable -/
def k7 : Class := { plain "java/lang/Cloneable" (some 0) with
  accessFlags := 1537
  interfaces := #[]
  cf := some (fileOf pool7 2 #[] #[] 1537 4 #[] #[])
  fields := #[]
  methods := #[]
  instanceTypes := #[]
  staticTypes := #[]
  resolved := Array.replicate 8 none
  statics := none }

/-- the primitive boolean -/
def k8 : Class := { plain "boolean" none with kind := .primitive 'Z', accessFlags := 0x411 }
/-- [Z -/
def k9 : Class := { plain "[Z" (some 0) with kind := .array 8 .boolean, interfaces := #[7, 4], accessFlags := 1041 }

/-- the primitive byte -/
def k10 : Class := { plain "byte" none with kind := .primitive 'B', accessFlags := 0x411 }
/-- [B -/
def k11 : Class := { plain "[B" (some 0) with kind := .array 10 .byte, interfaces := #[7, 4], accessFlags := 1041 }

/-- the primitive int -/
def k12 : Class := { plain "int" none with kind := .primitive 'I', accessFlags := 0x411 }
/-- [I -/
def k13 : Class := { plain "[I" (some 0) with kind := .array 12 .int, interfaces := #[7, 4], accessFlags := 1041 }

/-- [Lcom/example/gofyn/gofyn/keyword/Degree; -/
def k14 : Class := { plain "[Lcom/example/gofyn/gofyn/keyword/Degree;" (some 0) with kind := .array 6 (.object "com/example/gofyn/gofyn/keyword/Degree"), interfaces := #[7, 4], accessFlags := 1041 }

def heap : Heap := #[{ cls := 6, slots := #[.ref 1, .ref 2, .ref 3, .ref 4, .ref 5, .ref 6, .ref 7, .null], vm := .statics 6 },
  { cls := 6, slots := #[.null, .int 0, .int 0], vm := .none },
  { cls := 6, slots := #[.null, .int 1, .int 0], vm := .none },
  { cls := 6, slots := #[.null, .int 2, .int 0], vm := .none },
  { cls := 6, slots := #[.null, .int 3, .int 0], vm := .none },
  { cls := 6, slots := #[.null, .int 4, .int 0], vm := .none },
  { cls := 6, slots := #[.null, .int 5, .int 0], vm := .none },
  { cls := 6, slots := #[.null, .int 6, .int 0], vm := .none }]
def classes : Array Class := #[k0, k1, k2, k3, k4, k5, k6, k7, k8, k9, k10, k11, k12, k13, k14]
def interned : List (Array UInt16 × Addr) := []
def slotsUsed : Nat := 29
def theMethod : MethodId := ⟨1, 1⟩
def args0 : Array Value := #[.int 5]
def aboutOver (below : List Frame) : State where
  vm := { classes := classes, interned := interned.toArray }
  heap := heap
  slotsUsed := slotsUsed
  threads := #[{ frames := .invoking theMethod args0 :: below }]
def below0 : List Frame := [.native { method := ⟨0, 0⟩, args := #[] }]
def about1 : State := aboutOver below0
def p0 : Program := .bare "" "" ""
def e0 : Env := launch0.env 0 0 0
theorem w_frames : about1.frames = Frame.invoking theMethod args0 :: below0 := rfl
set_option maxRecDepth 65536 in
theorem w_args : argsFit about1.vm theMethod args0 = true := by decide +kernel
set_option maxRecDepth 65536 in
theorem w_heap : heapFits about1 = true := by decide +kernel
set_option maxRecDepth 65536 in
theorem w_runnable : about1.curStatus? = some .runnable := by decide +kernel
set_option maxRecDepth 65536 in
theorem w_alone : about1.alone = true := by decide +kernel
set_option maxRecDepth 65536 in
theorem w_named : about1.methodNamed? x = some theMethod := by decide +kernel
set_option maxRecDepth 65536 in
theorem w_hears : about1.hears theMethod below0 = true := by decide +kernel
set_option maxRecDepth 65536 in
theorem w_ripe : about1.ripe theMethod args0 below0 = true := by decide +kernel
theorem w_running : about1.status = .running := rfl
set_option maxRecDepth 65536 in
theorem w_room : about1.hasRoom e0.platform room_1 = true :=
  launch0.hasRoom_least _ room_1 (by decide +kernel) (by decide +kernel) (by decide +kernel) (by decide +kernel) (by decide +kernel) (by decide +kernel)
theorem allAtoms_all (ts : List Jvm.Cond) (a : Array Jvm.Value) (st : Jvm.State) : (allAtoms ts).before a st = ts.all (fun c => c.before a st) := by
  induction ts with
  | nil => rfl
  | cons c t ih =>
    show (Jvm.Cond.and c (allAtoms t)).before a st = _
    rw [Jvm.Cond.before_and, ih, List.all_cons]
def words1 : List Jvm.Cond := Jvm.Cond.code x code maxLocals ret :: tables_1
/-- a 'code' word, met by the world's own term for the bytes: nothing is compared byte by byte -/
theorem code_word {y : MethodName} {bytes : ByteArray} {mx : Nat} {rt : Option FieldType} {a : Array Value} {s : State} {m : MethodId} {meth : Method} {c : Code} (h1 : s.methodNamed? y = some m) (h2 : s.vm.method? m = some meth) (h3 : meth.code = some c) (h4 : c.code = bytes)
    (h5 : (c.maxLocals == mx && c.exceptionTable.isEmpty && decide (c.maxStack ≤ mostOperands) && decide (meth.sig.returnType = rt) && !meth.locks && decide (parseMethodDescriptor y.desc = some meth.sig)) = true) : (Jvm.Cond.code y bytes mx rt).before a s = true := by
  simp only [Bool.and_eq_true, beq_iff_eq, Bool.not_eq_true', decide_eq_true_eq] at h5
  obtain ⟨⟨⟨⟨⟨g1, g2⟩, g3⟩, g4⟩, g5⟩, g6⟩ := h5
  simp [Cond.before, Cond.holds, Cond.value, h1, h2, h3, h4, g1, g2, g3, g4, g5, g6]
def isCode : Jvm.Cond → Bool
  | .code _ _ _ _ => true
  | _ => false
theorem all_split {L : List Jvm.Cond} {P : Jvm.Cond → Bool} (h1 : L.all (fun c => isCode c || P c) = true) (h2 : ∀ c ∈ L.filter isCode, P c = true) : L.all P = true := by
  refine List.all_eq_true.mpr fun c hc => ?_
  have h := List.all_eq_true.mp h1 c hc
  rcases Bool.eq_false_or_eq_true (isCode c) with hi | hi
  · exact h2 c (List.mem_filter.mpr ⟨hc, hi⟩)
  · simpa [hi] using h
set_option maxRecDepth 65536 in
theorem w_c0 : (Jvm.Cond.code x code maxLocals ret).before args0 about1 = true := code_word (m := ⟨1, 1⟩) (meth := k1m1) (c := k1c1) (by decide +kernel) rfl rfl rfl (by decide +kernel)
set_option maxRecDepth 65536 in
theorem w_c1 : (Jvm.Cond.code ({ cls := "com/example/gofyn/gofyn/keyword/Degree", name := "isGreater", desc := "()Z" } : Jvm.MethodName) prog_7_method_4_code (1 : Nat) (Option.some Jvm.ClassFile.FieldType.boolean)).before args0 about1 = true := code_word (m := ⟨6, 0⟩) (meth := k6m0) (c := k6c0) (by decide +kernel) rfl rfl rfl (by decide +kernel)
def codes1 : List Jvm.Cond := [Jvm.Cond.code x code maxLocals ret, Jvm.Cond.code ({ cls := "com/example/gofyn/gofyn/keyword/Degree", name := "isGreater", desc := "()Z" } : Jvm.MethodName) prog_7_method_4_code (1 : Nat) (Option.some Jvm.ClassFile.FieldType.boolean)]
set_option maxRecDepth 65536 in
theorem codes_eq : words1.filter isCode = codes1 := rfl
theorem w_codes : ∀ c ∈ words1.filter isCode, c.before args0 about1 = true := by
  rw [codes_eq]
  intro c hc
  simp only [codes1, List.mem_cons, List.not_mem_nil, or_false] at hc
  rcases hc with rfl | rfl
  · exact w_c0
  · exact w_c1
set_option maxRecDepth 65536 in
theorem w_t1 : (words1.take 24).all (fun c => isCode c || c.before args0 about1) = true := by decide +kernel
set_option maxRecDepth 65536 in
theorem w_t2 : (words1.drop 24).all (fun c => isCode c || c.before args0 about1) = true := by decide +kernel
theorem w_tables : (allAtoms (Jvm.Cond.code x code maxLocals ret :: tables_1)).before args0 about1 = true := by
  rw [allAtoms_all]
  show words1.all (fun c => c.before args0 about1) = true
  refine all_split ?_ w_codes
  rw [← List.take_append_drop 24 words1, List.all_append, w_t1, w_t2]
  rfl
set_option maxRecDepth 65536 in
theorem w_case : (Jvm.Cond.and given_1 narrow_1).before args0 about1 = true := by decide +kernel
theorem w_applies : (headSpec (Jvm.Cond.code x code maxLocals ret :: tables_1) room_1).applies x e0.platform about1 = true :=
  (Spec.applies_iff w_frames).mpr ⟨w_running, w_runnable, w_alone, w_named, w_hears, w_ripe, w_room, w_tables⟩
theorem atStart : AtStart classFile x code maxLocals ret World_1 tables_1 room_1 Calls_1 rest_1 Pre_1 launch0 p0 e0 about1 theMethod args0 below0 :=
  ⟨lists_1, trivial, launch0.admits_env _ _ _, launch0.least_env, fairChoices_fair.cas, fairChoices_fair.clock, w_frames, w_args, w_heap, w_applies, trivial, trivial, w_case⟩
end start1
theorem witness_1 : WitnessClaimed_1 := ⟨start1.p0, start1.e0, start1.about1, start1.theMethod, start1.args0, start1.below0, start1.atStart⟩
end Jvm.Pilot.@@N@@

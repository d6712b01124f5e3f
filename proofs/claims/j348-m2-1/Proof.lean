import JvmDerived
import JvmDerived.Pilot.@@N@@Statement
import JvmDerived.Pilot.@@N@@Code
set_option linter.unusedVariables false
set_option linter.unusedSimpArgs false
namespace Jvm.Pilot.@@N@@
open Jvm Jvm.ClassFile Sem Op Lib Jvm.Free Jvm.Stand Jvm.LawKit Jvm.RoadKit Bundle Jvm.Pilot.@@N@@.Jvm.D
/-! the walk in continuation style: 'Go .. A': from A the run comes to its end, and P holds there -/
def Go (p : Program) (e : Env) (below : List Frame) (P : Outcome → State → Prop) (A : State) : Prop := ∃ s₂ o, Steps p.tables e below A s₂ ∧ s₂.status = .running ∧ Ended s₂ below o ∧ P o s₂
theorem Go.by {p : Program} {e : Env} {below : List Frame} {P : Outcome → State → Prop} {A B : State} (h : ∀ t, Steps p.tables e below B t → Steps p.tables e below A t) (k : Go p e below P B) : Go p e below P A := by
  obtain ⟨s2, o, h1, h2⟩ := k
  exact ⟨s2, o, h _ h1, h2⟩
def End (s : State) (Q : Option Value → Heap → List Loc → Prop) (k n : Nat) (o : Outcome) (U : State) : Prop := ∃ v L, o = .returned v ∧ Q v U.heap L ∧ FrameEnd s o U L k n
section Ends
variable {p : Program} {l : Launch} {e : Env} {R : Room} {s : State} {m : MethodId} {args : Array Value} {below : List Frame} {meth : Method} {c : Code} {T : State} {locs : List Loc} {cells slots : Nat} {Q : Option Value → Heap → List Loc → Prop} {C S : Nat}
theorem Go.fin (X : Stand p l e R s m args below meth c T locs cells slots) {A : State} {v : Option Value} (hv : meth.sig.returnType = none → v = none) (hlk : meth.locks = false) (hk : cells ≤ C) (hn : slots ≤ S) (hQ : Q v T.heap locs)
    (k : ∀ fs, (∀ (f : JFrame) (acts : List Action), f.method = m → f.locked = none → f.entered = [] → (doReturn e (T.setTop f) acts v).1 = T.setFrames fs) → Steps p.tables e below A (T.setFrames fs)) : Go p e below (End s Q C S) A := by
  obtain ⟨fs, hr, hrun, hended, hW, hsame⟩ := X.leave (v := v) hv hlk
  exact ⟨_, _, k fs hr, hrun, hended, _, _, rfl, hQ, ⟨_, rfl⟩, hW, hsame.mono hk hn⟩
theorem Go.retZ (X : Stand p l e R s m args below meth c T locs cells slots) (hx : p.tables.exec = Jvm.exec) {pc : Nat} {Ls : Array Slot} {z : Int32} {t : FieldType} {rest : List Value} (hret : meth.sig.returnType = some t) (ht : t = .boolean ∨ t = .byte ∨ t = .char ∨ t = .short) (hlk : meth.locks = false)
    (hd : decode c.code pc = .ok (.ireturn, 1)) (hk : cells ≤ C) (hn : slots ≤ S) (hQ : Q (some (.int (nar t z))) T.heap locs) : Go p e below (End s Q C S) (T.setTop (mkF m pc Ls (.int z :: rest))) :=
  Go.fin X (fun h => by rw [hret] at h; cases h) hlk hk hn hQ fun fs hr => retN X hx hret ht hd hr
theorem Go.retI (X : Stand p l e R s m args below meth c T locs cells slots) (hx : p.tables.exec = Jvm.exec) {pc : Nat} {Ls : Array Slot} {z : Int32} {rest : List Value} (hret : meth.sig.returnType = some .int) (hlk : meth.locks = false)
    (hd : decode c.code pc = .ok (.ireturn, 1)) (hk : cells ≤ C) (hn : slots ≤ S) (hQ : Q (some (.int z)) T.heap locs) : Go p e below (End s Q C S) (T.setTop (mkF m pc Ls (.int z :: rest))) :=
  Go.fin X (fun h => by rw [hret] at h; cases h) hlk hk hn hQ fun fs hr => retOut X hx hret rfl (Or.inl ⟨rfl, Or.inl rfl, _, rfl⟩) hd hr
theorem Go.retR (X : Stand p l e R s m args below meth c T locs cells slots) (hx : p.tables.exec = Jvm.exec) {pc : Nat} {Ls : Array Slot} {w : Value} {t : FieldType} {rest : List Value} (hret : meth.sig.returnType = some t) (ht : t.isReference = true) (hw : w.isRef = true) (hlk : meth.locks = false)
    (hd : decode c.code pc = .ok (.areturn, 1)) (hk : cells ≤ C) (hn : slots ≤ S) (hQ : Q (some w) T.heap locs) : Go p e below (End s Q C S) (T.setTop (mkF m pc Ls (w :: rest))) :=
  Go.fin X (fun h => by rw [hret] at h; cases h) hlk hk hn hQ fun fs hr => retOut X hx hret (by cases t <;> cases w <;> first | rfl | (simp [FieldType.isReference] at ht) | (simp [Value.isRef] at hw)) (Or.inr (Or.inr (Or.inr (Or.inr ⟨rfl, ht, hw⟩)))) hd hr
theorem Go.retV (X : Stand p l e R s m args below meth c T locs cells slots) (hx : p.tables.exec = Jvm.exec) {pc : Nat} {Ls : Array Slot} (hret : meth.sig.returnType = none) (hlk : meth.locks = false)
    (hd : decode c.code pc = .ok (.return_, 1)) (hk : cells ≤ C) (hn : slots ≤ S) (hQ : Q none T.heap locs) : Go p e below (End s Q C S) (T.setTop (mkF m pc Ls [])) :=
  Go.fin X (fun _ => rfl) hlk hk hn hQ fun fs hr => X.returnOut hx hret hd hr
theorem own_iinc {tb : Tables} [Ours tb] {e : Env} {below : List Frame} {T target : State} {m : MethodId} {c : Code} {g : JFrame} (h : At T m c below) (hx : tb.exec = Jvm.exec) (hg : g.method = m) {k : Nat} {cst : Int} {x z : Int32} {l' : Array Slot} (hd : decode c.code g.pc = .ok (.iinc k cst, 3)) (hl : g.locals[k]? = some (.val (.int x))) (hz : Int32.ofInt cst = z) (hl' : storeLocals g.locals k (.int (x + z)) = some l')
    (hr : Steps tb e below (T.setTop { g with pc := g.pc + 3, locals := l' }) target) : Steps tb e below (T.setTop g) target := XS.iinc h hx hg hd hl (by rw [hz]; exact hl') hr
theorem own_eqi {t : Term} {n : Int32} {args : Array Value} {s : State} (h : (Cond.eq t (.int n)).before args s = true) : t.eval args s none [] s = some (.int n) := Cond.eq_int h (Term.int_eval n)
theorem own_n1 : nar .boolean (1 : Int32) = 1 := rfl
theorem own_n0 : nar .boolean (0 : Int32) = 0 := rfl
theorem own_wid (X : Stand p l e R s m args below meth c T locs cells slots) (hk : cells ≤ C) (hn : slots ≤ S) : Stand p l e R s m args below meth c T locs C S :=
  ⟨X.admits, X.cas, X.clock, X.frames, X.room, X.hears, X.method, X.code, X.here, X.tail, X.warmed, X.limits, X.bytes, X.same.mono hk hn⟩
end Ends
def Glob (Z : State) (wDIGITS : Addr) (wALPHANUMERIC : Addr) (wLETTERS : Addr) : Prop := Sta Z Z.heap "com/example/kontoform/kontoform/CharacterClass" "DIGITS" "Lcom/example/kontoform/kontoform/CharacterClass;" (.ref wDIGITS) ∧ Exa Z Z.heap wDIGITS "com/example/kontoform/kontoform/CharacterClass" ∧ Fld Z Z.heap wDIGITS "java/lang/Enum" "ordinal" "I" (.int (0 : Int32)) ∧ Sta Z Z.heap "com/example/kontoform/kontoform/CharacterClass" "ALPHANUMERIC" "Lcom/example/kontoform/kontoform/CharacterClass;" (.ref wALPHANUMERIC) ∧ Exa Z Z.heap wALPHANUMERIC "com/example/kontoform/kontoform/CharacterClass" ∧ Fld Z Z.heap wALPHANUMERIC "java/lang/Enum" "ordinal" "I" (.int (2 : Int32)) ∧ Sta Z Z.heap "com/example/kontoform/kontoform/CharacterClass" "LETTERS" "Lcom/example/kontoform/kontoform/CharacterClass;" (.ref wLETTERS) ∧ Exa Z Z.heap wLETTERS "com/example/kontoform/kontoform/CharacterClass" ∧ Fld Z Z.heap wLETTERS "java/lang/Enum" "ordinal" "I" (.int (1 : Int32))
theorem own_lt3 (i : Int32) (h : 0 ≤ i.toInt ∧ i.toInt < 3) : i = 0 ∨ i = 1 ∨ i = 2 := by
  have q : i.toInt = 0 ∨ i.toInt = 1 ∨ i.toInt = 2 := by omega
  rcases q with q | q | q
  · exact Or.inl (Int32.toInt_inj.mp q)
  · exact Or.inr (Or.inl (Int32.toInt_inj.mp q))
  · exact Or.inr (Or.inr (Int32.toInt_inj.mp q))
theorem own_mod3 (x : Int32) : 0 ≤ ((x &&& (2147483647 : Int32)) % (3 : Int32)).toInt ∧ ((x &&& (2147483647 : Int32)) % (3 : Int32)).toInt < 3 := by
  have h1 : (x &&& (2147483647 : Int32)).toInt = x.toInt % (2 ^ 31 : Nat) := c_mask x 2147483647 31 (by decide) (by decide)
  have h2 := (c_irem (x &&& (2147483647 : Int32)) 3 3 rfl).1 (by omega)
  omega
theorem own_yes {p a b : Int32} (h : ¬ p < a ∧ ¬ b < p) : (1 : Int32) = if p < a then 0 else if b < p then 0 else 1 := by rw [if_neg h.1, if_neg h.2]
theorem own_no {p a b : Int32} (h : ¬ (¬ p < a ∧ ¬ b < p)) : (0 : Int32) = if p < a then 0 else if b < p then 0 else 1 := by
  by_cases h1 : p < a
  · rw [if_pos h1]
  · by_cases h2 : b < p
    · rw [if_neg h1, if_pos h2]
    · exact absurd ⟨h1, h2⟩ h
theorem own_sub (c k : Int32) (h : 0 ≤ c.toInt ∧ c.toInt < 65536) (hk : 0 ≤ k.toInt ∧ k.toInt < 65536) : (c - k).toInt = c.toInt - k.toInt := by
  have h1 := c_isub c k
  have h2 := rng32 (c - k)
  omega
theorem own_in48 (c : Int32) (h : 48 ≤ c.toInt ∧ c.toInt ≤ 57) : (1 : Int32) = if c < 48 then 0 else if 57 < c then 0 else 1 := by
  have k1 : (48 : Int32).toInt = 48 := rfl
  have k2 : (57 : Int32).toInt = 57 := rfl
  exact own_yes ⟨by rw [Int32.lt_iff_toInt_lt]; omega, by rw [Int32.lt_iff_toInt_lt]; omega⟩
theorem own_out48 (c : Int32) (h : ¬ (48 ≤ c.toInt ∧ c.toInt ≤ 57)) : (0 : Int32) = if c < 48 then 0 else if 57 < c then 0 else 1 := by
  have k1 : (48 : Int32).toInt = 48 := rfl
  have k2 : (57 : Int32).toInt = 57 := rfl
  exact own_no (by rw [Int32.lt_iff_toInt_lt, Int32.lt_iff_toInt_lt]; omega)
theorem own_in65 (c : Int32) (h : 65 ≤ c.toInt ∧ c.toInt ≤ 90) : (1 : Int32) = if c < 65 then 0 else if 90 < c then 0 else 1 := by
  have k1 : (65 : Int32).toInt = 65 := rfl
  have k2 : (90 : Int32).toInt = 90 := rfl
  exact own_yes ⟨by rw [Int32.lt_iff_toInt_lt]; omega, by rw [Int32.lt_iff_toInt_lt]; omega⟩
theorem own_out65 (c : Int32) (h : ¬ (65 ≤ c.toInt ∧ c.toInt ≤ 90)) : (0 : Int32) = if c < 65 then 0 else if 90 < c then 0 else 1 := by
  have k1 : (65 : Int32).toInt = 65 := rfl
  have k2 : (90 : Int32).toInt = 90 := rfl
  exact own_no (by rw [Int32.lt_iff_toInt_lt, Int32.lt_iff_toInt_lt]; omega)
theorem own_alpha (c : Int32) (h : (48 ≤ c.toInt ∧ c.toInt ≤ 57) ∨ (65 ≤ c.toInt ∧ c.toInt ≤ 90)) : (1 : Int32) = if (¬ c < 48 ∧ ¬ 57 < c) ∨ (¬ c < 65 ∧ ¬ 90 < c) then 1 else 0 := by
  have k1 : (48 : Int32).toInt = 48 := rfl
  have k2 : (57 : Int32).toInt = 57 := rfl
  have k3 : (65 : Int32).toInt = 65 := rfl
  have k4 : (90 : Int32).toInt = 90 := rfl
  rw [if_pos (by simp only [Int32.lt_iff_toInt_lt]; omega)]
theorem own_alphaN (c : Int32) (h1 : ¬ (48 ≤ c.toInt ∧ c.toInt ≤ 57)) (h2 : ¬ (65 ≤ c.toInt ∧ c.toInt ≤ 90)) : (0 : Int32) = if (¬ c < 48 ∧ ¬ 57 < c) ∨ (¬ c < 65 ∧ ¬ 90 < c) then 1 else 0 := by
  have k1 : (48 : Int32).toInt = 48 := rfl
  have k2 : (57 : Int32).toInt = 57 := rfl
  have k3 : (65 : Int32).toInt = 65 := rfl
  have k4 : (90 : Int32).toInt = 90 := rfl
  rw [if_neg (by simp only [Int32.lt_iff_toInt_lt]; omega)]
theorem pn_0 : plainName "java/lang/Enum" = true := by first | (simp [plainName, overriddenIn]; done) | decide +kernel
theorem pd_0 : parseMethodDescriptor "()I" = some ⟨[], some .int⟩ := by decide +kernel
theorem pn_1 : plainName "com/example/kontoform/kontoform/CharacterClass" = true := by first | (simp [plainName, overriddenIn]; done) | decide +kernel
theorem pd_1 : parseMethodDescriptor "(C)Z" = some ⟨[.char], some .boolean⟩ := by decide +kernel
theorem pn_2 : plainName "com/example/kontoform/kontoform/CharacterClassAdmitsPinLaw" = true := by first | (simp [plainName, overriddenIn]; done) | decide +kernel
theorem d2_0 : decode jdk_37_method_2_code 0 = .ok (.aload_n 0, 1) := by decide +kernel
theorem d2_1 : decode jdk_37_method_2_code 1 = .ok (.getfield 7, 3) := by decide +kernel
theorem d2_4 : decode jdk_37_method_2_code 4 = .ok (.ireturn, 1) := by decide +kernel
theorem ef_ord (m : MethodId) (x0 : Addr) : entryFrame m #[(.ref x0)] 1 = mkF m 0 #[.val (.ref x0)] [] := by first | (simp [entryFrame, mkF, argsToLocals, Value.category]; done) | rfl
def Q_ord (Z : State) (wDIGITS : Addr) (wALPHANUMERIC : Addr) (wLETTERS : Addr) (a1 : Addr) (w1 : Int32) (h0 : Heap) (n0 : Nat) (v : Option Value) (h : Heap) (L : List Loc) : Prop := v = some (.int w1) ∧ Fr n0 L ∧ h = h0
set_option maxRecDepth 65536 in
set_option maxHeartbeats 40000000 in
theorem rm_ord (l : Launch) (Z : State) (a0 : Array Value) (hw : ∀ d ∈ tables_1, d.before a0 Z = true) (ws : List Jvm.Cond) (wDIGITS : Addr) (wALPHANUMERIC : Addr) (wLETTERS : Addr) (hG : Glob Z wDIGITS wALPHANUMERIC wLETTERS) (a1 : Addr) (w1 : Int32) (h0 : Heap) (n0 : Nat) (Z0 : n0 ≤ h0.size) (O0 : Old Z n0 h0) (P0 : Fld Z h0 a1 "java/lang/Enum" "ordinal" "I" (.int w1)) :
    MetFree l (⟨"java/lang/Enum", "ordinal", "()I"⟩ : MethodName) (head1 (Jvm.Cond.code (⟨"java/lang/Enum", "ordinal", "()I"⟩ : MethodName) jdk_37_method_2_code 1 (some .int) :: ws) ({ frames := 0, cells := 0, slots := 0, locals := 0 } : Room)) (fun a U => a = #[(.ref a1)] ∧ Z.Warmed39 U.vm ∧ U.heap = h0) (fun _ _ _ _ _ => True) (fun _ U o U' => ∃ v L, o = .returned v ∧ Q_ord Z wDIGITS wALPHANUMERIC wLETTERS a1 w1 h0 n0 v U'.heap L ∧ FrameEnd U o U' L ({ frames := 0, cells := 0, slots := 0, locals := 0 } : Room).cells ({ frames := 0, cells := 0, slots := 0, locals := 0 } : Room).slots) := by
  refine MetFree.of_bodySF (plainFor_of_name pn_0) hisR ?_
  intro p e s m args below meth c s₁ Bd hml0 hP hK
  obtain ⟨rfl, hZ, hh⟩ := hP
  have hx := Bd.exec
  have hby := Bd.bytes
  have hml : c.maxLocals = 1 := hml0
  have hown : s.vm.findClass "java/lang/Enum" = some m.cls := findClass_of_methodNamed Bd.named
  have hnm := (name_of_methodNamed Bd.named Bd.method).1
  have hlk : meth.locks = false := BodyLoose.notSynchronized Bd
  have X0 : Stand p l e ({ frames := 0, cells := 0, slots := 0, locals := 0 } : Room) s m #[(.ref a1)] below meth c s₁ [] 0 0 := Stand.of_body Bd
  have e0 : s₁.heap = h0 := by rw [← hh, Bd.state]; rfl
  have N0 := Fr.nil n0
  obtain ⟨G0, G1, G2, G3, G4, G5, G6, G7, G8⟩ := id hG
  show Go p e below (End s (Q_ord Z wDIGITS wALPHANUMERIC wLETTERS a1 w1 h0 n0) ({ frames := 0, cells := 0, slots := 0, locals := 0 } : Room).cells ({ frames := 0, cells := 0, slots := 0, locals := 0 } : Room).slots) (s₁.setTop (entryFrame m #[(.ref a1)] 1))
  rw [ef_ord]
  generalize hP : End s (Q_ord Z wDIGITS wALPHANUMERIC wLETTERS a1 w1 h0 n0) ({ frames := 0, cells := 0, slots := 0, locals := 0 } : Room).cells ({ frames := 0, cells := 0, slots := 0, locals := 0 } : Room).slots = P
  show Go p e below P (s₁.setTop (mkF m 0 #[.val (.ref a1)] []))
  refine Go.by (fun _ => XS.aloadN X0.here hx rfl (hb hby d2_0) rfl rfl) ?_
  show Go p e below P (s₁.setTop (mkF m 1 #[.val (.ref a1)] [(.ref a1)]))
  obtain ⟨T1, X1, e1, st1⟩ := getF X0 hx hZ hown (host := "") (Or.inl (hw _ (List.mem_of_getElem? (i := 17) rfl))) Via.refl e0 P0 (g := (mkF m 1 #[.val (.ref a1)] [(.ref a1)])) rfl rfl (hb hby d2_1)
  refine Go.by (fun _ => st1 _) ?_
  show Go p e below P (T1.setTop (mkF m 4 #[.val (.ref a1)] [(.int w1)]))
  subst hP
  refine Go.retI X1 hx Bd.returns hlk (hb hby d2_4) (Nat.le_of_ble_eq_true rfl) (Nat.le_of_ble_eq_true rfl) ?_
  rw [e1]
  exact ⟨rfl, N0, rfl⟩
theorem d1_0 : decode prog_13_method_5_code 0 = .ok (.aload_n 0, 1) := by decide +kernel
theorem d1_1 : decode prog_13_method_5_code 1 = .ok (.invokevirtual 51, 3) := by decide +kernel
theorem d1_4 : decode prog_13_method_5_code 4 = .ok (.tableswitch 28 0 2 #[38, 58, 78], 28) := by decide +kernel
theorem d1_42 : decode prog_13_method_5_code 42 = .ok (.iload_n 1, 1) := by decide +kernel
theorem d1_43 : decode prog_13_method_5_code 43 = .ok (.bipush 48, 2) := by decide +kernel
theorem d1_45 : decode prog_13_method_5_code 45 = .ok (.if_icmp .lt 13, 3) := by decide +kernel
theorem d1_48 : decode prog_13_method_5_code 48 = .ok (.iload_n 1, 1) := by decide +kernel
theorem d1_49 : decode prog_13_method_5_code 49 = .ok (.bipush 57, 2) := by decide +kernel
theorem d1_51 : decode prog_13_method_5_code 51 = .ok (.if_icmp .gt 7, 3) := by decide +kernel
theorem d1_54 : decode prog_13_method_5_code 54 = .ok (.iconst 1, 1) := by decide +kernel
theorem d1_55 : decode prog_13_method_5_code 55 = .ok (.goto 52, 3) := by decide +kernel
theorem d1_58 : decode prog_13_method_5_code 58 = .ok (.iconst 0, 1) := by decide +kernel
theorem d1_59 : decode prog_13_method_5_code 59 = .ok (.goto 48, 3) := by decide +kernel
theorem d1_107 : decode prog_13_method_5_code 107 = .ok (.ireturn, 1) := by decide +kernel
theorem ef_adm0 (m : MethodId) (x0 : Addr) (x1 : Int32) : entryFrame m #[(.ref x0), (.int x1)] 2 = mkF m 0 #[.val (.ref x0), .val (.int x1)] [] := by first | (simp [entryFrame, mkF, argsToLocals, Value.category]; done) | rfl
def Q_adm0 (Z : State) (wDIGITS : Addr) (wALPHANUMERIC : Addr) (wLETTERS : Addr) (p1 : Int32) (r : Int32) (h0 : Heap) (n0 : Nat) (v : Option Value) (h : Heap) (L : List Loc) : Prop := v = some (.int r) ∧ Fr n0 L ∧ h = h0
set_option maxRecDepth 65536 in
set_option maxHeartbeats 40000000 in
theorem rm_adm0 (l : Launch) (Z : State) (a0 : Array Value) (hw : ∀ d ∈ tables_1, d.before a0 Z = true) (ws : List Jvm.Cond) (wDIGITS : Addr) (wALPHANUMERIC : Addr) (wLETTERS : Addr) (hG : Glob Z wDIGITS wALPHANUMERIC wLETTERS) (p1 : Int32) (r : Int32) (h0 : Heap) (n0 : Nat) (Z0 : n0 ≤ h0.size) (O0 : Old Z n0 h0) (hr : r = if p1 < 48 then 0 else if 57 < p1 then 0 else 1) :
    MetFree l (⟨"com/example/kontoform/kontoform/CharacterClass", "admits", "(C)Z"⟩ : MethodName) (head1 (Jvm.Cond.code (⟨"com/example/kontoform/kontoform/CharacterClass", "admits", "(C)Z"⟩ : MethodName) prog_13_method_5_code 2 (some .boolean) :: ws) ({ frames := 1, cells := 0, slots := 0, locals := 12 } : Room)) (fun a U => a = #[(.ref wDIGITS), (.int p1)] ∧ Z.Warmed39 U.vm ∧ U.heap = h0) (fun _ _ _ _ _ => True) (fun _ U o U' => ∃ v L, o = .returned v ∧ Q_adm0 Z wDIGITS wALPHANUMERIC wLETTERS p1 r h0 n0 v U'.heap L ∧ FrameEnd U o U' L ({ frames := 1, cells := 0, slots := 0, locals := 12 } : Room).cells ({ frames := 1, cells := 0, slots := 0, locals := 12 } : Room).slots) := by
  refine MetFree.of_bodySF (plainFor_of_name pn_1) hisR ?_
  intro p e s m args below meth c s₁ Bd hml0 hP hK
  obtain ⟨rfl, hZ, hh⟩ := hP
  have hx := Bd.exec
  have hby := Bd.bytes
  have hml : c.maxLocals = 2 := hml0
  have hown : s.vm.findClass "com/example/kontoform/kontoform/CharacterClass" = some m.cls := findClass_of_methodNamed Bd.named
  have hnm := (name_of_methodNamed Bd.named Bd.method).1
  have hlk : meth.locks = false := BodyLoose.notSynchronized Bd
  have X0 : Stand p l e ({ frames := 1, cells := 0, slots := 0, locals := 12 } : Room) s m #[(.ref wDIGITS), (.int p1)] below meth c s₁ [] 0 0 := Stand.of_body Bd
  have e0 : s₁.heap = h0 := by rw [← hh, Bd.state]; rfl
  have N0 := Fr.nil n0
  obtain ⟨G0, G1, G2, G3, G4, G5, G6, G7, G8⟩ := id hG
  show Go p e below (End s (Q_adm0 Z wDIGITS wALPHANUMERIC wLETTERS p1 r h0 n0) ({ frames := 1, cells := 0, slots := 0, locals := 12 } : Room).cells ({ frames := 1, cells := 0, slots := 0, locals := 12 } : Room).slots) (s₁.setTop (entryFrame m #[(.ref wDIGITS), (.int p1)] 2))
  rw [ef_adm0]
  generalize hP : End s (Q_adm0 Z wDIGITS wALPHANUMERIC wLETTERS p1 r h0 n0) ({ frames := 1, cells := 0, slots := 0, locals := 12 } : Room).cells ({ frames := 1, cells := 0, slots := 0, locals := 12 } : Room).slots = P
  show Go p e below P (s₁.setTop (mkF m 0 #[.val (.ref wDIGITS), .val (.int p1)] []))
  refine Go.by (fun _ => XS.aloadN X0.here hx rfl (hb hby d1_0) rfl rfl) ?_
  show Go p e below P (s₁.setTop (mkF m 1 #[.val (.ref wDIGITS), .val (.int p1)] [(.ref wDIGITS)]))
  obtain ⟨cq1, kq1, qa1, qb1, qc1⟩ := isOf hZ e0 (G1.ext O0.2)
  obtain ⟨_, _, ⟨T1, L1, k1, n1⟩, -, X1, ⟨Lc1, hQ1, l1, y1, z1⟩, st1⟩ := X0.virtualBackUp hx (x := (⟨"com/example/kontoform/kontoform/CharacterClass", "ordinal", "()I"⟩ : MethodName)) (y := (⟨"java/lang/Enum", "ordinal", "()I"⟩ : MethodName)) hown (mvT hZ (hw _ (List.mem_of_getElem? (i := 10) rfl))) (mvT hZ (hw _ (List.mem_of_getElem? (i := 11) rfl))) (mvT hZ (hw _ (List.mem_of_getElem? (i := 12) rfl))) (by decide) (mvT hZ (hw _ (List.mem_of_getElem? (i := 14) rfl))) (mvT hZ (hw _ (List.mem_of_getElem? (i := 13) rfl))) (backOf (W := 0) (rm_ord l Z a0 hw [] wDIGITS wALPHANUMERIC wLETTERS hG wDIGITS ((0 : Int32)) h0 n0 Z0 O0 (G2.ext O0.2) ) hZ (hw _ (List.mem_of_getElem? (i := 16) rfl)) (hw _ (List.mem_of_getElem? (i := 15) rfl)) (Nat.le_of_ble_eq_true rfl) (Nat.le_of_ble_eq_true rfl)) qa1 qc1 (g := (mkF m 1 #[.val (.ref wDIGITS), .val (.int p1)] [(.ref wDIGITS)])) rfl (by rw [hml]; rfl) (Steps.refl _) (argsL := []) (rest := []) (lenOf pd_0 rfl) rfl (by show 2 * 0 + _ ≤ _; exact Nat.le_of_eq rfl) (hb hby d1_1) (fun _ _ => ⟨rfl, e0, (Nat.le_of_ble_eq_true rfl : 0 + 0 ≤ _), (Nat.le_of_ble_eq_true rfl : 0 + 0 ≤ _)⟩)
  dsimp only [Pt.U, Pt.locs, Pt.cells, Pt.slots] at X1 l1 y1 z1 st1 hQ1
  subst l1 y1 z1
  obtain ⟨rfl, Nq1, eq1⟩ := hQ1
  have N1 := Fr.app N0 Nq1
  refine Go.by (fun _ k => st1.trans k) ?_
  show Go p e below P (T1.setTop (mkF m 4 #[.val (.ref wDIGITS), .val (.int p1)] [(.int (0 : Int32))]))
  refine Go.by (fun _ => XS.tswIn X1.here hx (g := (mkF m 4 #[.val (.ref wDIGITS), .val (.int p1)] [(.int (0 : Int32))])) rfl (pc0 := 4) (pc' := 42) rfl (hb hby d1_4) (i := 0) (rest := []) rfl (by decide) (o := 38) (by decide) (by decide) (by decide)) ?_
  show Go p e below P (T1.setTop (mkF m 42 #[.val (.ref wDIGITS), .val (.int p1)] []))
  refine Go.by (fun _ => XS.iloadN X1.here hx rfl (hb hby d1_42) rfl) ?_
  show Go p e below P (T1.setTop (mkF m 43 #[.val (.ref wDIGITS), .val (.int p1)] [(.int p1)]))
  refine Go.by (fun _ => XS.bipush X1.here hx rfl (hb hby d1_43)) ?_
  show Go p e below P (T1.setTop (mkF m 45 #[.val (.ref wDIGITS), .val (.int p1)] [(.int (48 : Int32)), (.int p1)]))
  by_cases hc45 : p1 < (48 : Int32)
  · refine Go.by (fun _ => XS.icmpYes X1.here hx rfl (pc0 := 45) (pc' := 58) rfl (hb hby d1_45) rfl (tlt hc45).1 (by decide) (by decide)) ?_
    show Go p e below P (T1.setTop (mkF m 58 #[.val (.ref wDIGITS), .val (.int p1)] []))
    refine Go.by (fun _ => XS.iconst X1.here hx rfl (hb hby d1_58)) ?_
    show Go p e below P (T1.setTop (mkF m 59 #[.val (.ref wDIGITS), .val (.int p1)] [(.int (0 : Int32))]))
    refine Go.by (fun _ => XS.goto X1.here hx rfl (pc0 := 59) (pc' := 107) rfl (hb hby d1_59) (by decide) (by decide)) ?_
    show Go p e below P (T1.setTop (mkF m 107 #[.val (.ref wDIGITS), .val (.int p1)] [(.int (0 : Int32))]))
    subst hP
    refine Go.retZ X1 hx (t := .boolean) Bd.returns (by simp) hlk (hb hby d1_107) (Nat.le_of_ble_eq_true rfl) (Nat.le_of_ble_eq_true rfl) ?_
    rw [eq1]
    exact ⟨by simp [hr, own_n1, own_n0, hc45], N1, rfl⟩
  · refine Go.by (fun _ => XS.icmpNo X1.here hx rfl (hb hby d1_45) rfl (flt hc45).1) ?_
    show Go p e below P (T1.setTop (mkF m 48 #[.val (.ref wDIGITS), .val (.int p1)] []))
    refine Go.by (fun _ => XS.iloadN X1.here hx rfl (hb hby d1_48) rfl) ?_
    show Go p e below P (T1.setTop (mkF m 49 #[.val (.ref wDIGITS), .val (.int p1)] [(.int p1)]))
    refine Go.by (fun _ => XS.bipush X1.here hx rfl (hb hby d1_49)) ?_
    show Go p e below P (T1.setTop (mkF m 51 #[.val (.ref wDIGITS), .val (.int p1)] [(.int (57 : Int32)), (.int p1)]))
    by_cases hc51 : (57 : Int32) < p1
    · refine Go.by (fun _ => XS.icmpYes X1.here hx rfl (pc0 := 51) (pc' := 58) rfl (hb hby d1_51) rfl (tlt hc51).2.2.1 (by decide) (by decide)) ?_
      show Go p e below P (T1.setTop (mkF m 58 #[.val (.ref wDIGITS), .val (.int p1)] []))
      refine Go.by (fun _ => XS.iconst X1.here hx rfl (hb hby d1_58)) ?_
      show Go p e below P (T1.setTop (mkF m 59 #[.val (.ref wDIGITS), .val (.int p1)] [(.int (0 : Int32))]))
      refine Go.by (fun _ => XS.goto X1.here hx rfl (pc0 := 59) (pc' := 107) rfl (hb hby d1_59) (by decide) (by decide)) ?_
      show Go p e below P (T1.setTop (mkF m 107 #[.val (.ref wDIGITS), .val (.int p1)] [(.int (0 : Int32))]))
      subst hP
      refine Go.retZ X1 hx (t := .boolean) Bd.returns (by simp) hlk (hb hby d1_107) (Nat.le_of_ble_eq_true rfl) (Nat.le_of_ble_eq_true rfl) ?_
      rw [eq1]
      exact ⟨by simp [hr, own_n1, own_n0, hc45, hc51], N1, rfl⟩
    · refine Go.by (fun _ => XS.icmpNo X1.here hx rfl (hb hby d1_51) rfl (flt hc51).2.2.1) ?_
      show Go p e below P (T1.setTop (mkF m 54 #[.val (.ref wDIGITS), .val (.int p1)] []))
      refine Go.by (fun _ => XS.iconst X1.here hx rfl (hb hby d1_54)) ?_
      show Go p e below P (T1.setTop (mkF m 55 #[.val (.ref wDIGITS), .val (.int p1)] [(.int (1 : Int32))]))
      refine Go.by (fun _ => XS.goto X1.here hx rfl (pc0 := 55) (pc' := 107) rfl (hb hby d1_55) (by decide) (by decide)) ?_
      show Go p e below P (T1.setTop (mkF m 107 #[.val (.ref wDIGITS), .val (.int p1)] [(.int (1 : Int32))]))
      subst hP
      refine Go.retZ X1 hx (t := .boolean) Bd.returns (by simp) hlk (hb hby d1_107) (Nat.le_of_ble_eq_true rfl) (Nat.le_of_ble_eq_true rfl) ?_
      rw [eq1]
      exact ⟨by simp [hr, own_n1, own_n0, hc45, hc51], N1, rfl⟩
theorem d1_62 : decode prog_13_method_5_code 62 = .ok (.iload_n 1, 1) := by decide +kernel
theorem d1_63 : decode prog_13_method_5_code 63 = .ok (.bipush 65, 2) := by decide +kernel
theorem d1_65 : decode prog_13_method_5_code 65 = .ok (.if_icmp .lt 13, 3) := by decide +kernel
theorem d1_68 : decode prog_13_method_5_code 68 = .ok (.iload_n 1, 1) := by decide +kernel
theorem d1_69 : decode prog_13_method_5_code 69 = .ok (.bipush 90, 2) := by decide +kernel
theorem d1_71 : decode prog_13_method_5_code 71 = .ok (.if_icmp .gt 7, 3) := by decide +kernel
theorem d1_74 : decode prog_13_method_5_code 74 = .ok (.iconst 1, 1) := by decide +kernel
theorem d1_75 : decode prog_13_method_5_code 75 = .ok (.goto 32, 3) := by decide +kernel
theorem d1_78 : decode prog_13_method_5_code 78 = .ok (.iconst 0, 1) := by decide +kernel
theorem d1_79 : decode prog_13_method_5_code 79 = .ok (.goto 28, 3) := by decide +kernel
theorem ef_adm1 (m : MethodId) (x0 : Addr) (x1 : Int32) : entryFrame m #[(.ref x0), (.int x1)] 2 = mkF m 0 #[.val (.ref x0), .val (.int x1)] [] := by first | (simp [entryFrame, mkF, argsToLocals, Value.category]; done) | rfl
def Q_adm1 (Z : State) (wDIGITS : Addr) (wALPHANUMERIC : Addr) (wLETTERS : Addr) (p1 : Int32) (r : Int32) (h0 : Heap) (n0 : Nat) (v : Option Value) (h : Heap) (L : List Loc) : Prop := v = some (.int r) ∧ Fr n0 L ∧ h = h0
set_option maxRecDepth 65536 in
set_option maxHeartbeats 40000000 in
theorem rm_adm1 (l : Launch) (Z : State) (a0 : Array Value) (hw : ∀ d ∈ tables_1, d.before a0 Z = true) (ws : List Jvm.Cond) (wDIGITS : Addr) (wALPHANUMERIC : Addr) (wLETTERS : Addr) (hG : Glob Z wDIGITS wALPHANUMERIC wLETTERS) (p1 : Int32) (r : Int32) (h0 : Heap) (n0 : Nat) (Z0 : n0 ≤ h0.size) (O0 : Old Z n0 h0) (hr : r = if p1 < 65 then 0 else if 90 < p1 then 0 else 1) :
    MetFree l (⟨"com/example/kontoform/kontoform/CharacterClass", "admits", "(C)Z"⟩ : MethodName) (head1 (Jvm.Cond.code (⟨"com/example/kontoform/kontoform/CharacterClass", "admits", "(C)Z"⟩ : MethodName) prog_13_method_5_code 2 (some .boolean) :: ws) ({ frames := 1, cells := 0, slots := 0, locals := 12 } : Room)) (fun a U => a = #[(.ref wLETTERS), (.int p1)] ∧ Z.Warmed39 U.vm ∧ U.heap = h0) (fun _ _ _ _ _ => True) (fun _ U o U' => ∃ v L, o = .returned v ∧ Q_adm1 Z wDIGITS wALPHANUMERIC wLETTERS p1 r h0 n0 v U'.heap L ∧ FrameEnd U o U' L ({ frames := 1, cells := 0, slots := 0, locals := 12 } : Room).cells ({ frames := 1, cells := 0, slots := 0, locals := 12 } : Room).slots) := by
  refine MetFree.of_bodySF (plainFor_of_name pn_1) hisR ?_
  intro p e s m args below meth c s₁ Bd hml0 hP hK
  obtain ⟨rfl, hZ, hh⟩ := hP
  have hx := Bd.exec
  have hby := Bd.bytes
  have hml : c.maxLocals = 2 := hml0
  have hown : s.vm.findClass "com/example/kontoform/kontoform/CharacterClass" = some m.cls := findClass_of_methodNamed Bd.named
  have hnm := (name_of_methodNamed Bd.named Bd.method).1
  have hlk : meth.locks = false := BodyLoose.notSynchronized Bd
  have X0 : Stand p l e ({ frames := 1, cells := 0, slots := 0, locals := 12 } : Room) s m #[(.ref wLETTERS), (.int p1)] below meth c s₁ [] 0 0 := Stand.of_body Bd
  have e0 : s₁.heap = h0 := by rw [← hh, Bd.state]; rfl
  have N0 := Fr.nil n0
  obtain ⟨G0, G1, G2, G3, G4, G5, G6, G7, G8⟩ := id hG
  show Go p e below (End s (Q_adm1 Z wDIGITS wALPHANUMERIC wLETTERS p1 r h0 n0) ({ frames := 1, cells := 0, slots := 0, locals := 12 } : Room).cells ({ frames := 1, cells := 0, slots := 0, locals := 12 } : Room).slots) (s₁.setTop (entryFrame m #[(.ref wLETTERS), (.int p1)] 2))
  rw [ef_adm1]
  generalize hP : End s (Q_adm1 Z wDIGITS wALPHANUMERIC wLETTERS p1 r h0 n0) ({ frames := 1, cells := 0, slots := 0, locals := 12 } : Room).cells ({ frames := 1, cells := 0, slots := 0, locals := 12 } : Room).slots = P
  show Go p e below P (s₁.setTop (mkF m 0 #[.val (.ref wLETTERS), .val (.int p1)] []))
  refine Go.by (fun _ => XS.aloadN X0.here hx rfl (hb hby d1_0) rfl rfl) ?_
  show Go p e below P (s₁.setTop (mkF m 1 #[.val (.ref wLETTERS), .val (.int p1)] [(.ref wLETTERS)]))
  obtain ⟨cq1, kq1, qa1, qb1, qc1⟩ := isOf hZ e0 (G7.ext O0.2)
  obtain ⟨_, _, ⟨T1, L1, k1, n1⟩, -, X1, ⟨Lc1, hQ1, l1, y1, z1⟩, st1⟩ := X0.virtualBackUp hx (x := (⟨"com/example/kontoform/kontoform/CharacterClass", "ordinal", "()I"⟩ : MethodName)) (y := (⟨"java/lang/Enum", "ordinal", "()I"⟩ : MethodName)) hown (mvT hZ (hw _ (List.mem_of_getElem? (i := 10) rfl))) (mvT hZ (hw _ (List.mem_of_getElem? (i := 11) rfl))) (mvT hZ (hw _ (List.mem_of_getElem? (i := 12) rfl))) (by decide) (mvT hZ (hw _ (List.mem_of_getElem? (i := 14) rfl))) (mvT hZ (hw _ (List.mem_of_getElem? (i := 13) rfl))) (backOf (W := 0) (rm_ord l Z a0 hw [] wDIGITS wALPHANUMERIC wLETTERS hG wLETTERS ((1 : Int32)) h0 n0 Z0 O0 (G8.ext O0.2) ) hZ (hw _ (List.mem_of_getElem? (i := 16) rfl)) (hw _ (List.mem_of_getElem? (i := 15) rfl)) (Nat.le_of_ble_eq_true rfl) (Nat.le_of_ble_eq_true rfl)) qa1 qc1 (g := (mkF m 1 #[.val (.ref wLETTERS), .val (.int p1)] [(.ref wLETTERS)])) rfl (by rw [hml]; rfl) (Steps.refl _) (argsL := []) (rest := []) (lenOf pd_0 rfl) rfl (by show 2 * 0 + _ ≤ _; exact Nat.le_of_eq rfl) (hb hby d1_1) (fun _ _ => ⟨rfl, e0, (Nat.le_of_ble_eq_true rfl : 0 + 0 ≤ _), (Nat.le_of_ble_eq_true rfl : 0 + 0 ≤ _)⟩)
  dsimp only [Pt.U, Pt.locs, Pt.cells, Pt.slots] at X1 l1 y1 z1 st1 hQ1
  subst l1 y1 z1
  obtain ⟨rfl, Nq1, eq1⟩ := hQ1
  have N1 := Fr.app N0 Nq1
  refine Go.by (fun _ k => st1.trans k) ?_
  show Go p e below P (T1.setTop (mkF m 4 #[.val (.ref wLETTERS), .val (.int p1)] [(.int (1 : Int32))]))
  refine Go.by (fun _ => XS.tswIn X1.here hx (g := (mkF m 4 #[.val (.ref wLETTERS), .val (.int p1)] [(.int (1 : Int32))])) rfl (pc0 := 4) (pc' := 62) rfl (hb hby d1_4) (i := 1) (rest := []) rfl (by decide) (o := 58) (by decide) (by decide) (by decide)) ?_
  show Go p e below P (T1.setTop (mkF m 62 #[.val (.ref wLETTERS), .val (.int p1)] []))
  refine Go.by (fun _ => XS.iloadN X1.here hx rfl (hb hby d1_62) rfl) ?_
  show Go p e below P (T1.setTop (mkF m 63 #[.val (.ref wLETTERS), .val (.int p1)] [(.int p1)]))
  refine Go.by (fun _ => XS.bipush X1.here hx rfl (hb hby d1_63)) ?_
  show Go p e below P (T1.setTop (mkF m 65 #[.val (.ref wLETTERS), .val (.int p1)] [(.int (65 : Int32)), (.int p1)]))
  by_cases hc65 : p1 < (65 : Int32)
  · refine Go.by (fun _ => XS.icmpYes X1.here hx rfl (pc0 := 65) (pc' := 78) rfl (hb hby d1_65) rfl (tlt hc65).1 (by decide) (by decide)) ?_
    show Go p e below P (T1.setTop (mkF m 78 #[.val (.ref wLETTERS), .val (.int p1)] []))
    refine Go.by (fun _ => XS.iconst X1.here hx rfl (hb hby d1_78)) ?_
    show Go p e below P (T1.setTop (mkF m 79 #[.val (.ref wLETTERS), .val (.int p1)] [(.int (0 : Int32))]))
    refine Go.by (fun _ => XS.goto X1.here hx rfl (pc0 := 79) (pc' := 107) rfl (hb hby d1_79) (by decide) (by decide)) ?_
    show Go p e below P (T1.setTop (mkF m 107 #[.val (.ref wLETTERS), .val (.int p1)] [(.int (0 : Int32))]))
    subst hP
    refine Go.retZ X1 hx (t := .boolean) Bd.returns (by simp) hlk (hb hby d1_107) (Nat.le_of_ble_eq_true rfl) (Nat.le_of_ble_eq_true rfl) ?_
    rw [eq1]
    exact ⟨by simp [hr, own_n1, own_n0, hc65], N1, rfl⟩
  · refine Go.by (fun _ => XS.icmpNo X1.here hx rfl (hb hby d1_65) rfl (flt hc65).1) ?_
    show Go p e below P (T1.setTop (mkF m 68 #[.val (.ref wLETTERS), .val (.int p1)] []))
    refine Go.by (fun _ => XS.iloadN X1.here hx rfl (hb hby d1_68) rfl) ?_
    show Go p e below P (T1.setTop (mkF m 69 #[.val (.ref wLETTERS), .val (.int p1)] [(.int p1)]))
    refine Go.by (fun _ => XS.bipush X1.here hx rfl (hb hby d1_69)) ?_
    show Go p e below P (T1.setTop (mkF m 71 #[.val (.ref wLETTERS), .val (.int p1)] [(.int (90 : Int32)), (.int p1)]))
    by_cases hc71 : (90 : Int32) < p1
    · refine Go.by (fun _ => XS.icmpYes X1.here hx rfl (pc0 := 71) (pc' := 78) rfl (hb hby d1_71) rfl (tlt hc71).2.2.1 (by decide) (by decide)) ?_
      show Go p e below P (T1.setTop (mkF m 78 #[.val (.ref wLETTERS), .val (.int p1)] []))
      refine Go.by (fun _ => XS.iconst X1.here hx rfl (hb hby d1_78)) ?_
      show Go p e below P (T1.setTop (mkF m 79 #[.val (.ref wLETTERS), .val (.int p1)] [(.int (0 : Int32))]))
      refine Go.by (fun _ => XS.goto X1.here hx rfl (pc0 := 79) (pc' := 107) rfl (hb hby d1_79) (by decide) (by decide)) ?_
      show Go p e below P (T1.setTop (mkF m 107 #[.val (.ref wLETTERS), .val (.int p1)] [(.int (0 : Int32))]))
      subst hP
      refine Go.retZ X1 hx (t := .boolean) Bd.returns (by simp) hlk (hb hby d1_107) (Nat.le_of_ble_eq_true rfl) (Nat.le_of_ble_eq_true rfl) ?_
      rw [eq1]
      exact ⟨by simp [hr, own_n1, own_n0, hc65, hc71], N1, rfl⟩
    · refine Go.by (fun _ => XS.icmpNo X1.here hx rfl (hb hby d1_71) rfl (flt hc71).2.2.1) ?_
      show Go p e below P (T1.setTop (mkF m 74 #[.val (.ref wLETTERS), .val (.int p1)] []))
      refine Go.by (fun _ => XS.iconst X1.here hx rfl (hb hby d1_74)) ?_
      show Go p e below P (T1.setTop (mkF m 75 #[.val (.ref wLETTERS), .val (.int p1)] [(.int (1 : Int32))]))
      refine Go.by (fun _ => XS.goto X1.here hx rfl (pc0 := 75) (pc' := 107) rfl (hb hby d1_75) (by decide) (by decide)) ?_
      show Go p e below P (T1.setTop (mkF m 107 #[.val (.ref wLETTERS), .val (.int p1)] [(.int (1 : Int32))]))
      subst hP
      refine Go.retZ X1 hx (t := .boolean) Bd.returns (by simp) hlk (hb hby d1_107) (Nat.le_of_ble_eq_true rfl) (Nat.le_of_ble_eq_true rfl) ?_
      rw [eq1]
      exact ⟨by simp [hr, own_n1, own_n0, hc65, hc71], N1, rfl⟩
theorem d1_82 : decode prog_13_method_5_code 82 = .ok (.getstatic 5, 3) := by decide +kernel
theorem d1_85 : decode prog_13_method_5_code 85 = .ok (.iload_n 1, 1) := by decide +kernel
theorem d1_86 : decode prog_13_method_5_code 86 = .ok (.invokevirtual 60, 3) := by decide +kernel
theorem d1_89 : decode prog_13_method_5_code 89 = .ok (.ifCond .ne 13, 3) := by decide +kernel
theorem d1_92 : decode prog_13_method_5_code 92 = .ok (.getstatic 9, 3) := by decide +kernel
theorem d1_95 : decode prog_13_method_5_code 95 = .ok (.iload_n 1, 1) := by decide +kernel
theorem d1_96 : decode prog_13_method_5_code 96 = .ok (.invokevirtual 60, 3) := by decide +kernel
theorem d1_99 : decode prog_13_method_5_code 99 = .ok (.ifCond .eq 7, 3) := by decide +kernel
theorem d1_102 : decode prog_13_method_5_code 102 = .ok (.iconst 1, 1) := by decide +kernel
theorem d1_103 : decode prog_13_method_5_code 103 = .ok (.goto 4, 3) := by decide +kernel
theorem d1_106 : decode prog_13_method_5_code 106 = .ok (.iconst 0, 1) := by decide +kernel
theorem ef_adm2 (m : MethodId) (x0 : Addr) (x1 : Int32) : entryFrame m #[(.ref x0), (.int x1)] 2 = mkF m 0 #[.val (.ref x0), .val (.int x1)] [] := by first | (simp [entryFrame, mkF, argsToLocals, Value.category]; done) | rfl
def Q_adm2 (Z : State) (wDIGITS : Addr) (wALPHANUMERIC : Addr) (wLETTERS : Addr) (p1 : Int32) (r : Int32) (h0 : Heap) (n0 : Nat) (v : Option Value) (h : Heap) (L : List Loc) : Prop := v = some (.int r) ∧ Fr n0 L ∧ h = h0
set_option maxRecDepth 65536 in
set_option maxHeartbeats 40000000 in
theorem rm_adm2 (l : Launch) (Z : State) (a0 : Array Value) (hw : ∀ d ∈ tables_1, d.before a0 Z = true) (ws : List Jvm.Cond) (wDIGITS : Addr) (wALPHANUMERIC : Addr) (wLETTERS : Addr) (hG : Glob Z wDIGITS wALPHANUMERIC wLETTERS) (p1 : Int32) (r : Int32) (h0 : Heap) (n0 : Nat) (Z0 : n0 ≤ h0.size) (O0 : Old Z n0 h0) (hr : r = if (¬ p1 < 48 ∧ ¬ 57 < p1) ∨ (¬ p1 < 65 ∧ ¬ 90 < p1) then 1 else 0) :
    MetFree l (⟨"com/example/kontoform/kontoform/CharacterClass", "admits", "(C)Z"⟩ : MethodName) (head1 (Jvm.Cond.code (⟨"com/example/kontoform/kontoform/CharacterClass", "admits", "(C)Z"⟩ : MethodName) prog_13_method_5_code 2 (some .boolean) :: ws) ({ frames := 2, cells := 0, slots := 0, locals := 25 } : Room)) (fun a U => a = #[(.ref wALPHANUMERIC), (.int p1)] ∧ Z.Warmed39 U.vm ∧ U.heap = h0) (fun _ _ _ _ _ => True) (fun _ U o U' => ∃ v L, o = .returned v ∧ Q_adm2 Z wDIGITS wALPHANUMERIC wLETTERS p1 r h0 n0 v U'.heap L ∧ FrameEnd U o U' L ({ frames := 2, cells := 0, slots := 0, locals := 25 } : Room).cells ({ frames := 2, cells := 0, slots := 0, locals := 25 } : Room).slots) := by
  refine MetFree.of_bodySF (plainFor_of_name pn_1) hisR ?_
  intro p e s m args below meth c s₁ Bd hml0 hP hK
  obtain ⟨rfl, hZ, hh⟩ := hP
  have hx := Bd.exec
  have hby := Bd.bytes
  have hml : c.maxLocals = 2 := hml0
  have hown : s.vm.findClass "com/example/kontoform/kontoform/CharacterClass" = some m.cls := findClass_of_methodNamed Bd.named
  have hnm := (name_of_methodNamed Bd.named Bd.method).1
  have hlk : meth.locks = false := BodyLoose.notSynchronized Bd
  have X0 : Stand p l e ({ frames := 2, cells := 0, slots := 0, locals := 25 } : Room) s m #[(.ref wALPHANUMERIC), (.int p1)] below meth c s₁ [] 0 0 := Stand.of_body Bd
  have e0 : s₁.heap = h0 := by rw [← hh, Bd.state]; rfl
  have N0 := Fr.nil n0
  obtain ⟨G0, G1, G2, G3, G4, G5, G6, G7, G8⟩ := id hG
  show Go p e below (End s (Q_adm2 Z wDIGITS wALPHANUMERIC wLETTERS p1 r h0 n0) ({ frames := 2, cells := 0, slots := 0, locals := 25 } : Room).cells ({ frames := 2, cells := 0, slots := 0, locals := 25 } : Room).slots) (s₁.setTop (entryFrame m #[(.ref wALPHANUMERIC), (.int p1)] 2))
  rw [ef_adm2]
  generalize hP : End s (Q_adm2 Z wDIGITS wALPHANUMERIC wLETTERS p1 r h0 n0) ({ frames := 2, cells := 0, slots := 0, locals := 25 } : Room).cells ({ frames := 2, cells := 0, slots := 0, locals := 25 } : Room).slots = P
  show Go p e below P (s₁.setTop (mkF m 0 #[.val (.ref wALPHANUMERIC), .val (.int p1)] []))
  refine Go.by (fun _ => XS.aloadN X0.here hx rfl (hb hby d1_0) rfl rfl) ?_
  show Go p e below P (s₁.setTop (mkF m 1 #[.val (.ref wALPHANUMERIC), .val (.int p1)] [(.ref wALPHANUMERIC)]))
  obtain ⟨cq1, kq1, qa1, qb1, qc1⟩ := isOf hZ e0 (G4.ext O0.2)
  obtain ⟨_, _, ⟨T1, L1, k1, n1⟩, -, X1, ⟨Lc1, hQ1, l1, y1, z1⟩, st1⟩ := X0.virtualBackUp hx (x := (⟨"com/example/kontoform/kontoform/CharacterClass", "ordinal", "()I"⟩ : MethodName)) (y := (⟨"java/lang/Enum", "ordinal", "()I"⟩ : MethodName)) hown (mvT hZ (hw _ (List.mem_of_getElem? (i := 10) rfl))) (mvT hZ (hw _ (List.mem_of_getElem? (i := 11) rfl))) (mvT hZ (hw _ (List.mem_of_getElem? (i := 12) rfl))) (by decide) (mvT hZ (hw _ (List.mem_of_getElem? (i := 14) rfl))) (mvT hZ (hw _ (List.mem_of_getElem? (i := 13) rfl))) (backOf (W := 0) (rm_ord l Z a0 hw [] wDIGITS wALPHANUMERIC wLETTERS hG wALPHANUMERIC ((2 : Int32)) h0 n0 Z0 O0 (G5.ext O0.2) ) hZ (hw _ (List.mem_of_getElem? (i := 16) rfl)) (hw _ (List.mem_of_getElem? (i := 15) rfl)) (Nat.le_of_ble_eq_true rfl) (Nat.le_of_ble_eq_true rfl)) qa1 qc1 (g := (mkF m 1 #[.val (.ref wALPHANUMERIC), .val (.int p1)] [(.ref wALPHANUMERIC)])) rfl (by rw [hml]; rfl) (Steps.refl _) (argsL := []) (rest := []) (lenOf pd_0 rfl) rfl (by show 2 * 0 + _ ≤ _; exact Nat.le_of_eq rfl) (hb hby d1_1) (fun _ _ => ⟨rfl, e0, (Nat.le_of_ble_eq_true rfl : 0 + 0 ≤ _), (Nat.le_of_ble_eq_true rfl : 0 + 0 ≤ _)⟩)
  dsimp only [Pt.U, Pt.locs, Pt.cells, Pt.slots] at X1 l1 y1 z1 st1 hQ1
  subst l1 y1 z1
  obtain ⟨rfl, Nq1, eq1⟩ := hQ1
  have N1 := Fr.app N0 Nq1
  refine Go.by (fun _ k => st1.trans k) ?_
  show Go p e below P (T1.setTop (mkF m 4 #[.val (.ref wALPHANUMERIC), .val (.int p1)] [(.int (2 : Int32))]))
  refine Go.by (fun _ => XS.tswIn X1.here hx (g := (mkF m 4 #[.val (.ref wALPHANUMERIC), .val (.int p1)] [(.int (2 : Int32))])) rfl (pc0 := 4) (pc' := 82) rfl (hb hby d1_4) (i := 2) (rest := []) rfl (by decide) (o := 78) (by decide) (by decide) (by decide)) ?_
  show Go p e below P (T1.setTop (mkF m 82 #[.val (.ref wALPHANUMERIC), .val (.int p1)] []))
  by_cases hd : ¬ p1 < 48 ∧ ¬ 57 < p1
  · show Go p e below P (T1.setTop (mkF m 82 #[.val (.ref wALPHANUMERIC), .val (.int p1)] []))
    obtain ⟨T2, X2, e2, st2⟩ := getS2 X1 hx hZ hown (host := "") (Or.inl (hw _ (List.mem_of_getElem? (i := 21) rfl))) Via.refl eq1 (G0.ext O0.2) (g := (mkF m 82 #[.val (.ref wALPHANUMERIC), .val (.int p1)] [])) rfl (hb hby d1_82)
    refine Go.by (fun _ => st2 _) ?_
    show Go p e below P (T2.setTop (mkF m 85 #[.val (.ref wALPHANUMERIC), .val (.int p1)] [(.ref wDIGITS)]))
    refine Go.by (fun _ => XS.iloadN X2.here hx rfl (hb hby d1_85) rfl) ?_
    show Go p e below P (T2.setTop (mkF m 86 #[.val (.ref wALPHANUMERIC), .val (.int p1)] [(.int p1), (.ref wDIGITS)]))
    obtain ⟨cq3, kq3, qa3, qb3, qc3⟩ := isOf hZ e2 (G1.ext O0.2)
    obtain ⟨_, _, ⟨T3, L3, k3, n3⟩, -, X3, ⟨Lc3, hQ3, l3, y3, z3⟩, st3⟩ := X2.virtualBack hx (y := (⟨"com/example/kontoform/kontoform/CharacterClass", "admits", "(C)Z"⟩ : MethodName)) (z := (⟨"com/example/kontoform/kontoform/CharacterClass", "admits", "(C)Z"⟩ : MethodName)) hown (mvT hZ (hw _ (List.mem_of_getElem? (i := 22) rfl))) (mvT hZ (hw _ (List.mem_of_getElem? (i := 6) rfl))) (notFace_of_selects (args := #[]) (mvT hZ (hw _ (List.mem_of_getElem? (i := 8) rfl)))) (mvT hZ (hw _ (List.mem_of_getElem? (i := 8) rfl))) (mvT hZ (hw _ (List.mem_of_getElem? (i := 7) rfl))) (by decide) (backOf (W := 0) (rm_adm0 l Z a0 hw [] wDIGITS wALPHANUMERIC wLETTERS hG p1 ((1 : Int32)) h0 n0 Z0 O0  (own_yes hd)) hZ (hw _ (List.mem_of_getElem? (i := 9) rfl)) (hw _ (List.mem_of_getElem? (i := 3) rfl)) (Nat.le_of_ble_eq_true rfl) (Nat.le_of_ble_eq_true rfl)) qa3 qc3 (g := (mkF m 86 #[.val (.ref wALPHANUMERIC), .val (.int p1)] [(.int p1), (.ref wDIGITS)])) rfl (by rw [hml]; rfl) (Steps.refl _) (argsL := [(.int p1)]) (rest := []) (lenOf pd_1 rfl) rfl (by show 2 * 0 + _ ≤ _; exact Nat.le_of_eq rfl) (hb hby d1_86) (fun _ _ => ⟨rfl, e2, (Nat.le_of_ble_eq_true rfl : 0 + 0 ≤ _), (Nat.le_of_ble_eq_true rfl : 0 + 0 ≤ _)⟩)
    dsimp only [Pt.U, Pt.locs, Pt.cells, Pt.slots] at X3 l3 y3 z3 st3 hQ3
    subst l3 y3 z3
    obtain ⟨rfl, Nq3, eq3⟩ := hQ3
    have N3 := Fr.app N1 Nq3
    refine Go.by (fun _ k => st3.trans k) ?_
    show Go p e below P (T3.setTop (mkF m 89 #[.val (.ref wALPHANUMERIC), .val (.int p1)] [(.int (1 : Int32))]))
    have hc89 : ¬ ((1 : Int32) = (0 : Int32)) := by decide
    refine Go.by (fun _ => XS.ifYes X3.here hx rfl (pc0 := 89) (pc' := 102) rfl (hb hby d1_89) rfl ((if0 _ _).trans (feq hc89).2) (by decide) (by decide)) ?_
    show Go p e below P (T3.setTop (mkF m 102 #[.val (.ref wALPHANUMERIC), .val (.int p1)] []))
    refine Go.by (fun _ => XS.iconst X3.here hx rfl (hb hby d1_102)) ?_
    show Go p e below P (T3.setTop (mkF m 103 #[.val (.ref wALPHANUMERIC), .val (.int p1)] [(.int (1 : Int32))]))
    refine Go.by (fun _ => XS.goto X3.here hx rfl (pc0 := 103) (pc' := 107) rfl (hb hby d1_103) (by decide) (by decide)) ?_
    show Go p e below P (T3.setTop (mkF m 107 #[.val (.ref wALPHANUMERIC), .val (.int p1)] [(.int (1 : Int32))]))
    subst hP
    refine Go.retZ X3 hx (t := .boolean) Bd.returns (by simp) hlk (hb hby d1_107) (Nat.le_of_ble_eq_true rfl) (Nat.le_of_ble_eq_true rfl) ?_
    rw [eq3]
    exact ⟨by rw [hr, if_pos (Or.inl hd)]; rfl, N3, rfl⟩
  · by_cases hl : ¬ p1 < 65 ∧ ¬ 90 < p1
    · show Go p e below P (T1.setTop (mkF m 82 #[.val (.ref wALPHANUMERIC), .val (.int p1)] []))
      obtain ⟨T4, X4, e4, st4⟩ := getS2 X1 hx hZ hown (host := "") (Or.inl (hw _ (List.mem_of_getElem? (i := 21) rfl))) Via.refl eq1 (G0.ext O0.2) (g := (mkF m 82 #[.val (.ref wALPHANUMERIC), .val (.int p1)] [])) rfl (hb hby d1_82)
      refine Go.by (fun _ => st4 _) ?_
      show Go p e below P (T4.setTop (mkF m 85 #[.val (.ref wALPHANUMERIC), .val (.int p1)] [(.ref wDIGITS)]))
      refine Go.by (fun _ => XS.iloadN X4.here hx rfl (hb hby d1_85) rfl) ?_
      show Go p e below P (T4.setTop (mkF m 86 #[.val (.ref wALPHANUMERIC), .val (.int p1)] [(.int p1), (.ref wDIGITS)]))
      obtain ⟨cq5, kq5, qa5, qb5, qc5⟩ := isOf hZ e4 (G1.ext O0.2)
      obtain ⟨_, _, ⟨T5, L5, k5, n5⟩, -, X5, ⟨Lc5, hQ5, l5, y5, z5⟩, st5⟩ := X4.virtualBack hx (y := (⟨"com/example/kontoform/kontoform/CharacterClass", "admits", "(C)Z"⟩ : MethodName)) (z := (⟨"com/example/kontoform/kontoform/CharacterClass", "admits", "(C)Z"⟩ : MethodName)) hown (mvT hZ (hw _ (List.mem_of_getElem? (i := 22) rfl))) (mvT hZ (hw _ (List.mem_of_getElem? (i := 6) rfl))) (notFace_of_selects (args := #[]) (mvT hZ (hw _ (List.mem_of_getElem? (i := 8) rfl)))) (mvT hZ (hw _ (List.mem_of_getElem? (i := 8) rfl))) (mvT hZ (hw _ (List.mem_of_getElem? (i := 7) rfl))) (by decide) (backOf (W := 0) (rm_adm0 l Z a0 hw [] wDIGITS wALPHANUMERIC wLETTERS hG p1 ((0 : Int32)) h0 n0 Z0 O0  (own_no hd)) hZ (hw _ (List.mem_of_getElem? (i := 9) rfl)) (hw _ (List.mem_of_getElem? (i := 3) rfl)) (Nat.le_of_ble_eq_true rfl) (Nat.le_of_ble_eq_true rfl)) qa5 qc5 (g := (mkF m 86 #[.val (.ref wALPHANUMERIC), .val (.int p1)] [(.int p1), (.ref wDIGITS)])) rfl (by rw [hml]; rfl) (Steps.refl _) (argsL := [(.int p1)]) (rest := []) (lenOf pd_1 rfl) rfl (by show 2 * 0 + _ ≤ _; exact Nat.le_of_eq rfl) (hb hby d1_86) (fun _ _ => ⟨rfl, e4, (Nat.le_of_ble_eq_true rfl : 0 + 0 ≤ _), (Nat.le_of_ble_eq_true rfl : 0 + 0 ≤ _)⟩)
      dsimp only [Pt.U, Pt.locs, Pt.cells, Pt.slots] at X5 l5 y5 z5 st5 hQ5
      subst l5 y5 z5
      obtain ⟨rfl, Nq5, eq5⟩ := hQ5
      have N5 := Fr.app N1 Nq5
      refine Go.by (fun _ k => st5.trans k) ?_
      show Go p e below P (T5.setTop (mkF m 89 #[.val (.ref wALPHANUMERIC), .val (.int p1)] [(.int (0 : Int32))]))
      have hc89 : (0 : Int32) = (0 : Int32) := by decide
      refine Go.by (fun _ => XS.ifNo X5.here hx rfl (hb hby d1_89) rfl ((if0 _ _).trans (teq hc89).2)) ?_
      show Go p e below P (T5.setTop (mkF m 92 #[.val (.ref wALPHANUMERIC), .val (.int p1)] []))
      obtain ⟨T6, X6, e6, st6⟩ := getS2 X5 hx hZ hown (host := "") (Or.inl (hw _ (List.mem_of_getElem? (i := 23) rfl))) Via.refl eq5 (G6.ext O0.2) (g := (mkF m 92 #[.val (.ref wALPHANUMERIC), .val (.int p1)] [])) rfl (hb hby d1_92)
      refine Go.by (fun _ => st6 _) ?_
      show Go p e below P (T6.setTop (mkF m 95 #[.val (.ref wALPHANUMERIC), .val (.int p1)] [(.ref wLETTERS)]))
      refine Go.by (fun _ => XS.iloadN X6.here hx rfl (hb hby d1_95) rfl) ?_
      show Go p e below P (T6.setTop (mkF m 96 #[.val (.ref wALPHANUMERIC), .val (.int p1)] [(.int p1), (.ref wLETTERS)]))
      obtain ⟨cq7, kq7, qa7, qb7, qc7⟩ := isOf hZ e6 (G7.ext O0.2)
      obtain ⟨_, _, ⟨T7, L7, k7, n7⟩, -, X7, ⟨Lc7, hQ7, l7, y7, z7⟩, st7⟩ := X6.virtualBack hx (y := (⟨"com/example/kontoform/kontoform/CharacterClass", "admits", "(C)Z"⟩ : MethodName)) (z := (⟨"com/example/kontoform/kontoform/CharacterClass", "admits", "(C)Z"⟩ : MethodName)) hown (mvT hZ (hw _ (List.mem_of_getElem? (i := 22) rfl))) (mvT hZ (hw _ (List.mem_of_getElem? (i := 6) rfl))) (notFace_of_selects (args := #[]) (mvT hZ (hw _ (List.mem_of_getElem? (i := 8) rfl)))) (mvT hZ (hw _ (List.mem_of_getElem? (i := 8) rfl))) (mvT hZ (hw _ (List.mem_of_getElem? (i := 7) rfl))) (by decide) (backOf (W := 0) (rm_adm1 l Z a0 hw [] wDIGITS wALPHANUMERIC wLETTERS hG p1 ((1 : Int32)) h0 n0 Z0 O0  (own_yes hl)) hZ (hw _ (List.mem_of_getElem? (i := 9) rfl)) (hw _ (List.mem_of_getElem? (i := 3) rfl)) (Nat.le_of_ble_eq_true rfl) (Nat.le_of_ble_eq_true rfl)) qa7 qc7 (g := (mkF m 96 #[.val (.ref wALPHANUMERIC), .val (.int p1)] [(.int p1), (.ref wLETTERS)])) rfl (by rw [hml]; rfl) (Steps.refl _) (argsL := [(.int p1)]) (rest := []) (lenOf pd_1 rfl) rfl (by show 2 * 0 + _ ≤ _; exact Nat.le_of_eq rfl) (hb hby d1_96) (fun _ _ => ⟨rfl, e6, (Nat.le_of_ble_eq_true rfl : 0 + 0 ≤ _), (Nat.le_of_ble_eq_true rfl : 0 + 0 ≤ _)⟩)
      dsimp only [Pt.U, Pt.locs, Pt.cells, Pt.slots] at X7 l7 y7 z7 st7 hQ7
      subst l7 y7 z7
      obtain ⟨rfl, Nq7, eq7⟩ := hQ7
      have N7 := Fr.app N5 Nq7
      refine Go.by (fun _ k => st7.trans k) ?_
      show Go p e below P (T7.setTop (mkF m 99 #[.val (.ref wALPHANUMERIC), .val (.int p1)] [(.int (1 : Int32))]))
      have hc99 : ¬ ((1 : Int32) = (0 : Int32)) := by decide
      refine Go.by (fun _ => XS.ifNo X7.here hx rfl (hb hby d1_99) rfl ((if0 _ _).trans (feq hc99).1)) ?_
      show Go p e below P (T7.setTop (mkF m 102 #[.val (.ref wALPHANUMERIC), .val (.int p1)] []))
      refine Go.by (fun _ => XS.iconst X7.here hx rfl (hb hby d1_102)) ?_
      show Go p e below P (T7.setTop (mkF m 103 #[.val (.ref wALPHANUMERIC), .val (.int p1)] [(.int (1 : Int32))]))
      refine Go.by (fun _ => XS.goto X7.here hx rfl (pc0 := 103) (pc' := 107) rfl (hb hby d1_103) (by decide) (by decide)) ?_
      show Go p e below P (T7.setTop (mkF m 107 #[.val (.ref wALPHANUMERIC), .val (.int p1)] [(.int (1 : Int32))]))
      subst hP
      refine Go.retZ X7 hx (t := .boolean) Bd.returns (by simp) hlk (hb hby d1_107) (Nat.le_of_ble_eq_true rfl) (Nat.le_of_ble_eq_true rfl) ?_
      rw [eq7]
      exact ⟨by rw [hr, if_pos (Or.inr hl)]; rfl, N7, rfl⟩
    · show Go p e below P (T1.setTop (mkF m 82 #[.val (.ref wALPHANUMERIC), .val (.int p1)] []))
      obtain ⟨T8, X8, e8, st8⟩ := getS2 X1 hx hZ hown (host := "") (Or.inl (hw _ (List.mem_of_getElem? (i := 21) rfl))) Via.refl eq1 (G0.ext O0.2) (g := (mkF m 82 #[.val (.ref wALPHANUMERIC), .val (.int p1)] [])) rfl (hb hby d1_82)
      refine Go.by (fun _ => st8 _) ?_
      show Go p e below P (T8.setTop (mkF m 85 #[.val (.ref wALPHANUMERIC), .val (.int p1)] [(.ref wDIGITS)]))
      refine Go.by (fun _ => XS.iloadN X8.here hx rfl (hb hby d1_85) rfl) ?_
      show Go p e below P (T8.setTop (mkF m 86 #[.val (.ref wALPHANUMERIC), .val (.int p1)] [(.int p1), (.ref wDIGITS)]))
      obtain ⟨cq9, kq9, qa9, qb9, qc9⟩ := isOf hZ e8 (G1.ext O0.2)
      obtain ⟨_, _, ⟨T9, L9, k9, n9⟩, -, X9, ⟨Lc9, hQ9, l9, y9, z9⟩, st9⟩ := X8.virtualBack hx (y := (⟨"com/example/kontoform/kontoform/CharacterClass", "admits", "(C)Z"⟩ : MethodName)) (z := (⟨"com/example/kontoform/kontoform/CharacterClass", "admits", "(C)Z"⟩ : MethodName)) hown (mvT hZ (hw _ (List.mem_of_getElem? (i := 22) rfl))) (mvT hZ (hw _ (List.mem_of_getElem? (i := 6) rfl))) (notFace_of_selects (args := #[]) (mvT hZ (hw _ (List.mem_of_getElem? (i := 8) rfl)))) (mvT hZ (hw _ (List.mem_of_getElem? (i := 8) rfl))) (mvT hZ (hw _ (List.mem_of_getElem? (i := 7) rfl))) (by decide) (backOf (W := 0) (rm_adm0 l Z a0 hw [] wDIGITS wALPHANUMERIC wLETTERS hG p1 ((0 : Int32)) h0 n0 Z0 O0  (own_no hd)) hZ (hw _ (List.mem_of_getElem? (i := 9) rfl)) (hw _ (List.mem_of_getElem? (i := 3) rfl)) (Nat.le_of_ble_eq_true rfl) (Nat.le_of_ble_eq_true rfl)) qa9 qc9 (g := (mkF m 86 #[.val (.ref wALPHANUMERIC), .val (.int p1)] [(.int p1), (.ref wDIGITS)])) rfl (by rw [hml]; rfl) (Steps.refl _) (argsL := [(.int p1)]) (rest := []) (lenOf pd_1 rfl) rfl (by show 2 * 0 + _ ≤ _; exact Nat.le_of_eq rfl) (hb hby d1_86) (fun _ _ => ⟨rfl, e8, (Nat.le_of_ble_eq_true rfl : 0 + 0 ≤ _), (Nat.le_of_ble_eq_true rfl : 0 + 0 ≤ _)⟩)
      dsimp only [Pt.U, Pt.locs, Pt.cells, Pt.slots] at X9 l9 y9 z9 st9 hQ9
      subst l9 y9 z9
      obtain ⟨rfl, Nq9, eq9⟩ := hQ9
      have N9 := Fr.app N1 Nq9
      refine Go.by (fun _ k => st9.trans k) ?_
      show Go p e below P (T9.setTop (mkF m 89 #[.val (.ref wALPHANUMERIC), .val (.int p1)] [(.int (0 : Int32))]))
      have hc89 : (0 : Int32) = (0 : Int32) := by decide
      refine Go.by (fun _ => XS.ifNo X9.here hx rfl (hb hby d1_89) rfl ((if0 _ _).trans (teq hc89).2)) ?_
      show Go p e below P (T9.setTop (mkF m 92 #[.val (.ref wALPHANUMERIC), .val (.int p1)] []))
      obtain ⟨T10, X10, e10, st10⟩ := getS2 X9 hx hZ hown (host := "") (Or.inl (hw _ (List.mem_of_getElem? (i := 23) rfl))) Via.refl eq9 (G6.ext O0.2) (g := (mkF m 92 #[.val (.ref wALPHANUMERIC), .val (.int p1)] [])) rfl (hb hby d1_92)
      refine Go.by (fun _ => st10 _) ?_
      show Go p e below P (T10.setTop (mkF m 95 #[.val (.ref wALPHANUMERIC), .val (.int p1)] [(.ref wLETTERS)]))
      refine Go.by (fun _ => XS.iloadN X10.here hx rfl (hb hby d1_95) rfl) ?_
      show Go p e below P (T10.setTop (mkF m 96 #[.val (.ref wALPHANUMERIC), .val (.int p1)] [(.int p1), (.ref wLETTERS)]))
      obtain ⟨cq11, kq11, qa11, qb11, qc11⟩ := isOf hZ e10 (G7.ext O0.2)
      obtain ⟨_, _, ⟨T11, L11, k11, n11⟩, -, X11, ⟨Lc11, hQ11, l11, y11, z11⟩, st11⟩ := X10.virtualBack hx (y := (⟨"com/example/kontoform/kontoform/CharacterClass", "admits", "(C)Z"⟩ : MethodName)) (z := (⟨"com/example/kontoform/kontoform/CharacterClass", "admits", "(C)Z"⟩ : MethodName)) hown (mvT hZ (hw _ (List.mem_of_getElem? (i := 22) rfl))) (mvT hZ (hw _ (List.mem_of_getElem? (i := 6) rfl))) (notFace_of_selects (args := #[]) (mvT hZ (hw _ (List.mem_of_getElem? (i := 8) rfl)))) (mvT hZ (hw _ (List.mem_of_getElem? (i := 8) rfl))) (mvT hZ (hw _ (List.mem_of_getElem? (i := 7) rfl))) (by decide) (backOf (W := 0) (rm_adm1 l Z a0 hw [] wDIGITS wALPHANUMERIC wLETTERS hG p1 ((0 : Int32)) h0 n0 Z0 O0  (own_no hl)) hZ (hw _ (List.mem_of_getElem? (i := 9) rfl)) (hw _ (List.mem_of_getElem? (i := 3) rfl)) (Nat.le_of_ble_eq_true rfl) (Nat.le_of_ble_eq_true rfl)) qa11 qc11 (g := (mkF m 96 #[.val (.ref wALPHANUMERIC), .val (.int p1)] [(.int p1), (.ref wLETTERS)])) rfl (by rw [hml]; rfl) (Steps.refl _) (argsL := [(.int p1)]) (rest := []) (lenOf pd_1 rfl) rfl (by show 2 * 0 + _ ≤ _; exact Nat.le_of_eq rfl) (hb hby d1_96) (fun _ _ => ⟨rfl, e10, (Nat.le_of_ble_eq_true rfl : 0 + 0 ≤ _), (Nat.le_of_ble_eq_true rfl : 0 + 0 ≤ _)⟩)
      dsimp only [Pt.U, Pt.locs, Pt.cells, Pt.slots] at X11 l11 y11 z11 st11 hQ11
      subst l11 y11 z11
      obtain ⟨rfl, Nq11, eq11⟩ := hQ11
      have N11 := Fr.app N9 Nq11
      refine Go.by (fun _ k => st11.trans k) ?_
      show Go p e below P (T11.setTop (mkF m 99 #[.val (.ref wALPHANUMERIC), .val (.int p1)] [(.int (0 : Int32))]))
      have hc99 : (0 : Int32) = (0 : Int32) := by decide
      refine Go.by (fun _ => XS.ifYes X11.here hx rfl (pc0 := 99) (pc' := 106) rfl (hb hby d1_99) rfl ((if0 _ _).trans (teq hc99).1) (by decide) (by decide)) ?_
      show Go p e below P (T11.setTop (mkF m 106 #[.val (.ref wALPHANUMERIC), .val (.int p1)] []))
      refine Go.by (fun _ => XS.iconst X11.here hx rfl (hb hby d1_106)) ?_
      show Go p e below P (T11.setTop (mkF m 107 #[.val (.ref wALPHANUMERIC), .val (.int p1)] [(.int (0 : Int32))]))
      subst hP
      refine Go.retZ X11 hx (t := .boolean) Bd.returns (by simp) hlk (hb hby d1_107) (Nat.le_of_ble_eq_true rfl) (Nat.le_of_ble_eq_true rfl) ?_
      rw [eq11]
      exact ⟨by rw [hr, if_neg (fun q => q.elim hd hl)]; rfl, N11, rfl⟩
theorem ef_law (m : MethodId) (x0 : Int32) (x1 : Int32) : entryFrame m #[(.int x0), (.int x1)] maxLocals = mkF m 0 #[.val (.int x0), .val (.int x1), .unset, .unset, .unset, .unset, .unset, .unset, .unset, .unset] [] := by first | (simp [entryFrame, mkF, argsToLocals, Value.category, maxLocals]; done) | rfl
def Q_law (Z : State) (wDIGITS : Addr) (wALPHANUMERIC : Addr) (wLETTERS : Addr) (p0 : Int32) (p1 : Int32) (h0 : Heap) (n0 : Nat) (v : Option Value) (h : Heap) (L : List Loc) : Prop := v = some (.int 1) ∧ Fr n0 L
set_option maxRecDepth 65536 in
set_option maxHeartbeats 40000000 in
theorem rm_law (l : Launch) (Z : State) (a0 : Array Value) (hw : ∀ d ∈ tables_1, d.before a0 Z = true) (ws : List Jvm.Cond) (wDIGITS : Addr) (wALPHANUMERIC : Addr) (wLETTERS : Addr) (hG : Glob Z wDIGITS wALPHANUMERIC wLETTERS) (p0 : Int32) (p1 : Int32) (h0 : Heap) (n0 : Nat) (Z0 : n0 ≤ h0.size) (O0 : Old Z n0 h0) :
    MetFree l x (head1 (Jvm.Cond.code x code maxLocals ret :: ws) room_1) (fun a U => a = #[(.int p0), (.int p1)] ∧ Z.Warmed39 U.vm ∧ U.heap = h0) (fun _ _ _ _ _ => True) (fun _ U o U' => ∃ v L, o = .returned v ∧ Q_law Z wDIGITS wALPHANUMERIC wLETTERS p0 p1 h0 n0 v U'.heap L ∧ FrameEnd U o U' L 0 0) := by
  refine MetFree.of_bodySF (plainFor_of_name pn_2) hisR ?_
  intro p e s m args below meth c s₁ Bd hml0 hP hK
  obtain ⟨rfl, hZ, hh⟩ := hP
  have hx := Bd.exec
  have hby := Bd.bytes
  have hml : c.maxLocals = 10 := hml0
  have hown : s.vm.findClass "com/example/kontoform/kontoform/CharacterClassAdmitsPinLaw" = some m.cls := findClass_of_methodNamed Bd.named
  have hnm := (name_of_methodNamed Bd.named Bd.method).1
  have hlk : meth.locks = false := BodyLoose.notSynchronized Bd
  have X0 : Stand p l e room_1 s m #[(.int p0), (.int p1)] below meth c s₁ [] 0 0 := Stand.of_body Bd
  have e0 : s₁.heap = h0 := by rw [← hh, Bd.state]; rfl
  have N0 := Fr.nil n0
  obtain ⟨G0, G1, G2, G3, G4, G5, G6, G7, G8⟩ := id hG
  show Go p e below (End s (Q_law Z wDIGITS wALPHANUMERIC wLETTERS p0 p1 h0 n0) 0 0) (s₁.setTop (entryFrame m #[(.int p0), (.int p1)] maxLocals))
  rw [ef_law]
  generalize hP : End s (Q_law Z wDIGITS wALPHANUMERIC wLETTERS p0 p1 h0 n0) 0 0 = P
  show Go p e below P (s₁.setTop (mkF m 0 #[.val (.int p0), .val (.int p1), .unset, .unset, .unset, .unset, .unset, .unset, .unset, .unset] []))
  refine Go.by (fun _ => XS.iloadN X0.here hx rfl (hb hby at_0) rfl) ?_
  show Go p e below P (s₁.setTop (mkF m 1 #[.val (.int p0), .val (.int p1), .unset, .unset, .unset, .unset, .unset, .unset, .unset, .unset] [(.int p0)]))
  refine Go.by (fun _ => X0.ldcInt hx hown (mvT hZ (hw _ (List.mem_of_getElem? (i := 0) rfl))) (g := (mkF m 1 #[.val (.int p0), .val (.int p1), .unset, .unset, .unset, .unset, .unset, .unset, .unset, .unset] [(.int p0)])) rfl (hb hby at_1) _) ?_
  show Go p e below P (s₁.setTop (mkF m 3 #[.val (.int p0), .val (.int p1), .unset, .unset, .unset, .unset, .unset, .unset, .unset, .unset] [(.int (2147483647 : Int32)), (.int p0)]))
  refine Go.by (fun _ => XS.iand X0.here hx rfl (hb hby at_3) rfl) ?_
  show Go p e below P (s₁.setTop (mkF m 4 #[.val (.int p0), .val (.int p1), .unset, .unset, .unset, .unset, .unset, .unset, .unset, .unset] [(.int (p0 &&& (2147483647 : Int32)))]))
  refine Go.by (fun _ => XS.iconst X0.here hx rfl (hb hby at_4)) ?_
  show Go p e below P (s₁.setTop (mkF m 5 #[.val (.int p0), .val (.int p1), .unset, .unset, .unset, .unset, .unset, .unset, .unset, .unset] [(.int (3 : Int32)), (.int (p0 &&& (2147483647 : Int32)))]))
  refine Go.by (fun _ => iremM X0 hx rfl (hb hby at_5) rfl (by decide)) ?_
  show Go p e below P (s₁.setTop (mkF m 6 #[.val (.int p0), .val (.int p1), .unset, .unset, .unset, .unset, .unset, .unset, .unset, .unset] [(.int ((p0 &&& (2147483647 : Int32)) % (3 : Int32)))]))
  generalize hv_i : ((p0 &&& (2147483647 : Int32)) % (3 : Int32)) = i
  refine Go.by (fun _ => XS.istoreN X0.here hx rfl (hb hby at_6) rfl (l' := #[.val (.int p0), .val (.int p1), .val (.int i), .unset, .unset, .unset, .unset, .unset, .unset, .unset]) rfl) ?_
  show Go p e below P (s₁.setTop (mkF m 7 #[.val (.int p0), .val (.int p1), .val (.int i), .unset, .unset, .unset, .unset, .unset, .unset, .unset] []))
  refine Go.by (fun _ => XS.iloadN X0.here hx rfl (hb hby at_7) rfl) ?_
  show Go p e below P (s₁.setTop (mkF m 8 #[.val (.int p0), .val (.int p1), .val (.int i), .unset, .unset, .unset, .unset, .unset, .unset, .unset] [(.int p1)]))
  refine Go.by (fun _ => XS.bipush X0.here hx rfl (hb hby at_8)) ?_
  show Go p e below P (s₁.setTop (mkF m 10 #[.val (.int p0), .val (.int p1), .val (.int i), .unset, .unset, .unset, .unset, .unset, .unset, .unset] [(.int (16 : Int32)), (.int p1)]))
  refine Go.by (fun _ => XS.iushr X0.here hx rfl (hb hby at_10) rfl) ?_
  show Go p e below P (s₁.setTop (mkF m 11 #[.val (.int p0), .val (.int p1), .val (.int i), .unset, .unset, .unset, .unset, .unset, .unset, .unset] [(.int (((p1).toUInt32 >>> ((16 : Int32) &&& 31).toUInt32).toInt32))]))
  refine Go.by (fun _ => XS.iconst X0.here hx rfl (hb hby at_11)) ?_
  show Go p e below P (s₁.setTop (mkF m 12 #[.val (.int p0), .val (.int p1), .val (.int i), .unset, .unset, .unset, .unset, .unset, .unset, .unset] [(.int (1 : Int32)), (.int (((p1).toUInt32 >>> ((16 : Int32) &&& 31).toUInt32).toInt32))]))
  refine Go.by (fun _ => XS.iand X0.here hx rfl (hb hby at_12) rfl) ?_
  show Go p e below P (s₁.setTop (mkF m 13 #[.val (.int p0), .val (.int p1), .val (.int i), .unset, .unset, .unset, .unset, .unset, .unset, .unset] [(.int ((((p1).toUInt32 >>> ((16 : Int32) &&& 31).toUInt32).toInt32) &&& (1 : Int32)))]))
  have J34 : ∀ (c : Int32) (hj : 0 ≤ c.toInt ∧ c.toInt < 65536), Go p e below P (s₁.setTop (mkF m 34 #[.val (.int p0), .val (.int p1), .val (.int i), .val (.int c), .unset, .unset, .unset, .unset, .unset, .unset] [])) := by
    intro c hj
    by_cases hd : 48 ≤ c.toInt ∧ c.toInt ≤ 57
    · have hi := own_lt3 i (hv_i ▸ own_mod3 p0)
      rcases hi with rfl | rfl | rfl
      · show Go p e below P (s₁.setTop (mkF m 34 #[.val (.int p0), .val (.int p1), .val (.int (0 : Int32)), .val (.int c), .unset, .unset, .unset, .unset, .unset, .unset] []))
        refine Go.by (fun _ => XS.iloadN X0.here hx rfl (hb hby at_34) rfl) ?_
        show Go p e below P (s₁.setTop (mkF m 35 #[.val (.int p0), .val (.int p1), .val (.int (0 : Int32)), .val (.int c), .unset, .unset, .unset, .unset, .unset, .unset] [(.int c)]))
        refine Go.by (fun _ => XS.bipush X0.here hx rfl (hb hby at_35)) ?_
        show Go p e below P (s₁.setTop (mkF m 37 #[.val (.int p0), .val (.int p1), .val (.int (0 : Int32)), .val (.int c), .unset, .unset, .unset, .unset, .unset, .unset] [(.int (48 : Int32)), (.int c)]))
        refine Go.by (fun _ => XS.isub X0.here hx rfl (hb hby at_37) rfl) ?_
        show Go p e below P (s₁.setTop (mkF m 38 #[.val (.int p0), .val (.int p1), .val (.int (0 : Int32)), .val (.int c), .unset, .unset, .unset, .unset, .unset, .unset] [(.int (c - (48 : Int32)))]))
        generalize hv_dx : (c - (48 : Int32)) = dx
        refine Go.by (fun _ => XS.istore X0.here hx rfl (hb hby at_38) rfl (l' := #[.val (.int p0), .val (.int p1), .val (.int (0 : Int32)), .val (.int c), .val (.int dx), .unset, .unset, .unset, .unset, .unset]) rfl) ?_
        show Go p e below P (s₁.setTop (mkF m 40 #[.val (.int p0), .val (.int p1), .val (.int (0 : Int32)), .val (.int c), .val (.int dx), .unset, .unset, .unset, .unset, .unset] []))
        refine Go.by (fun _ => XS.iload X0.here hx rfl (hb hby at_40) rfl) ?_
        show Go p e below P (s₁.setTop (mkF m 42 #[.val (.int p0), .val (.int p1), .val (.int (0 : Int32)), .val (.int c), .val (.int dx), .unset, .unset, .unset, .unset, .unset] [(.int dx)]))
        have hc42 : ¬ (dx < (0 : Int32)) := (fun q => by have q0 := own_sub c 48 hj (by decide); have q1 := congrArg Int32.toInt hv_dx; have k48 : (48 : Int32).toInt = 48 := rfl; have l_0 : (0 : Int32).toInt = 0 := rfl; rw [Int32.lt_iff_toInt_lt] at q; omega)
        refine Go.by (fun _ => XS.ifNo X0.here hx rfl (hb hby at_42) rfl ((if0 _ _).trans (flt hc42).1)) ?_
        show Go p e below P (s₁.setTop (mkF m 45 #[.val (.int p0), .val (.int p1), .val (.int (0 : Int32)), .val (.int c), .val (.int dx), .unset, .unset, .unset, .unset, .unset] []))
        refine Go.by (fun _ => XS.iload X0.here hx rfl (hb hby at_45) rfl) ?_
        show Go p e below P (s₁.setTop (mkF m 47 #[.val (.int p0), .val (.int p1), .val (.int (0 : Int32)), .val (.int c), .val (.int dx), .unset, .unset, .unset, .unset, .unset] [(.int dx)]))
        refine Go.by (fun _ => XS.bipush X0.here hx rfl (hb hby at_47)) ?_
        show Go p e below P (s₁.setTop (mkF m 49 #[.val (.int p0), .val (.int p1), .val (.int (0 : Int32)), .val (.int c), .val (.int dx), .unset, .unset, .unset, .unset, .unset] [(.int (10 : Int32)), (.int dx)]))
        have hc49 : dx < (10 : Int32) := (by have q0 := own_sub c 48 hj (by decide); have q1 := congrArg Int32.toInt hv_dx; have k48 : (48 : Int32).toInt = 48 := rfl; have l_10 : (10 : Int32).toInt = 10 := rfl; rw [Int32.lt_iff_toInt_lt]; omega)
        refine Go.by (fun _ => XS.icmpNo X0.here hx rfl (hb hby at_49) rfl (tlt hc49).2.1) ?_
        show Go p e below P (s₁.setTop (mkF m 52 #[.val (.int p0), .val (.int p1), .val (.int (0 : Int32)), .val (.int c), .val (.int dx), .unset, .unset, .unset, .unset, .unset] []))
        refine Go.by (fun _ => XS.iconst X0.here hx rfl (hb hby at_52)) ?_
        show Go p e below P (s₁.setTop (mkF m 53 #[.val (.int p0), .val (.int p1), .val (.int (0 : Int32)), .val (.int c), .val (.int dx), .unset, .unset, .unset, .unset, .unset] [(.int (1 : Int32))]))
        refine Go.by (fun _ => XS.goto X0.here hx rfl (pc0 := 53) (pc' := 57) rfl (hb hby at_53) (by decide) (by decide)) ?_
        show Go p e below P (s₁.setTop (mkF m 57 #[.val (.int p0), .val (.int p1), .val (.int (0 : Int32)), .val (.int c), .val (.int dx), .unset, .unset, .unset, .unset, .unset] [(.int (1 : Int32))]))
        refine Go.by (fun _ => XS.istore X0.here hx rfl (hb hby at_57) rfl (l' := #[.val (.int p0), .val (.int p1), .val (.int (0 : Int32)), .val (.int c), .val (.int dx), .val (.int (1 : Int32)), .unset, .unset, .unset, .unset]) rfl) ?_
        show Go p e below P (s₁.setTop (mkF m 59 #[.val (.int p0), .val (.int p1), .val (.int (0 : Int32)), .val (.int c), .val (.int dx), .val (.int (1 : Int32)), .unset, .unset, .unset, .unset] []))
        refine Go.by (fun _ => XS.iloadN X0.here hx rfl (hb hby at_59) rfl) ?_
        show Go p e below P (s₁.setTop (mkF m 60 #[.val (.int p0), .val (.int p1), .val (.int (0 : Int32)), .val (.int c), .val (.int dx), .val (.int (1 : Int32)), .unset, .unset, .unset, .unset] [(.int c)]))
        refine Go.by (fun _ => XS.bipush X0.here hx rfl (hb hby at_60)) ?_
        show Go p e below P (s₁.setTop (mkF m 62 #[.val (.int p0), .val (.int p1), .val (.int (0 : Int32)), .val (.int c), .val (.int dx), .val (.int (1 : Int32)), .unset, .unset, .unset, .unset] [(.int (65 : Int32)), (.int c)]))
        refine Go.by (fun _ => XS.isub X0.here hx rfl (hb hby at_62) rfl) ?_
        show Go p e below P (s₁.setTop (mkF m 63 #[.val (.int p0), .val (.int p1), .val (.int (0 : Int32)), .val (.int c), .val (.int dx), .val (.int (1 : Int32)), .unset, .unset, .unset, .unset] [(.int (c - (65 : Int32)))]))
        generalize hv_lx : (c - (65 : Int32)) = lx
        refine Go.by (fun _ => XS.istore X0.here hx rfl (hb hby at_63) rfl (l' := #[.val (.int p0), .val (.int p1), .val (.int (0 : Int32)), .val (.int c), .val (.int dx), .val (.int (1 : Int32)), .val (.int lx), .unset, .unset, .unset]) rfl) ?_
        show Go p e below P (s₁.setTop (mkF m 65 #[.val (.int p0), .val (.int p1), .val (.int (0 : Int32)), .val (.int c), .val (.int dx), .val (.int (1 : Int32)), .val (.int lx), .unset, .unset, .unset] []))
        refine Go.by (fun _ => XS.iload X0.here hx rfl (hb hby at_65) rfl) ?_
        show Go p e below P (s₁.setTop (mkF m 67 #[.val (.int p0), .val (.int p1), .val (.int (0 : Int32)), .val (.int c), .val (.int dx), .val (.int (1 : Int32)), .val (.int lx), .unset, .unset, .unset] [(.int lx)]))
        by_cases hc67 : lx < (0 : Int32)
        · refine Go.by (fun _ => XS.ifYes X0.here hx rfl (pc0 := 67) (pc' := 81) rfl (hb hby at_67) rfl ((if0 _ _).trans (tlt hc67).1) (by decide) (by decide)) ?_
          show Go p e below P (s₁.setTop (mkF m 81 #[.val (.int p0), .val (.int p1), .val (.int (0 : Int32)), .val (.int c), .val (.int dx), .val (.int (1 : Int32)), .val (.int lx), .unset, .unset, .unset] []))
          refine Go.by (fun _ => XS.iconst X0.here hx rfl (hb hby at_81)) ?_
          show Go p e below P (s₁.setTop (mkF m 82 #[.val (.int p0), .val (.int p1), .val (.int (0 : Int32)), .val (.int c), .val (.int dx), .val (.int (1 : Int32)), .val (.int lx), .unset, .unset, .unset] [(.int (0 : Int32))]))
          refine Go.by (fun _ => XS.istore X0.here hx rfl (hb hby at_82) rfl (l' := #[.val (.int p0), .val (.int p1), .val (.int (0 : Int32)), .val (.int c), .val (.int dx), .val (.int (1 : Int32)), .val (.int lx), .val (.int (0 : Int32)), .unset, .unset]) rfl) ?_
          show Go p e below P (s₁.setTop (mkF m 84 #[.val (.int p0), .val (.int p1), .val (.int (0 : Int32)), .val (.int c), .val (.int dx), .val (.int (1 : Int32)), .val (.int lx), .val (.int (0 : Int32)), .unset, .unset] []))
          refine Go.by (fun _ => XS.iloadN X0.here hx rfl (hb hby at_84) rfl) ?_
          show Go p e below P (s₁.setTop (mkF m 85 #[.val (.int p0), .val (.int p1), .val (.int (0 : Int32)), .val (.int c), .val (.int dx), .val (.int (1 : Int32)), .val (.int lx), .val (.int (0 : Int32)), .unset, .unset] [(.int (0 : Int32))]))
          have hc85 : (0 : Int32) = (0 : Int32) := by decide
          refine Go.by (fun _ => XS.ifNo X0.here hx rfl (hb hby at_85) rfl ((if0 _ _).trans (teq hc85).2)) ?_
          show Go p e below P (s₁.setTop (mkF m 88 #[.val (.int p0), .val (.int p1), .val (.int (0 : Int32)), .val (.int c), .val (.int dx), .val (.int (1 : Int32)), .val (.int lx), .val (.int (0 : Int32)), .unset, .unset] []))
          obtain ⟨T1, X1, e1, st1⟩ := getS2 X0 hx hZ hown (host := "") (Or.inl (hw _ (List.mem_of_getElem? (i := 2) rfl))) Via.refl e0 (G0.ext O0.2) (g := (mkF m 88 #[.val (.int p0), .val (.int p1), .val (.int (0 : Int32)), .val (.int c), .val (.int dx), .val (.int (1 : Int32)), .val (.int lx), .val (.int (0 : Int32)), .unset, .unset] [])) rfl (hb hby at_88)
          refine Go.by (fun _ => st1 _) ?_
          show Go p e below P (T1.setTop (mkF m 91 #[.val (.int p0), .val (.int p1), .val (.int (0 : Int32)), .val (.int c), .val (.int dx), .val (.int (1 : Int32)), .val (.int lx), .val (.int (0 : Int32)), .unset, .unset] [(.ref wDIGITS)]))
          refine Go.by (fun _ => XS.astore X1.here hx rfl (hb hby at_91) rfl rfl (l' := #[.val (.int p0), .val (.int p1), .val (.int (0 : Int32)), .val (.int c), .val (.int dx), .val (.int (1 : Int32)), .val (.int lx), .val (.int (0 : Int32)), .val (.ref wDIGITS), .unset]) rfl) ?_
          show Go p e below P (T1.setTop (mkF m 93 #[.val (.int p0), .val (.int p1), .val (.int (0 : Int32)), .val (.int c), .val (.int dx), .val (.int (1 : Int32)), .val (.int lx), .val (.int (0 : Int32)), .val (.ref wDIGITS), .unset] []))
          refine Go.by (fun _ => XS.iload X1.here hx rfl (hb hby at_93) rfl) ?_
          show Go p e below P (T1.setTop (mkF m 95 #[.val (.int p0), .val (.int p1), .val (.int (0 : Int32)), .val (.int c), .val (.int dx), .val (.int (1 : Int32)), .val (.int lx), .val (.int (0 : Int32)), .val (.ref wDIGITS), .unset] [(.int (1 : Int32))]))
          refine Go.by (fun _ => XS.istore X1.here hx rfl (hb hby at_95) rfl (l' := #[.val (.int p0), .val (.int p1), .val (.int (0 : Int32)), .val (.int c), .val (.int dx), .val (.int (1 : Int32)), .val (.int lx), .val (.int (0 : Int32)), .val (.ref wDIGITS), .val (.int (1 : Int32))]) rfl) ?_
          show Go p e below P (T1.setTop (mkF m 97 #[.val (.int p0), .val (.int p1), .val (.int (0 : Int32)), .val (.int c), .val (.int dx), .val (.int (1 : Int32)), .val (.int lx), .val (.int (0 : Int32)), .val (.ref wDIGITS), .val (.int (1 : Int32))] []))
          refine Go.by (fun _ => XS.goto X1.here hx rfl (pc0 := 97) (pc' := 139) rfl (hb hby at_97) (by decide) (by decide)) ?_
          show Go p e below P (T1.setTop (mkF m 139 #[.val (.int p0), .val (.int p1), .val (.int (0 : Int32)), .val (.int c), .val (.int dx), .val (.int (1 : Int32)), .val (.int lx), .val (.int (0 : Int32)), .val (.ref wDIGITS), .val (.int (1 : Int32))] []))
          refine Go.by (fun _ => XS.aload X1.here hx rfl (hb hby at_139) rfl rfl) ?_
          show Go p e below P (T1.setTop (mkF m 141 #[.val (.int p0), .val (.int p1), .val (.int (0 : Int32)), .val (.int c), .val (.int dx), .val (.int (1 : Int32)), .val (.int lx), .val (.int (0 : Int32)), .val (.ref wDIGITS), .val (.int (1 : Int32))] [(.ref wDIGITS)]))
          refine Go.by (fun _ => XS.iloadN X1.here hx rfl (hb hby at_141) rfl) ?_
          show Go p e below P (T1.setTop (mkF m 142 #[.val (.int p0), .val (.int p1), .val (.int (0 : Int32)), .val (.int c), .val (.int dx), .val (.int (1 : Int32)), .val (.int lx), .val (.int (0 : Int32)), .val (.ref wDIGITS), .val (.int (1 : Int32))] [(.int c), (.ref wDIGITS)]))
          obtain ⟨cq2, kq2, qa2, qb2, qc2⟩ := isOf hZ e1 (G1.ext O0.2)
          obtain ⟨_, _, ⟨T2, L2, k2, n2⟩, -, X2, ⟨Lc2, hQ2, l2, y2, z2⟩, st2⟩ := X1.virtualBack hx (y := (⟨"com/example/kontoform/kontoform/CharacterClass", "admits", "(C)Z"⟩ : MethodName)) (z := (⟨"com/example/kontoform/kontoform/CharacterClass", "admits", "(C)Z"⟩ : MethodName)) hown (mvT hZ (hw _ (List.mem_of_getElem? (i := 5) rfl))) (mvT hZ (hw _ (List.mem_of_getElem? (i := 6) rfl))) (notFace_of_selects (args := #[]) (mvT hZ (hw _ (List.mem_of_getElem? (i := 8) rfl)))) (mvT hZ (hw _ (List.mem_of_getElem? (i := 8) rfl))) (mvT hZ (hw _ (List.mem_of_getElem? (i := 7) rfl))) (by decide) (backOf (W := 0) (rm_adm0 l Z a0 hw [] wDIGITS wALPHANUMERIC wLETTERS hG c ((1 : Int32)) h0 n0 Z0 O0  (own_in48 c hd)) hZ (hw _ (List.mem_of_getElem? (i := 9) rfl)) (hw _ (List.mem_of_getElem? (i := 3) rfl)) (Nat.le_of_ble_eq_true rfl) (Nat.le_of_ble_eq_true rfl)) qa2 qc2 (g := (mkF m 142 #[.val (.int p0), .val (.int p1), .val (.int (0 : Int32)), .val (.int c), .val (.int dx), .val (.int (1 : Int32)), .val (.int lx), .val (.int (0 : Int32)), .val (.ref wDIGITS), .val (.int (1 : Int32))] [(.int c), (.ref wDIGITS)])) rfl (by rw [hml]; rfl) (Steps.refl _) (argsL := [(.int c)]) (rest := []) (lenOf pd_1 rfl) rfl (by show 2 * 0 + _ ≤ _; exact Nat.le_of_eq rfl) (hb hby at_142) (fun _ _ => ⟨rfl, e1, (Nat.le_of_ble_eq_true rfl : 0 + 0 ≤ _), (Nat.le_of_ble_eq_true rfl : 0 + 0 ≤ _)⟩)
          dsimp only [Pt.U, Pt.locs, Pt.cells, Pt.slots] at X2 l2 y2 z2 st2 hQ2
          subst l2 y2 z2
          obtain ⟨rfl, Nq2, eq2⟩ := hQ2
          have N2 := Fr.app N0 Nq2
          refine Go.by (fun _ k => st2.trans k) ?_
          show Go p e below P (T2.setTop (mkF m 145 #[.val (.int p0), .val (.int p1), .val (.int (0 : Int32)), .val (.int c), .val (.int dx), .val (.int (1 : Int32)), .val (.int lx), .val (.int (0 : Int32)), .val (.ref wDIGITS), .val (.int (1 : Int32))] [(.int (1 : Int32))]))
          refine Go.by (fun _ => XS.iload X2.here hx rfl (hb hby at_145) rfl) ?_
          show Go p e below P (T2.setTop (mkF m 147 #[.val (.int p0), .val (.int p1), .val (.int (0 : Int32)), .val (.int c), .val (.int dx), .val (.int (1 : Int32)), .val (.int lx), .val (.int (0 : Int32)), .val (.ref wDIGITS), .val (.int (1 : Int32))] [(.int (1 : Int32)), (.int (1 : Int32))]))
          have hc147 : (1 : Int32) = (1 : Int32) := by decide
          refine Go.by (fun _ => XS.icmpNo X2.here hx rfl (hb hby at_147) rfl (teq hc147).2) ?_
          show Go p e below P (T2.setTop (mkF m 150 #[.val (.int p0), .val (.int p1), .val (.int (0 : Int32)), .val (.int c), .val (.int dx), .val (.int (1 : Int32)), .val (.int lx), .val (.int (0 : Int32)), .val (.ref wDIGITS), .val (.int (1 : Int32))] []))
          refine Go.by (fun _ => XS.iconst X2.here hx rfl (hb hby at_150)) ?_
          show Go p e below P (T2.setTop (mkF m 151 #[.val (.int p0), .val (.int p1), .val (.int (0 : Int32)), .val (.int c), .val (.int dx), .val (.int (1 : Int32)), .val (.int lx), .val (.int (0 : Int32)), .val (.ref wDIGITS), .val (.int (1 : Int32))] [(.int (1 : Int32))]))
          refine Go.by (fun _ => XS.goto X2.here hx rfl (pc0 := 151) (pc' := 155) rfl (hb hby at_151) (by decide) (by decide)) ?_
          show Go p e below P (T2.setTop (mkF m 155 #[.val (.int p0), .val (.int p1), .val (.int (0 : Int32)), .val (.int c), .val (.int dx), .val (.int (1 : Int32)), .val (.int lx), .val (.int (0 : Int32)), .val (.ref wDIGITS), .val (.int (1 : Int32))] [(.int (1 : Int32))]))
          subst hP
          refine Go.retZ X2 hx (t := .boolean) Bd.returns (by simp) hlk (hb hby at_155) (Nat.le_of_ble_eq_true rfl) (Nat.le_of_ble_eq_true rfl) ?_
          rw [eq2]
          exact ⟨rfl, N2⟩
        · refine Go.by (fun _ => XS.ifNo X0.here hx rfl (hb hby at_67) rfl ((if0 _ _).trans (flt hc67).1)) ?_
          show Go p e below P (s₁.setTop (mkF m 70 #[.val (.int p0), .val (.int p1), .val (.int (0 : Int32)), .val (.int c), .val (.int dx), .val (.int (1 : Int32)), .val (.int lx), .unset, .unset, .unset] []))
          refine Go.by (fun _ => XS.iload X0.here hx rfl (hb hby at_70) rfl) ?_
          show Go p e below P (s₁.setTop (mkF m 72 #[.val (.int p0), .val (.int p1), .val (.int (0 : Int32)), .val (.int c), .val (.int dx), .val (.int (1 : Int32)), .val (.int lx), .unset, .unset, .unset] [(.int lx)]))
          refine Go.by (fun _ => XS.bipush X0.here hx rfl (hb hby at_72)) ?_
          show Go p e below P (s₁.setTop (mkF m 74 #[.val (.int p0), .val (.int p1), .val (.int (0 : Int32)), .val (.int c), .val (.int dx), .val (.int (1 : Int32)), .val (.int lx), .unset, .unset, .unset] [(.int (26 : Int32)), (.int lx)]))
          have hc74 : ¬ (lx < (26 : Int32)) := (fun q => by have q0 := own_sub c 65 hj (by decide); have q1 := congrArg Int32.toInt hv_lx; have k65 : (65 : Int32).toInt = 65 := rfl; have q3 := hc67; rw [Int32.lt_iff_toInt_lt] at q3; have k0 : (0 : Int32).toInt = 0 := rfl; have l_26 : (26 : Int32).toInt = 26 := rfl; rw [Int32.lt_iff_toInt_lt] at q; omega)
          refine Go.by (fun _ => XS.icmpYes X0.here hx rfl (pc0 := 74) (pc' := 81) rfl (hb hby at_74) rfl (flt hc74).2.1 (by decide) (by decide)) ?_
          show Go p e below P (s₁.setTop (mkF m 81 #[.val (.int p0), .val (.int p1), .val (.int (0 : Int32)), .val (.int c), .val (.int dx), .val (.int (1 : Int32)), .val (.int lx), .unset, .unset, .unset] []))
          refine Go.by (fun _ => XS.iconst X0.here hx rfl (hb hby at_81)) ?_
          show Go p e below P (s₁.setTop (mkF m 82 #[.val (.int p0), .val (.int p1), .val (.int (0 : Int32)), .val (.int c), .val (.int dx), .val (.int (1 : Int32)), .val (.int lx), .unset, .unset, .unset] [(.int (0 : Int32))]))
          refine Go.by (fun _ => XS.istore X0.here hx rfl (hb hby at_82) rfl (l' := #[.val (.int p0), .val (.int p1), .val (.int (0 : Int32)), .val (.int c), .val (.int dx), .val (.int (1 : Int32)), .val (.int lx), .val (.int (0 : Int32)), .unset, .unset]) rfl) ?_
          show Go p e below P (s₁.setTop (mkF m 84 #[.val (.int p0), .val (.int p1), .val (.int (0 : Int32)), .val (.int c), .val (.int dx), .val (.int (1 : Int32)), .val (.int lx), .val (.int (0 : Int32)), .unset, .unset] []))
          refine Go.by (fun _ => XS.iloadN X0.here hx rfl (hb hby at_84) rfl) ?_
          show Go p e below P (s₁.setTop (mkF m 85 #[.val (.int p0), .val (.int p1), .val (.int (0 : Int32)), .val (.int c), .val (.int dx), .val (.int (1 : Int32)), .val (.int lx), .val (.int (0 : Int32)), .unset, .unset] [(.int (0 : Int32))]))
          have hc85 : (0 : Int32) = (0 : Int32) := by decide
          refine Go.by (fun _ => XS.ifNo X0.here hx rfl (hb hby at_85) rfl ((if0 _ _).trans (teq hc85).2)) ?_
          show Go p e below P (s₁.setTop (mkF m 88 #[.val (.int p0), .val (.int p1), .val (.int (0 : Int32)), .val (.int c), .val (.int dx), .val (.int (1 : Int32)), .val (.int lx), .val (.int (0 : Int32)), .unset, .unset] []))
          obtain ⟨T3, X3, e3, st3⟩ := getS2 X0 hx hZ hown (host := "") (Or.inl (hw _ (List.mem_of_getElem? (i := 2) rfl))) Via.refl e0 (G0.ext O0.2) (g := (mkF m 88 #[.val (.int p0), .val (.int p1), .val (.int (0 : Int32)), .val (.int c), .val (.int dx), .val (.int (1 : Int32)), .val (.int lx), .val (.int (0 : Int32)), .unset, .unset] [])) rfl (hb hby at_88)
          refine Go.by (fun _ => st3 _) ?_
          show Go p e below P (T3.setTop (mkF m 91 #[.val (.int p0), .val (.int p1), .val (.int (0 : Int32)), .val (.int c), .val (.int dx), .val (.int (1 : Int32)), .val (.int lx), .val (.int (0 : Int32)), .unset, .unset] [(.ref wDIGITS)]))
          refine Go.by (fun _ => XS.astore X3.here hx rfl (hb hby at_91) rfl rfl (l' := #[.val (.int p0), .val (.int p1), .val (.int (0 : Int32)), .val (.int c), .val (.int dx), .val (.int (1 : Int32)), .val (.int lx), .val (.int (0 : Int32)), .val (.ref wDIGITS), .unset]) rfl) ?_
          show Go p e below P (T3.setTop (mkF m 93 #[.val (.int p0), .val (.int p1), .val (.int (0 : Int32)), .val (.int c), .val (.int dx), .val (.int (1 : Int32)), .val (.int lx), .val (.int (0 : Int32)), .val (.ref wDIGITS), .unset] []))
          refine Go.by (fun _ => XS.iload X3.here hx rfl (hb hby at_93) rfl) ?_
          show Go p e below P (T3.setTop (mkF m 95 #[.val (.int p0), .val (.int p1), .val (.int (0 : Int32)), .val (.int c), .val (.int dx), .val (.int (1 : Int32)), .val (.int lx), .val (.int (0 : Int32)), .val (.ref wDIGITS), .unset] [(.int (1 : Int32))]))
          refine Go.by (fun _ => XS.istore X3.here hx rfl (hb hby at_95) rfl (l' := #[.val (.int p0), .val (.int p1), .val (.int (0 : Int32)), .val (.int c), .val (.int dx), .val (.int (1 : Int32)), .val (.int lx), .val (.int (0 : Int32)), .val (.ref wDIGITS), .val (.int (1 : Int32))]) rfl) ?_
          show Go p e below P (T3.setTop (mkF m 97 #[.val (.int p0), .val (.int p1), .val (.int (0 : Int32)), .val (.int c), .val (.int dx), .val (.int (1 : Int32)), .val (.int lx), .val (.int (0 : Int32)), .val (.ref wDIGITS), .val (.int (1 : Int32))] []))
          refine Go.by (fun _ => XS.goto X3.here hx rfl (pc0 := 97) (pc' := 139) rfl (hb hby at_97) (by decide) (by decide)) ?_
          show Go p e below P (T3.setTop (mkF m 139 #[.val (.int p0), .val (.int p1), .val (.int (0 : Int32)), .val (.int c), .val (.int dx), .val (.int (1 : Int32)), .val (.int lx), .val (.int (0 : Int32)), .val (.ref wDIGITS), .val (.int (1 : Int32))] []))
          refine Go.by (fun _ => XS.aload X3.here hx rfl (hb hby at_139) rfl rfl) ?_
          show Go p e below P (T3.setTop (mkF m 141 #[.val (.int p0), .val (.int p1), .val (.int (0 : Int32)), .val (.int c), .val (.int dx), .val (.int (1 : Int32)), .val (.int lx), .val (.int (0 : Int32)), .val (.ref wDIGITS), .val (.int (1 : Int32))] [(.ref wDIGITS)]))
          refine Go.by (fun _ => XS.iloadN X3.here hx rfl (hb hby at_141) rfl) ?_
          show Go p e below P (T3.setTop (mkF m 142 #[.val (.int p0), .val (.int p1), .val (.int (0 : Int32)), .val (.int c), .val (.int dx), .val (.int (1 : Int32)), .val (.int lx), .val (.int (0 : Int32)), .val (.ref wDIGITS), .val (.int (1 : Int32))] [(.int c), (.ref wDIGITS)]))
          obtain ⟨cq4, kq4, qa4, qb4, qc4⟩ := isOf hZ e3 (G1.ext O0.2)
          obtain ⟨_, _, ⟨T4, L4, k4, n4⟩, -, X4, ⟨Lc4, hQ4, l4, y4, z4⟩, st4⟩ := X3.virtualBack hx (y := (⟨"com/example/kontoform/kontoform/CharacterClass", "admits", "(C)Z"⟩ : MethodName)) (z := (⟨"com/example/kontoform/kontoform/CharacterClass", "admits", "(C)Z"⟩ : MethodName)) hown (mvT hZ (hw _ (List.mem_of_getElem? (i := 5) rfl))) (mvT hZ (hw _ (List.mem_of_getElem? (i := 6) rfl))) (notFace_of_selects (args := #[]) (mvT hZ (hw _ (List.mem_of_getElem? (i := 8) rfl)))) (mvT hZ (hw _ (List.mem_of_getElem? (i := 8) rfl))) (mvT hZ (hw _ (List.mem_of_getElem? (i := 7) rfl))) (by decide) (backOf (W := 0) (rm_adm0 l Z a0 hw [] wDIGITS wALPHANUMERIC wLETTERS hG c ((1 : Int32)) h0 n0 Z0 O0  (own_in48 c hd)) hZ (hw _ (List.mem_of_getElem? (i := 9) rfl)) (hw _ (List.mem_of_getElem? (i := 3) rfl)) (Nat.le_of_ble_eq_true rfl) (Nat.le_of_ble_eq_true rfl)) qa4 qc4 (g := (mkF m 142 #[.val (.int p0), .val (.int p1), .val (.int (0 : Int32)), .val (.int c), .val (.int dx), .val (.int (1 : Int32)), .val (.int lx), .val (.int (0 : Int32)), .val (.ref wDIGITS), .val (.int (1 : Int32))] [(.int c), (.ref wDIGITS)])) rfl (by rw [hml]; rfl) (Steps.refl _) (argsL := [(.int c)]) (rest := []) (lenOf pd_1 rfl) rfl (by show 2 * 0 + _ ≤ _; exact Nat.le_of_eq rfl) (hb hby at_142) (fun _ _ => ⟨rfl, e3, (Nat.le_of_ble_eq_true rfl : 0 + 0 ≤ _), (Nat.le_of_ble_eq_true rfl : 0 + 0 ≤ _)⟩)
          dsimp only [Pt.U, Pt.locs, Pt.cells, Pt.slots] at X4 l4 y4 z4 st4 hQ4
          subst l4 y4 z4
          obtain ⟨rfl, Nq4, eq4⟩ := hQ4
          have N4 := Fr.app N0 Nq4
          refine Go.by (fun _ k => st4.trans k) ?_
          show Go p e below P (T4.setTop (mkF m 145 #[.val (.int p0), .val (.int p1), .val (.int (0 : Int32)), .val (.int c), .val (.int dx), .val (.int (1 : Int32)), .val (.int lx), .val (.int (0 : Int32)), .val (.ref wDIGITS), .val (.int (1 : Int32))] [(.int (1 : Int32))]))
          refine Go.by (fun _ => XS.iload X4.here hx rfl (hb hby at_145) rfl) ?_
          show Go p e below P (T4.setTop (mkF m 147 #[.val (.int p0), .val (.int p1), .val (.int (0 : Int32)), .val (.int c), .val (.int dx), .val (.int (1 : Int32)), .val (.int lx), .val (.int (0 : Int32)), .val (.ref wDIGITS), .val (.int (1 : Int32))] [(.int (1 : Int32)), (.int (1 : Int32))]))
          have hc147 : (1 : Int32) = (1 : Int32) := by decide
          refine Go.by (fun _ => XS.icmpNo X4.here hx rfl (hb hby at_147) rfl (teq hc147).2) ?_
          show Go p e below P (T4.setTop (mkF m 150 #[.val (.int p0), .val (.int p1), .val (.int (0 : Int32)), .val (.int c), .val (.int dx), .val (.int (1 : Int32)), .val (.int lx), .val (.int (0 : Int32)), .val (.ref wDIGITS), .val (.int (1 : Int32))] []))
          refine Go.by (fun _ => XS.iconst X4.here hx rfl (hb hby at_150)) ?_
          show Go p e below P (T4.setTop (mkF m 151 #[.val (.int p0), .val (.int p1), .val (.int (0 : Int32)), .val (.int c), .val (.int dx), .val (.int (1 : Int32)), .val (.int lx), .val (.int (0 : Int32)), .val (.ref wDIGITS), .val (.int (1 : Int32))] [(.int (1 : Int32))]))
          refine Go.by (fun _ => XS.goto X4.here hx rfl (pc0 := 151) (pc' := 155) rfl (hb hby at_151) (by decide) (by decide)) ?_
          show Go p e below P (T4.setTop (mkF m 155 #[.val (.int p0), .val (.int p1), .val (.int (0 : Int32)), .val (.int c), .val (.int dx), .val (.int (1 : Int32)), .val (.int lx), .val (.int (0 : Int32)), .val (.ref wDIGITS), .val (.int (1 : Int32))] [(.int (1 : Int32))]))
          subst hP
          refine Go.retZ X4 hx (t := .boolean) Bd.returns (by simp) hlk (hb hby at_155) (Nat.le_of_ble_eq_true rfl) (Nat.le_of_ble_eq_true rfl) ?_
          rw [eq4]
          exact ⟨rfl, N4⟩
      · show Go p e below P (s₁.setTop (mkF m 34 #[.val (.int p0), .val (.int p1), .val (.int (1 : Int32)), .val (.int c), .unset, .unset, .unset, .unset, .unset, .unset] []))
        refine Go.by (fun _ => XS.iloadN X0.here hx rfl (hb hby at_34) rfl) ?_
        show Go p e below P (s₁.setTop (mkF m 35 #[.val (.int p0), .val (.int p1), .val (.int (1 : Int32)), .val (.int c), .unset, .unset, .unset, .unset, .unset, .unset] [(.int c)]))
        refine Go.by (fun _ => XS.bipush X0.here hx rfl (hb hby at_35)) ?_
        show Go p e below P (s₁.setTop (mkF m 37 #[.val (.int p0), .val (.int p1), .val (.int (1 : Int32)), .val (.int c), .unset, .unset, .unset, .unset, .unset, .unset] [(.int (48 : Int32)), (.int c)]))
        refine Go.by (fun _ => XS.isub X0.here hx rfl (hb hby at_37) rfl) ?_
        show Go p e below P (s₁.setTop (mkF m 38 #[.val (.int p0), .val (.int p1), .val (.int (1 : Int32)), .val (.int c), .unset, .unset, .unset, .unset, .unset, .unset] [(.int (c - (48 : Int32)))]))
        generalize hv_dx : (c - (48 : Int32)) = dx
        refine Go.by (fun _ => XS.istore X0.here hx rfl (hb hby at_38) rfl (l' := #[.val (.int p0), .val (.int p1), .val (.int (1 : Int32)), .val (.int c), .val (.int dx), .unset, .unset, .unset, .unset, .unset]) rfl) ?_
        show Go p e below P (s₁.setTop (mkF m 40 #[.val (.int p0), .val (.int p1), .val (.int (1 : Int32)), .val (.int c), .val (.int dx), .unset, .unset, .unset, .unset, .unset] []))
        refine Go.by (fun _ => XS.iload X0.here hx rfl (hb hby at_40) rfl) ?_
        show Go p e below P (s₁.setTop (mkF m 42 #[.val (.int p0), .val (.int p1), .val (.int (1 : Int32)), .val (.int c), .val (.int dx), .unset, .unset, .unset, .unset, .unset] [(.int dx)]))
        have hc42 : ¬ (dx < (0 : Int32)) := (fun q => by have q0 := own_sub c 48 hj (by decide); have q1 := congrArg Int32.toInt hv_dx; have k48 : (48 : Int32).toInt = 48 := rfl; have l_0 : (0 : Int32).toInt = 0 := rfl; rw [Int32.lt_iff_toInt_lt] at q; omega)
        refine Go.by (fun _ => XS.ifNo X0.here hx rfl (hb hby at_42) rfl ((if0 _ _).trans (flt hc42).1)) ?_
        show Go p e below P (s₁.setTop (mkF m 45 #[.val (.int p0), .val (.int p1), .val (.int (1 : Int32)), .val (.int c), .val (.int dx), .unset, .unset, .unset, .unset, .unset] []))
        refine Go.by (fun _ => XS.iload X0.here hx rfl (hb hby at_45) rfl) ?_
        show Go p e below P (s₁.setTop (mkF m 47 #[.val (.int p0), .val (.int p1), .val (.int (1 : Int32)), .val (.int c), .val (.int dx), .unset, .unset, .unset, .unset, .unset] [(.int dx)]))
        refine Go.by (fun _ => XS.bipush X0.here hx rfl (hb hby at_47)) ?_
        show Go p e below P (s₁.setTop (mkF m 49 #[.val (.int p0), .val (.int p1), .val (.int (1 : Int32)), .val (.int c), .val (.int dx), .unset, .unset, .unset, .unset, .unset] [(.int (10 : Int32)), (.int dx)]))
        have hc49 : dx < (10 : Int32) := (by have q0 := own_sub c 48 hj (by decide); have q1 := congrArg Int32.toInt hv_dx; have k48 : (48 : Int32).toInt = 48 := rfl; have l_10 : (10 : Int32).toInt = 10 := rfl; rw [Int32.lt_iff_toInt_lt]; omega)
        refine Go.by (fun _ => XS.icmpNo X0.here hx rfl (hb hby at_49) rfl (tlt hc49).2.1) ?_
        show Go p e below P (s₁.setTop (mkF m 52 #[.val (.int p0), .val (.int p1), .val (.int (1 : Int32)), .val (.int c), .val (.int dx), .unset, .unset, .unset, .unset, .unset] []))
        refine Go.by (fun _ => XS.iconst X0.here hx rfl (hb hby at_52)) ?_
        show Go p e below P (s₁.setTop (mkF m 53 #[.val (.int p0), .val (.int p1), .val (.int (1 : Int32)), .val (.int c), .val (.int dx), .unset, .unset, .unset, .unset, .unset] [(.int (1 : Int32))]))
        refine Go.by (fun _ => XS.goto X0.here hx rfl (pc0 := 53) (pc' := 57) rfl (hb hby at_53) (by decide) (by decide)) ?_
        show Go p e below P (s₁.setTop (mkF m 57 #[.val (.int p0), .val (.int p1), .val (.int (1 : Int32)), .val (.int c), .val (.int dx), .unset, .unset, .unset, .unset, .unset] [(.int (1 : Int32))]))
        refine Go.by (fun _ => XS.istore X0.here hx rfl (hb hby at_57) rfl (l' := #[.val (.int p0), .val (.int p1), .val (.int (1 : Int32)), .val (.int c), .val (.int dx), .val (.int (1 : Int32)), .unset, .unset, .unset, .unset]) rfl) ?_
        show Go p e below P (s₁.setTop (mkF m 59 #[.val (.int p0), .val (.int p1), .val (.int (1 : Int32)), .val (.int c), .val (.int dx), .val (.int (1 : Int32)), .unset, .unset, .unset, .unset] []))
        refine Go.by (fun _ => XS.iloadN X0.here hx rfl (hb hby at_59) rfl) ?_
        show Go p e below P (s₁.setTop (mkF m 60 #[.val (.int p0), .val (.int p1), .val (.int (1 : Int32)), .val (.int c), .val (.int dx), .val (.int (1 : Int32)), .unset, .unset, .unset, .unset] [(.int c)]))
        refine Go.by (fun _ => XS.bipush X0.here hx rfl (hb hby at_60)) ?_
        show Go p e below P (s₁.setTop (mkF m 62 #[.val (.int p0), .val (.int p1), .val (.int (1 : Int32)), .val (.int c), .val (.int dx), .val (.int (1 : Int32)), .unset, .unset, .unset, .unset] [(.int (65 : Int32)), (.int c)]))
        refine Go.by (fun _ => XS.isub X0.here hx rfl (hb hby at_62) rfl) ?_
        show Go p e below P (s₁.setTop (mkF m 63 #[.val (.int p0), .val (.int p1), .val (.int (1 : Int32)), .val (.int c), .val (.int dx), .val (.int (1 : Int32)), .unset, .unset, .unset, .unset] [(.int (c - (65 : Int32)))]))
        generalize hv_lx : (c - (65 : Int32)) = lx
        refine Go.by (fun _ => XS.istore X0.here hx rfl (hb hby at_63) rfl (l' := #[.val (.int p0), .val (.int p1), .val (.int (1 : Int32)), .val (.int c), .val (.int dx), .val (.int (1 : Int32)), .val (.int lx), .unset, .unset, .unset]) rfl) ?_
        show Go p e below P (s₁.setTop (mkF m 65 #[.val (.int p0), .val (.int p1), .val (.int (1 : Int32)), .val (.int c), .val (.int dx), .val (.int (1 : Int32)), .val (.int lx), .unset, .unset, .unset] []))
        refine Go.by (fun _ => XS.iload X0.here hx rfl (hb hby at_65) rfl) ?_
        show Go p e below P (s₁.setTop (mkF m 67 #[.val (.int p0), .val (.int p1), .val (.int (1 : Int32)), .val (.int c), .val (.int dx), .val (.int (1 : Int32)), .val (.int lx), .unset, .unset, .unset] [(.int lx)]))
        by_cases hc67 : lx < (0 : Int32)
        · refine Go.by (fun _ => XS.ifYes X0.here hx rfl (pc0 := 67) (pc' := 81) rfl (hb hby at_67) rfl ((if0 _ _).trans (tlt hc67).1) (by decide) (by decide)) ?_
          show Go p e below P (s₁.setTop (mkF m 81 #[.val (.int p0), .val (.int p1), .val (.int (1 : Int32)), .val (.int c), .val (.int dx), .val (.int (1 : Int32)), .val (.int lx), .unset, .unset, .unset] []))
          refine Go.by (fun _ => XS.iconst X0.here hx rfl (hb hby at_81)) ?_
          show Go p e below P (s₁.setTop (mkF m 82 #[.val (.int p0), .val (.int p1), .val (.int (1 : Int32)), .val (.int c), .val (.int dx), .val (.int (1 : Int32)), .val (.int lx), .unset, .unset, .unset] [(.int (0 : Int32))]))
          refine Go.by (fun _ => XS.istore X0.here hx rfl (hb hby at_82) rfl (l' := #[.val (.int p0), .val (.int p1), .val (.int (1 : Int32)), .val (.int c), .val (.int dx), .val (.int (1 : Int32)), .val (.int lx), .val (.int (0 : Int32)), .unset, .unset]) rfl) ?_
          show Go p e below P (s₁.setTop (mkF m 84 #[.val (.int p0), .val (.int p1), .val (.int (1 : Int32)), .val (.int c), .val (.int dx), .val (.int (1 : Int32)), .val (.int lx), .val (.int (0 : Int32)), .unset, .unset] []))
          refine Go.by (fun _ => XS.iloadN X0.here hx rfl (hb hby at_84) rfl) ?_
          show Go p e below P (s₁.setTop (mkF m 85 #[.val (.int p0), .val (.int p1), .val (.int (1 : Int32)), .val (.int c), .val (.int dx), .val (.int (1 : Int32)), .val (.int lx), .val (.int (0 : Int32)), .unset, .unset] [(.int (1 : Int32))]))
          have hc85 : ¬ ((1 : Int32) = (0 : Int32)) := by decide
          refine Go.by (fun _ => XS.ifYes X0.here hx rfl (pc0 := 85) (pc' := 100) rfl (hb hby at_85) rfl ((if0 _ _).trans (feq hc85).2) (by decide) (by decide)) ?_
          show Go p e below P (s₁.setTop (mkF m 100 #[.val (.int p0), .val (.int p1), .val (.int (1 : Int32)), .val (.int c), .val (.int dx), .val (.int (1 : Int32)), .val (.int lx), .val (.int (0 : Int32)), .unset, .unset] []))
          refine Go.by (fun _ => XS.iloadN X0.here hx rfl (hb hby at_100) rfl) ?_
          show Go p e below P (s₁.setTop (mkF m 101 #[.val (.int p0), .val (.int p1), .val (.int (1 : Int32)), .val (.int c), .val (.int dx), .val (.int (1 : Int32)), .val (.int lx), .val (.int (0 : Int32)), .unset, .unset] [(.int (1 : Int32))]))
          refine Go.by (fun _ => XS.iconst X0.here hx rfl (hb hby at_101)) ?_
          show Go p e below P (s₁.setTop (mkF m 102 #[.val (.int p0), .val (.int p1), .val (.int (1 : Int32)), .val (.int c), .val (.int dx), .val (.int (1 : Int32)), .val (.int lx), .val (.int (0 : Int32)), .unset, .unset] [(.int (1 : Int32)), (.int (1 : Int32))]))
          have hc102 : (1 : Int32) = (1 : Int32) := by decide
          refine Go.by (fun _ => XS.icmpNo X0.here hx rfl (hb hby at_102) rfl (teq hc102).2) ?_
          show Go p e below P (s₁.setTop (mkF m 105 #[.val (.int p0), .val (.int p1), .val (.int (1 : Int32)), .val (.int c), .val (.int dx), .val (.int (1 : Int32)), .val (.int lx), .val (.int (0 : Int32)), .unset, .unset] []))
          obtain ⟨T5, X5, e5, st5⟩ := getS2 X0 hx hZ hown (host := "") (Or.inl (hw _ (List.mem_of_getElem? (i := 25) rfl))) Via.refl e0 (G6.ext O0.2) (g := (mkF m 105 #[.val (.int p0), .val (.int p1), .val (.int (1 : Int32)), .val (.int c), .val (.int dx), .val (.int (1 : Int32)), .val (.int lx), .val (.int (0 : Int32)), .unset, .unset] [])) rfl (hb hby at_105)
          refine Go.by (fun _ => st5 _) ?_
          show Go p e below P (T5.setTop (mkF m 108 #[.val (.int p0), .val (.int p1), .val (.int (1 : Int32)), .val (.int c), .val (.int dx), .val (.int (1 : Int32)), .val (.int lx), .val (.int (0 : Int32)), .unset, .unset] [(.ref wLETTERS)]))
          refine Go.by (fun _ => XS.astore X5.here hx rfl (hb hby at_108) rfl rfl (l' := #[.val (.int p0), .val (.int p1), .val (.int (1 : Int32)), .val (.int c), .val (.int dx), .val (.int (1 : Int32)), .val (.int lx), .val (.int (0 : Int32)), .val (.ref wLETTERS), .unset]) rfl) ?_
          show Go p e below P (T5.setTop (mkF m 110 #[.val (.int p0), .val (.int p1), .val (.int (1 : Int32)), .val (.int c), .val (.int dx), .val (.int (1 : Int32)), .val (.int lx), .val (.int (0 : Int32)), .val (.ref wLETTERS), .unset] []))
          refine Go.by (fun _ => XS.iload X5.here hx rfl (hb hby at_110) rfl) ?_
          show Go p e below P (T5.setTop (mkF m 112 #[.val (.int p0), .val (.int p1), .val (.int (1 : Int32)), .val (.int c), .val (.int dx), .val (.int (1 : Int32)), .val (.int lx), .val (.int (0 : Int32)), .val (.ref wLETTERS), .unset] [(.int (0 : Int32))]))
          refine Go.by (fun _ => XS.istore X5.here hx rfl (hb hby at_112) rfl (l' := #[.val (.int p0), .val (.int p1), .val (.int (1 : Int32)), .val (.int c), .val (.int dx), .val (.int (1 : Int32)), .val (.int lx), .val (.int (0 : Int32)), .val (.ref wLETTERS), .val (.int (0 : Int32))]) rfl) ?_
          show Go p e below P (T5.setTop (mkF m 114 #[.val (.int p0), .val (.int p1), .val (.int (1 : Int32)), .val (.int c), .val (.int dx), .val (.int (1 : Int32)), .val (.int lx), .val (.int (0 : Int32)), .val (.ref wLETTERS), .val (.int (0 : Int32))] []))
          refine Go.by (fun _ => XS.goto X5.here hx rfl (pc0 := 114) (pc' := 139) rfl (hb hby at_114) (by decide) (by decide)) ?_
          show Go p e below P (T5.setTop (mkF m 139 #[.val (.int p0), .val (.int p1), .val (.int (1 : Int32)), .val (.int c), .val (.int dx), .val (.int (1 : Int32)), .val (.int lx), .val (.int (0 : Int32)), .val (.ref wLETTERS), .val (.int (0 : Int32))] []))
          refine Go.by (fun _ => XS.aload X5.here hx rfl (hb hby at_139) rfl rfl) ?_
          show Go p e below P (T5.setTop (mkF m 141 #[.val (.int p0), .val (.int p1), .val (.int (1 : Int32)), .val (.int c), .val (.int dx), .val (.int (1 : Int32)), .val (.int lx), .val (.int (0 : Int32)), .val (.ref wLETTERS), .val (.int (0 : Int32))] [(.ref wLETTERS)]))
          refine Go.by (fun _ => XS.iloadN X5.here hx rfl (hb hby at_141) rfl) ?_
          show Go p e below P (T5.setTop (mkF m 142 #[.val (.int p0), .val (.int p1), .val (.int (1 : Int32)), .val (.int c), .val (.int dx), .val (.int (1 : Int32)), .val (.int lx), .val (.int (0 : Int32)), .val (.ref wLETTERS), .val (.int (0 : Int32))] [(.int c), (.ref wLETTERS)]))
          obtain ⟨cq6, kq6, qa6, qb6, qc6⟩ := isOf hZ e5 (G7.ext O0.2)
          obtain ⟨_, _, ⟨T6, L6, k6, n6⟩, -, X6, ⟨Lc6, hQ6, l6, y6, z6⟩, st6⟩ := X5.virtualBack hx (y := (⟨"com/example/kontoform/kontoform/CharacterClass", "admits", "(C)Z"⟩ : MethodName)) (z := (⟨"com/example/kontoform/kontoform/CharacterClass", "admits", "(C)Z"⟩ : MethodName)) hown (mvT hZ (hw _ (List.mem_of_getElem? (i := 5) rfl))) (mvT hZ (hw _ (List.mem_of_getElem? (i := 6) rfl))) (notFace_of_selects (args := #[]) (mvT hZ (hw _ (List.mem_of_getElem? (i := 8) rfl)))) (mvT hZ (hw _ (List.mem_of_getElem? (i := 8) rfl))) (mvT hZ (hw _ (List.mem_of_getElem? (i := 7) rfl))) (by decide) (backOf (W := 0) (rm_adm1 l Z a0 hw [] wDIGITS wALPHANUMERIC wLETTERS hG c ((0 : Int32)) h0 n0 Z0 O0  (own_out65 c (fun q => by omega))) hZ (hw _ (List.mem_of_getElem? (i := 9) rfl)) (hw _ (List.mem_of_getElem? (i := 3) rfl)) (Nat.le_of_ble_eq_true rfl) (Nat.le_of_ble_eq_true rfl)) qa6 qc6 (g := (mkF m 142 #[.val (.int p0), .val (.int p1), .val (.int (1 : Int32)), .val (.int c), .val (.int dx), .val (.int (1 : Int32)), .val (.int lx), .val (.int (0 : Int32)), .val (.ref wLETTERS), .val (.int (0 : Int32))] [(.int c), (.ref wLETTERS)])) rfl (by rw [hml]; rfl) (Steps.refl _) (argsL := [(.int c)]) (rest := []) (lenOf pd_1 rfl) rfl (by show 2 * 0 + _ ≤ _; exact Nat.le_of_eq rfl) (hb hby at_142) (fun _ _ => ⟨rfl, e5, (Nat.le_of_ble_eq_true rfl : 0 + 0 ≤ _), (Nat.le_of_ble_eq_true rfl : 0 + 0 ≤ _)⟩)
          dsimp only [Pt.U, Pt.locs, Pt.cells, Pt.slots] at X6 l6 y6 z6 st6 hQ6
          subst l6 y6 z6
          obtain ⟨rfl, Nq6, eq6⟩ := hQ6
          have N6 := Fr.app N0 Nq6
          refine Go.by (fun _ k => st6.trans k) ?_
          show Go p e below P (T6.setTop (mkF m 145 #[.val (.int p0), .val (.int p1), .val (.int (1 : Int32)), .val (.int c), .val (.int dx), .val (.int (1 : Int32)), .val (.int lx), .val (.int (0 : Int32)), .val (.ref wLETTERS), .val (.int (0 : Int32))] [(.int (0 : Int32))]))
          refine Go.by (fun _ => XS.iload X6.here hx rfl (hb hby at_145) rfl) ?_
          show Go p e below P (T6.setTop (mkF m 147 #[.val (.int p0), .val (.int p1), .val (.int (1 : Int32)), .val (.int c), .val (.int dx), .val (.int (1 : Int32)), .val (.int lx), .val (.int (0 : Int32)), .val (.ref wLETTERS), .val (.int (0 : Int32))] [(.int (0 : Int32)), (.int (0 : Int32))]))
          have hc147 : (0 : Int32) = (0 : Int32) := by decide
          refine Go.by (fun _ => XS.icmpNo X6.here hx rfl (hb hby at_147) rfl (teq hc147).2) ?_
          show Go p e below P (T6.setTop (mkF m 150 #[.val (.int p0), .val (.int p1), .val (.int (1 : Int32)), .val (.int c), .val (.int dx), .val (.int (1 : Int32)), .val (.int lx), .val (.int (0 : Int32)), .val (.ref wLETTERS), .val (.int (0 : Int32))] []))
          refine Go.by (fun _ => XS.iconst X6.here hx rfl (hb hby at_150)) ?_
          show Go p e below P (T6.setTop (mkF m 151 #[.val (.int p0), .val (.int p1), .val (.int (1 : Int32)), .val (.int c), .val (.int dx), .val (.int (1 : Int32)), .val (.int lx), .val (.int (0 : Int32)), .val (.ref wLETTERS), .val (.int (0 : Int32))] [(.int (1 : Int32))]))
          refine Go.by (fun _ => XS.goto X6.here hx rfl (pc0 := 151) (pc' := 155) rfl (hb hby at_151) (by decide) (by decide)) ?_
          show Go p e below P (T6.setTop (mkF m 155 #[.val (.int p0), .val (.int p1), .val (.int (1 : Int32)), .val (.int c), .val (.int dx), .val (.int (1 : Int32)), .val (.int lx), .val (.int (0 : Int32)), .val (.ref wLETTERS), .val (.int (0 : Int32))] [(.int (1 : Int32))]))
          subst hP
          refine Go.retZ X6 hx (t := .boolean) Bd.returns (by simp) hlk (hb hby at_155) (Nat.le_of_ble_eq_true rfl) (Nat.le_of_ble_eq_true rfl) ?_
          rw [eq6]
          exact ⟨rfl, N6⟩
        · refine Go.by (fun _ => XS.ifNo X0.here hx rfl (hb hby at_67) rfl ((if0 _ _).trans (flt hc67).1)) ?_
          show Go p e below P (s₁.setTop (mkF m 70 #[.val (.int p0), .val (.int p1), .val (.int (1 : Int32)), .val (.int c), .val (.int dx), .val (.int (1 : Int32)), .val (.int lx), .unset, .unset, .unset] []))
          refine Go.by (fun _ => XS.iload X0.here hx rfl (hb hby at_70) rfl) ?_
          show Go p e below P (s₁.setTop (mkF m 72 #[.val (.int p0), .val (.int p1), .val (.int (1 : Int32)), .val (.int c), .val (.int dx), .val (.int (1 : Int32)), .val (.int lx), .unset, .unset, .unset] [(.int lx)]))
          refine Go.by (fun _ => XS.bipush X0.here hx rfl (hb hby at_72)) ?_
          show Go p e below P (s₁.setTop (mkF m 74 #[.val (.int p0), .val (.int p1), .val (.int (1 : Int32)), .val (.int c), .val (.int dx), .val (.int (1 : Int32)), .val (.int lx), .unset, .unset, .unset] [(.int (26 : Int32)), (.int lx)]))
          have hc74 : ¬ (lx < (26 : Int32)) := (fun q => by have q0 := own_sub c 65 hj (by decide); have q1 := congrArg Int32.toInt hv_lx; have k65 : (65 : Int32).toInt = 65 := rfl; have q3 := hc67; rw [Int32.lt_iff_toInt_lt] at q3; have k0 : (0 : Int32).toInt = 0 := rfl; have l_26 : (26 : Int32).toInt = 26 := rfl; rw [Int32.lt_iff_toInt_lt] at q; omega)
          refine Go.by (fun _ => XS.icmpYes X0.here hx rfl (pc0 := 74) (pc' := 81) rfl (hb hby at_74) rfl (flt hc74).2.1 (by decide) (by decide)) ?_
          show Go p e below P (s₁.setTop (mkF m 81 #[.val (.int p0), .val (.int p1), .val (.int (1 : Int32)), .val (.int c), .val (.int dx), .val (.int (1 : Int32)), .val (.int lx), .unset, .unset, .unset] []))
          refine Go.by (fun _ => XS.iconst X0.here hx rfl (hb hby at_81)) ?_
          show Go p e below P (s₁.setTop (mkF m 82 #[.val (.int p0), .val (.int p1), .val (.int (1 : Int32)), .val (.int c), .val (.int dx), .val (.int (1 : Int32)), .val (.int lx), .unset, .unset, .unset] [(.int (0 : Int32))]))
          refine Go.by (fun _ => XS.istore X0.here hx rfl (hb hby at_82) rfl (l' := #[.val (.int p0), .val (.int p1), .val (.int (1 : Int32)), .val (.int c), .val (.int dx), .val (.int (1 : Int32)), .val (.int lx), .val (.int (0 : Int32)), .unset, .unset]) rfl) ?_
          show Go p e below P (s₁.setTop (mkF m 84 #[.val (.int p0), .val (.int p1), .val (.int (1 : Int32)), .val (.int c), .val (.int dx), .val (.int (1 : Int32)), .val (.int lx), .val (.int (0 : Int32)), .unset, .unset] []))
          refine Go.by (fun _ => XS.iloadN X0.here hx rfl (hb hby at_84) rfl) ?_
          show Go p e below P (s₁.setTop (mkF m 85 #[.val (.int p0), .val (.int p1), .val (.int (1 : Int32)), .val (.int c), .val (.int dx), .val (.int (1 : Int32)), .val (.int lx), .val (.int (0 : Int32)), .unset, .unset] [(.int (1 : Int32))]))
          have hc85 : ¬ ((1 : Int32) = (0 : Int32)) := by decide
          refine Go.by (fun _ => XS.ifYes X0.here hx rfl (pc0 := 85) (pc' := 100) rfl (hb hby at_85) rfl ((if0 _ _).trans (feq hc85).2) (by decide) (by decide)) ?_
          show Go p e below P (s₁.setTop (mkF m 100 #[.val (.int p0), .val (.int p1), .val (.int (1 : Int32)), .val (.int c), .val (.int dx), .val (.int (1 : Int32)), .val (.int lx), .val (.int (0 : Int32)), .unset, .unset] []))
          refine Go.by (fun _ => XS.iloadN X0.here hx rfl (hb hby at_100) rfl) ?_
          show Go p e below P (s₁.setTop (mkF m 101 #[.val (.int p0), .val (.int p1), .val (.int (1 : Int32)), .val (.int c), .val (.int dx), .val (.int (1 : Int32)), .val (.int lx), .val (.int (0 : Int32)), .unset, .unset] [(.int (1 : Int32))]))
          refine Go.by (fun _ => XS.iconst X0.here hx rfl (hb hby at_101)) ?_
          show Go p e below P (s₁.setTop (mkF m 102 #[.val (.int p0), .val (.int p1), .val (.int (1 : Int32)), .val (.int c), .val (.int dx), .val (.int (1 : Int32)), .val (.int lx), .val (.int (0 : Int32)), .unset, .unset] [(.int (1 : Int32)), (.int (1 : Int32))]))
          have hc102 : (1 : Int32) = (1 : Int32) := by decide
          refine Go.by (fun _ => XS.icmpNo X0.here hx rfl (hb hby at_102) rfl (teq hc102).2) ?_
          show Go p e below P (s₁.setTop (mkF m 105 #[.val (.int p0), .val (.int p1), .val (.int (1 : Int32)), .val (.int c), .val (.int dx), .val (.int (1 : Int32)), .val (.int lx), .val (.int (0 : Int32)), .unset, .unset] []))
          obtain ⟨T7, X7, e7, st7⟩ := getS2 X0 hx hZ hown (host := "") (Or.inl (hw _ (List.mem_of_getElem? (i := 25) rfl))) Via.refl e0 (G6.ext O0.2) (g := (mkF m 105 #[.val (.int p0), .val (.int p1), .val (.int (1 : Int32)), .val (.int c), .val (.int dx), .val (.int (1 : Int32)), .val (.int lx), .val (.int (0 : Int32)), .unset, .unset] [])) rfl (hb hby at_105)
          refine Go.by (fun _ => st7 _) ?_
          show Go p e below P (T7.setTop (mkF m 108 #[.val (.int p0), .val (.int p1), .val (.int (1 : Int32)), .val (.int c), .val (.int dx), .val (.int (1 : Int32)), .val (.int lx), .val (.int (0 : Int32)), .unset, .unset] [(.ref wLETTERS)]))
          refine Go.by (fun _ => XS.astore X7.here hx rfl (hb hby at_108) rfl rfl (l' := #[.val (.int p0), .val (.int p1), .val (.int (1 : Int32)), .val (.int c), .val (.int dx), .val (.int (1 : Int32)), .val (.int lx), .val (.int (0 : Int32)), .val (.ref wLETTERS), .unset]) rfl) ?_
          show Go p e below P (T7.setTop (mkF m 110 #[.val (.int p0), .val (.int p1), .val (.int (1 : Int32)), .val (.int c), .val (.int dx), .val (.int (1 : Int32)), .val (.int lx), .val (.int (0 : Int32)), .val (.ref wLETTERS), .unset] []))
          refine Go.by (fun _ => XS.iload X7.here hx rfl (hb hby at_110) rfl) ?_
          show Go p e below P (T7.setTop (mkF m 112 #[.val (.int p0), .val (.int p1), .val (.int (1 : Int32)), .val (.int c), .val (.int dx), .val (.int (1 : Int32)), .val (.int lx), .val (.int (0 : Int32)), .val (.ref wLETTERS), .unset] [(.int (0 : Int32))]))
          refine Go.by (fun _ => XS.istore X7.here hx rfl (hb hby at_112) rfl (l' := #[.val (.int p0), .val (.int p1), .val (.int (1 : Int32)), .val (.int c), .val (.int dx), .val (.int (1 : Int32)), .val (.int lx), .val (.int (0 : Int32)), .val (.ref wLETTERS), .val (.int (0 : Int32))]) rfl) ?_
          show Go p e below P (T7.setTop (mkF m 114 #[.val (.int p0), .val (.int p1), .val (.int (1 : Int32)), .val (.int c), .val (.int dx), .val (.int (1 : Int32)), .val (.int lx), .val (.int (0 : Int32)), .val (.ref wLETTERS), .val (.int (0 : Int32))] []))
          refine Go.by (fun _ => XS.goto X7.here hx rfl (pc0 := 114) (pc' := 139) rfl (hb hby at_114) (by decide) (by decide)) ?_
          show Go p e below P (T7.setTop (mkF m 139 #[.val (.int p0), .val (.int p1), .val (.int (1 : Int32)), .val (.int c), .val (.int dx), .val (.int (1 : Int32)), .val (.int lx), .val (.int (0 : Int32)), .val (.ref wLETTERS), .val (.int (0 : Int32))] []))
          refine Go.by (fun _ => XS.aload X7.here hx rfl (hb hby at_139) rfl rfl) ?_
          show Go p e below P (T7.setTop (mkF m 141 #[.val (.int p0), .val (.int p1), .val (.int (1 : Int32)), .val (.int c), .val (.int dx), .val (.int (1 : Int32)), .val (.int lx), .val (.int (0 : Int32)), .val (.ref wLETTERS), .val (.int (0 : Int32))] [(.ref wLETTERS)]))
          refine Go.by (fun _ => XS.iloadN X7.here hx rfl (hb hby at_141) rfl) ?_
          show Go p e below P (T7.setTop (mkF m 142 #[.val (.int p0), .val (.int p1), .val (.int (1 : Int32)), .val (.int c), .val (.int dx), .val (.int (1 : Int32)), .val (.int lx), .val (.int (0 : Int32)), .val (.ref wLETTERS), .val (.int (0 : Int32))] [(.int c), (.ref wLETTERS)]))
          obtain ⟨cq8, kq8, qa8, qb8, qc8⟩ := isOf hZ e7 (G7.ext O0.2)
          obtain ⟨_, _, ⟨T8, L8, k8, n8⟩, -, X8, ⟨Lc8, hQ8, l8, y8, z8⟩, st8⟩ := X7.virtualBack hx (y := (⟨"com/example/kontoform/kontoform/CharacterClass", "admits", "(C)Z"⟩ : MethodName)) (z := (⟨"com/example/kontoform/kontoform/CharacterClass", "admits", "(C)Z"⟩ : MethodName)) hown (mvT hZ (hw _ (List.mem_of_getElem? (i := 5) rfl))) (mvT hZ (hw _ (List.mem_of_getElem? (i := 6) rfl))) (notFace_of_selects (args := #[]) (mvT hZ (hw _ (List.mem_of_getElem? (i := 8) rfl)))) (mvT hZ (hw _ (List.mem_of_getElem? (i := 8) rfl))) (mvT hZ (hw _ (List.mem_of_getElem? (i := 7) rfl))) (by decide) (backOf (W := 0) (rm_adm1 l Z a0 hw [] wDIGITS wALPHANUMERIC wLETTERS hG c ((0 : Int32)) h0 n0 Z0 O0  (own_out65 c (fun q => by omega))) hZ (hw _ (List.mem_of_getElem? (i := 9) rfl)) (hw _ (List.mem_of_getElem? (i := 3) rfl)) (Nat.le_of_ble_eq_true rfl) (Nat.le_of_ble_eq_true rfl)) qa8 qc8 (g := (mkF m 142 #[.val (.int p0), .val (.int p1), .val (.int (1 : Int32)), .val (.int c), .val (.int dx), .val (.int (1 : Int32)), .val (.int lx), .val (.int (0 : Int32)), .val (.ref wLETTERS), .val (.int (0 : Int32))] [(.int c), (.ref wLETTERS)])) rfl (by rw [hml]; rfl) (Steps.refl _) (argsL := [(.int c)]) (rest := []) (lenOf pd_1 rfl) rfl (by show 2 * 0 + _ ≤ _; exact Nat.le_of_eq rfl) (hb hby at_142) (fun _ _ => ⟨rfl, e7, (Nat.le_of_ble_eq_true rfl : 0 + 0 ≤ _), (Nat.le_of_ble_eq_true rfl : 0 + 0 ≤ _)⟩)
          dsimp only [Pt.U, Pt.locs, Pt.cells, Pt.slots] at X8 l8 y8 z8 st8 hQ8
          subst l8 y8 z8
          obtain ⟨rfl, Nq8, eq8⟩ := hQ8
          have N8 := Fr.app N0 Nq8
          refine Go.by (fun _ k => st8.trans k) ?_
          show Go p e below P (T8.setTop (mkF m 145 #[.val (.int p0), .val (.int p1), .val (.int (1 : Int32)), .val (.int c), .val (.int dx), .val (.int (1 : Int32)), .val (.int lx), .val (.int (0 : Int32)), .val (.ref wLETTERS), .val (.int (0 : Int32))] [(.int (0 : Int32))]))
          refine Go.by (fun _ => XS.iload X8.here hx rfl (hb hby at_145) rfl) ?_
          show Go p e below P (T8.setTop (mkF m 147 #[.val (.int p0), .val (.int p1), .val (.int (1 : Int32)), .val (.int c), .val (.int dx), .val (.int (1 : Int32)), .val (.int lx), .val (.int (0 : Int32)), .val (.ref wLETTERS), .val (.int (0 : Int32))] [(.int (0 : Int32)), (.int (0 : Int32))]))
          have hc147 : (0 : Int32) = (0 : Int32) := by decide
          refine Go.by (fun _ => XS.icmpNo X8.here hx rfl (hb hby at_147) rfl (teq hc147).2) ?_
          show Go p e below P (T8.setTop (mkF m 150 #[.val (.int p0), .val (.int p1), .val (.int (1 : Int32)), .val (.int c), .val (.int dx), .val (.int (1 : Int32)), .val (.int lx), .val (.int (0 : Int32)), .val (.ref wLETTERS), .val (.int (0 : Int32))] []))
          refine Go.by (fun _ => XS.iconst X8.here hx rfl (hb hby at_150)) ?_
          show Go p e below P (T8.setTop (mkF m 151 #[.val (.int p0), .val (.int p1), .val (.int (1 : Int32)), .val (.int c), .val (.int dx), .val (.int (1 : Int32)), .val (.int lx), .val (.int (0 : Int32)), .val (.ref wLETTERS), .val (.int (0 : Int32))] [(.int (1 : Int32))]))
          refine Go.by (fun _ => XS.goto X8.here hx rfl (pc0 := 151) (pc' := 155) rfl (hb hby at_151) (by decide) (by decide)) ?_
          show Go p e below P (T8.setTop (mkF m 155 #[.val (.int p0), .val (.int p1), .val (.int (1 : Int32)), .val (.int c), .val (.int dx), .val (.int (1 : Int32)), .val (.int lx), .val (.int (0 : Int32)), .val (.ref wLETTERS), .val (.int (0 : Int32))] [(.int (1 : Int32))]))
          subst hP
          refine Go.retZ X8 hx (t := .boolean) Bd.returns (by simp) hlk (hb hby at_155) (Nat.le_of_ble_eq_true rfl) (Nat.le_of_ble_eq_true rfl) ?_
          rw [eq8]
          exact ⟨rfl, N8⟩
      · show Go p e below P (s₁.setTop (mkF m 34 #[.val (.int p0), .val (.int p1), .val (.int (2 : Int32)), .val (.int c), .unset, .unset, .unset, .unset, .unset, .unset] []))
        refine Go.by (fun _ => XS.iloadN X0.here hx rfl (hb hby at_34) rfl) ?_
        show Go p e below P (s₁.setTop (mkF m 35 #[.val (.int p0), .val (.int p1), .val (.int (2 : Int32)), .val (.int c), .unset, .unset, .unset, .unset, .unset, .unset] [(.int c)]))
        refine Go.by (fun _ => XS.bipush X0.here hx rfl (hb hby at_35)) ?_
        show Go p e below P (s₁.setTop (mkF m 37 #[.val (.int p0), .val (.int p1), .val (.int (2 : Int32)), .val (.int c), .unset, .unset, .unset, .unset, .unset, .unset] [(.int (48 : Int32)), (.int c)]))
        refine Go.by (fun _ => XS.isub X0.here hx rfl (hb hby at_37) rfl) ?_
        show Go p e below P (s₁.setTop (mkF m 38 #[.val (.int p0), .val (.int p1), .val (.int (2 : Int32)), .val (.int c), .unset, .unset, .unset, .unset, .unset, .unset] [(.int (c - (48 : Int32)))]))
        generalize hv_dx : (c - (48 : Int32)) = dx
        refine Go.by (fun _ => XS.istore X0.here hx rfl (hb hby at_38) rfl (l' := #[.val (.int p0), .val (.int p1), .val (.int (2 : Int32)), .val (.int c), .val (.int dx), .unset, .unset, .unset, .unset, .unset]) rfl) ?_
        show Go p e below P (s₁.setTop (mkF m 40 #[.val (.int p0), .val (.int p1), .val (.int (2 : Int32)), .val (.int c), .val (.int dx), .unset, .unset, .unset, .unset, .unset] []))
        refine Go.by (fun _ => XS.iload X0.here hx rfl (hb hby at_40) rfl) ?_
        show Go p e below P (s₁.setTop (mkF m 42 #[.val (.int p0), .val (.int p1), .val (.int (2 : Int32)), .val (.int c), .val (.int dx), .unset, .unset, .unset, .unset, .unset] [(.int dx)]))
        have hc42 : ¬ (dx < (0 : Int32)) := (fun q => by have q0 := own_sub c 48 hj (by decide); have q1 := congrArg Int32.toInt hv_dx; have k48 : (48 : Int32).toInt = 48 := rfl; have l_0 : (0 : Int32).toInt = 0 := rfl; rw [Int32.lt_iff_toInt_lt] at q; omega)
        refine Go.by (fun _ => XS.ifNo X0.here hx rfl (hb hby at_42) rfl ((if0 _ _).trans (flt hc42).1)) ?_
        show Go p e below P (s₁.setTop (mkF m 45 #[.val (.int p0), .val (.int p1), .val (.int (2 : Int32)), .val (.int c), .val (.int dx), .unset, .unset, .unset, .unset, .unset] []))
        refine Go.by (fun _ => XS.iload X0.here hx rfl (hb hby at_45) rfl) ?_
        show Go p e below P (s₁.setTop (mkF m 47 #[.val (.int p0), .val (.int p1), .val (.int (2 : Int32)), .val (.int c), .val (.int dx), .unset, .unset, .unset, .unset, .unset] [(.int dx)]))
        refine Go.by (fun _ => XS.bipush X0.here hx rfl (hb hby at_47)) ?_
        show Go p e below P (s₁.setTop (mkF m 49 #[.val (.int p0), .val (.int p1), .val (.int (2 : Int32)), .val (.int c), .val (.int dx), .unset, .unset, .unset, .unset, .unset] [(.int (10 : Int32)), (.int dx)]))
        have hc49 : dx < (10 : Int32) := (by have q0 := own_sub c 48 hj (by decide); have q1 := congrArg Int32.toInt hv_dx; have k48 : (48 : Int32).toInt = 48 := rfl; have l_10 : (10 : Int32).toInt = 10 := rfl; rw [Int32.lt_iff_toInt_lt]; omega)
        refine Go.by (fun _ => XS.icmpNo X0.here hx rfl (hb hby at_49) rfl (tlt hc49).2.1) ?_
        show Go p e below P (s₁.setTop (mkF m 52 #[.val (.int p0), .val (.int p1), .val (.int (2 : Int32)), .val (.int c), .val (.int dx), .unset, .unset, .unset, .unset, .unset] []))
        refine Go.by (fun _ => XS.iconst X0.here hx rfl (hb hby at_52)) ?_
        show Go p e below P (s₁.setTop (mkF m 53 #[.val (.int p0), .val (.int p1), .val (.int (2 : Int32)), .val (.int c), .val (.int dx), .unset, .unset, .unset, .unset, .unset] [(.int (1 : Int32))]))
        refine Go.by (fun _ => XS.goto X0.here hx rfl (pc0 := 53) (pc' := 57) rfl (hb hby at_53) (by decide) (by decide)) ?_
        show Go p e below P (s₁.setTop (mkF m 57 #[.val (.int p0), .val (.int p1), .val (.int (2 : Int32)), .val (.int c), .val (.int dx), .unset, .unset, .unset, .unset, .unset] [(.int (1 : Int32))]))
        refine Go.by (fun _ => XS.istore X0.here hx rfl (hb hby at_57) rfl (l' := #[.val (.int p0), .val (.int p1), .val (.int (2 : Int32)), .val (.int c), .val (.int dx), .val (.int (1 : Int32)), .unset, .unset, .unset, .unset]) rfl) ?_
        show Go p e below P (s₁.setTop (mkF m 59 #[.val (.int p0), .val (.int p1), .val (.int (2 : Int32)), .val (.int c), .val (.int dx), .val (.int (1 : Int32)), .unset, .unset, .unset, .unset] []))
        refine Go.by (fun _ => XS.iloadN X0.here hx rfl (hb hby at_59) rfl) ?_
        show Go p e below P (s₁.setTop (mkF m 60 #[.val (.int p0), .val (.int p1), .val (.int (2 : Int32)), .val (.int c), .val (.int dx), .val (.int (1 : Int32)), .unset, .unset, .unset, .unset] [(.int c)]))
        refine Go.by (fun _ => XS.bipush X0.here hx rfl (hb hby at_60)) ?_
        show Go p e below P (s₁.setTop (mkF m 62 #[.val (.int p0), .val (.int p1), .val (.int (2 : Int32)), .val (.int c), .val (.int dx), .val (.int (1 : Int32)), .unset, .unset, .unset, .unset] [(.int (65 : Int32)), (.int c)]))
        refine Go.by (fun _ => XS.isub X0.here hx rfl (hb hby at_62) rfl) ?_
        show Go p e below P (s₁.setTop (mkF m 63 #[.val (.int p0), .val (.int p1), .val (.int (2 : Int32)), .val (.int c), .val (.int dx), .val (.int (1 : Int32)), .unset, .unset, .unset, .unset] [(.int (c - (65 : Int32)))]))
        generalize hv_lx : (c - (65 : Int32)) = lx
        refine Go.by (fun _ => XS.istore X0.here hx rfl (hb hby at_63) rfl (l' := #[.val (.int p0), .val (.int p1), .val (.int (2 : Int32)), .val (.int c), .val (.int dx), .val (.int (1 : Int32)), .val (.int lx), .unset, .unset, .unset]) rfl) ?_
        show Go p e below P (s₁.setTop (mkF m 65 #[.val (.int p0), .val (.int p1), .val (.int (2 : Int32)), .val (.int c), .val (.int dx), .val (.int (1 : Int32)), .val (.int lx), .unset, .unset, .unset] []))
        refine Go.by (fun _ => XS.iload X0.here hx rfl (hb hby at_65) rfl) ?_
        show Go p e below P (s₁.setTop (mkF m 67 #[.val (.int p0), .val (.int p1), .val (.int (2 : Int32)), .val (.int c), .val (.int dx), .val (.int (1 : Int32)), .val (.int lx), .unset, .unset, .unset] [(.int lx)]))
        by_cases hc67 : lx < (0 : Int32)
        · refine Go.by (fun _ => XS.ifYes X0.here hx rfl (pc0 := 67) (pc' := 81) rfl (hb hby at_67) rfl ((if0 _ _).trans (tlt hc67).1) (by decide) (by decide)) ?_
          show Go p e below P (s₁.setTop (mkF m 81 #[.val (.int p0), .val (.int p1), .val (.int (2 : Int32)), .val (.int c), .val (.int dx), .val (.int (1 : Int32)), .val (.int lx), .unset, .unset, .unset] []))
          refine Go.by (fun _ => XS.iconst X0.here hx rfl (hb hby at_81)) ?_
          show Go p e below P (s₁.setTop (mkF m 82 #[.val (.int p0), .val (.int p1), .val (.int (2 : Int32)), .val (.int c), .val (.int dx), .val (.int (1 : Int32)), .val (.int lx), .unset, .unset, .unset] [(.int (0 : Int32))]))
          refine Go.by (fun _ => XS.istore X0.here hx rfl (hb hby at_82) rfl (l' := #[.val (.int p0), .val (.int p1), .val (.int (2 : Int32)), .val (.int c), .val (.int dx), .val (.int (1 : Int32)), .val (.int lx), .val (.int (0 : Int32)), .unset, .unset]) rfl) ?_
          show Go p e below P (s₁.setTop (mkF m 84 #[.val (.int p0), .val (.int p1), .val (.int (2 : Int32)), .val (.int c), .val (.int dx), .val (.int (1 : Int32)), .val (.int lx), .val (.int (0 : Int32)), .unset, .unset] []))
          refine Go.by (fun _ => XS.iloadN X0.here hx rfl (hb hby at_84) rfl) ?_
          show Go p e below P (s₁.setTop (mkF m 85 #[.val (.int p0), .val (.int p1), .val (.int (2 : Int32)), .val (.int c), .val (.int dx), .val (.int (1 : Int32)), .val (.int lx), .val (.int (0 : Int32)), .unset, .unset] [(.int (2 : Int32))]))
          have hc85 : ¬ ((2 : Int32) = (0 : Int32)) := by decide
          refine Go.by (fun _ => XS.ifYes X0.here hx rfl (pc0 := 85) (pc' := 100) rfl (hb hby at_85) rfl ((if0 _ _).trans (feq hc85).2) (by decide) (by decide)) ?_
          show Go p e below P (s₁.setTop (mkF m 100 #[.val (.int p0), .val (.int p1), .val (.int (2 : Int32)), .val (.int c), .val (.int dx), .val (.int (1 : Int32)), .val (.int lx), .val (.int (0 : Int32)), .unset, .unset] []))
          refine Go.by (fun _ => XS.iloadN X0.here hx rfl (hb hby at_100) rfl) ?_
          show Go p e below P (s₁.setTop (mkF m 101 #[.val (.int p0), .val (.int p1), .val (.int (2 : Int32)), .val (.int c), .val (.int dx), .val (.int (1 : Int32)), .val (.int lx), .val (.int (0 : Int32)), .unset, .unset] [(.int (2 : Int32))]))
          refine Go.by (fun _ => XS.iconst X0.here hx rfl (hb hby at_101)) ?_
          show Go p e below P (s₁.setTop (mkF m 102 #[.val (.int p0), .val (.int p1), .val (.int (2 : Int32)), .val (.int c), .val (.int dx), .val (.int (1 : Int32)), .val (.int lx), .val (.int (0 : Int32)), .unset, .unset] [(.int (1 : Int32)), (.int (2 : Int32))]))
          have hc102 : ¬ ((2 : Int32) = (1 : Int32)) := by decide
          refine Go.by (fun _ => XS.icmpYes X0.here hx rfl (pc0 := 102) (pc' := 117) rfl (hb hby at_102) rfl (feq hc102).2 (by decide) (by decide)) ?_
          show Go p e below P (s₁.setTop (mkF m 117 #[.val (.int p0), .val (.int p1), .val (.int (2 : Int32)), .val (.int c), .val (.int dx), .val (.int (1 : Int32)), .val (.int lx), .val (.int (0 : Int32)), .unset, .unset] []))
          obtain ⟨T9, X9, e9, st9⟩ := getS2 X0 hx hZ hown (host := "") (Or.inl (hw _ (List.mem_of_getElem? (i := 19) rfl))) Via.refl e0 (G3.ext O0.2) (g := (mkF m 117 #[.val (.int p0), .val (.int p1), .val (.int (2 : Int32)), .val (.int c), .val (.int dx), .val (.int (1 : Int32)), .val (.int lx), .val (.int (0 : Int32)), .unset, .unset] [])) rfl (hb hby at_117)
          refine Go.by (fun _ => st9 _) ?_
          show Go p e below P (T9.setTop (mkF m 120 #[.val (.int p0), .val (.int p1), .val (.int (2 : Int32)), .val (.int c), .val (.int dx), .val (.int (1 : Int32)), .val (.int lx), .val (.int (0 : Int32)), .unset, .unset] [(.ref wALPHANUMERIC)]))
          refine Go.by (fun _ => XS.astore X9.here hx rfl (hb hby at_120) rfl rfl (l' := #[.val (.int p0), .val (.int p1), .val (.int (2 : Int32)), .val (.int c), .val (.int dx), .val (.int (1 : Int32)), .val (.int lx), .val (.int (0 : Int32)), .val (.ref wALPHANUMERIC), .unset]) rfl) ?_
          show Go p e below P (T9.setTop (mkF m 122 #[.val (.int p0), .val (.int p1), .val (.int (2 : Int32)), .val (.int c), .val (.int dx), .val (.int (1 : Int32)), .val (.int lx), .val (.int (0 : Int32)), .val (.ref wALPHANUMERIC), .unset] []))
          refine Go.by (fun _ => XS.iload X9.here hx rfl (hb hby at_122) rfl) ?_
          show Go p e below P (T9.setTop (mkF m 124 #[.val (.int p0), .val (.int p1), .val (.int (2 : Int32)), .val (.int c), .val (.int dx), .val (.int (1 : Int32)), .val (.int lx), .val (.int (0 : Int32)), .val (.ref wALPHANUMERIC), .unset] [(.int (1 : Int32))]))
          have hc124 : ¬ ((1 : Int32) = (0 : Int32)) := by decide
          refine Go.by (fun _ => XS.ifYes X9.here hx rfl (pc0 := 124) (pc' := 132) rfl (hb hby at_124) rfl ((if0 _ _).trans (feq hc124).2) (by decide) (by decide)) ?_
          show Go p e below P (T9.setTop (mkF m 132 #[.val (.int p0), .val (.int p1), .val (.int (2 : Int32)), .val (.int c), .val (.int dx), .val (.int (1 : Int32)), .val (.int lx), .val (.int (0 : Int32)), .val (.ref wALPHANUMERIC), .unset] []))
          refine Go.by (fun _ => XS.iconst X9.here hx rfl (hb hby at_132)) ?_
          show Go p e below P (T9.setTop (mkF m 133 #[.val (.int p0), .val (.int p1), .val (.int (2 : Int32)), .val (.int c), .val (.int dx), .val (.int (1 : Int32)), .val (.int lx), .val (.int (0 : Int32)), .val (.ref wALPHANUMERIC), .unset] [(.int (1 : Int32))]))
          refine Go.by (fun _ => XS.goto X9.here hx rfl (pc0 := 133) (pc' := 137) rfl (hb hby at_133) (by decide) (by decide)) ?_
          show Go p e below P (T9.setTop (mkF m 137 #[.val (.int p0), .val (.int p1), .val (.int (2 : Int32)), .val (.int c), .val (.int dx), .val (.int (1 : Int32)), .val (.int lx), .val (.int (0 : Int32)), .val (.ref wALPHANUMERIC), .unset] [(.int (1 : Int32))]))
          refine Go.by (fun _ => XS.istore X9.here hx rfl (hb hby at_137) rfl (l' := #[.val (.int p0), .val (.int p1), .val (.int (2 : Int32)), .val (.int c), .val (.int dx), .val (.int (1 : Int32)), .val (.int lx), .val (.int (0 : Int32)), .val (.ref wALPHANUMERIC), .val (.int (1 : Int32))]) rfl) ?_
          show Go p e below P (T9.setTop (mkF m 139 #[.val (.int p0), .val (.int p1), .val (.int (2 : Int32)), .val (.int c), .val (.int dx), .val (.int (1 : Int32)), .val (.int lx), .val (.int (0 : Int32)), .val (.ref wALPHANUMERIC), .val (.int (1 : Int32))] []))
          refine Go.by (fun _ => XS.aload X9.here hx rfl (hb hby at_139) rfl rfl) ?_
          show Go p e below P (T9.setTop (mkF m 141 #[.val (.int p0), .val (.int p1), .val (.int (2 : Int32)), .val (.int c), .val (.int dx), .val (.int (1 : Int32)), .val (.int lx), .val (.int (0 : Int32)), .val (.ref wALPHANUMERIC), .val (.int (1 : Int32))] [(.ref wALPHANUMERIC)]))
          refine Go.by (fun _ => XS.iloadN X9.here hx rfl (hb hby at_141) rfl) ?_
          show Go p e below P (T9.setTop (mkF m 142 #[.val (.int p0), .val (.int p1), .val (.int (2 : Int32)), .val (.int c), .val (.int dx), .val (.int (1 : Int32)), .val (.int lx), .val (.int (0 : Int32)), .val (.ref wALPHANUMERIC), .val (.int (1 : Int32))] [(.int c), (.ref wALPHANUMERIC)]))
          obtain ⟨cq10, kq10, qa10, qb10, qc10⟩ := isOf hZ e9 (G4.ext O0.2)
          obtain ⟨_, _, ⟨T10, L10, k10, n10⟩, -, X10, ⟨Lc10, hQ10, l10, y10, z10⟩, st10⟩ := X9.virtualBack hx (y := (⟨"com/example/kontoform/kontoform/CharacterClass", "admits", "(C)Z"⟩ : MethodName)) (z := (⟨"com/example/kontoform/kontoform/CharacterClass", "admits", "(C)Z"⟩ : MethodName)) hown (mvT hZ (hw _ (List.mem_of_getElem? (i := 5) rfl))) (mvT hZ (hw _ (List.mem_of_getElem? (i := 6) rfl))) (notFace_of_selects (args := #[]) (mvT hZ (hw _ (List.mem_of_getElem? (i := 8) rfl)))) (mvT hZ (hw _ (List.mem_of_getElem? (i := 8) rfl))) (mvT hZ (hw _ (List.mem_of_getElem? (i := 7) rfl))) (by decide) (backOf (W := 0) (rm_adm2 l Z a0 hw [] wDIGITS wALPHANUMERIC wLETTERS hG c ((1 : Int32)) h0 n0 Z0 O0  (own_alpha c (Or.inl hd))) hZ (hw _ (List.mem_of_getElem? (i := 9) rfl)) (hw _ (List.mem_of_getElem? (i := 3) rfl)) (Nat.le_of_ble_eq_true rfl) (Nat.le_of_ble_eq_true rfl)) qa10 qc10 (g := (mkF m 142 #[.val (.int p0), .val (.int p1), .val (.int (2 : Int32)), .val (.int c), .val (.int dx), .val (.int (1 : Int32)), .val (.int lx), .val (.int (0 : Int32)), .val (.ref wALPHANUMERIC), .val (.int (1 : Int32))] [(.int c), (.ref wALPHANUMERIC)])) rfl (by rw [hml]; rfl) (Steps.refl _) (argsL := [(.int c)]) (rest := []) (lenOf pd_1 rfl) rfl (by show 2 * 0 + _ ≤ _; exact Nat.le_of_eq rfl) (hb hby at_142) (fun _ _ => ⟨rfl, e9, (Nat.le_of_ble_eq_true rfl : 0 + 0 ≤ _), (Nat.le_of_ble_eq_true rfl : 0 + 0 ≤ _)⟩)
          dsimp only [Pt.U, Pt.locs, Pt.cells, Pt.slots] at X10 l10 y10 z10 st10 hQ10
          subst l10 y10 z10
          obtain ⟨rfl, Nq10, eq10⟩ := hQ10
          have N10 := Fr.app N0 Nq10
          refine Go.by (fun _ k => st10.trans k) ?_
          show Go p e below P (T10.setTop (mkF m 145 #[.val (.int p0), .val (.int p1), .val (.int (2 : Int32)), .val (.int c), .val (.int dx), .val (.int (1 : Int32)), .val (.int lx), .val (.int (0 : Int32)), .val (.ref wALPHANUMERIC), .val (.int (1 : Int32))] [(.int (1 : Int32))]))
          refine Go.by (fun _ => XS.iload X10.here hx rfl (hb hby at_145) rfl) ?_
          show Go p e below P (T10.setTop (mkF m 147 #[.val (.int p0), .val (.int p1), .val (.int (2 : Int32)), .val (.int c), .val (.int dx), .val (.int (1 : Int32)), .val (.int lx), .val (.int (0 : Int32)), .val (.ref wALPHANUMERIC), .val (.int (1 : Int32))] [(.int (1 : Int32)), (.int (1 : Int32))]))
          have hc147 : (1 : Int32) = (1 : Int32) := by decide
          refine Go.by (fun _ => XS.icmpNo X10.here hx rfl (hb hby at_147) rfl (teq hc147).2) ?_
          show Go p e below P (T10.setTop (mkF m 150 #[.val (.int p0), .val (.int p1), .val (.int (2 : Int32)), .val (.int c), .val (.int dx), .val (.int (1 : Int32)), .val (.int lx), .val (.int (0 : Int32)), .val (.ref wALPHANUMERIC), .val (.int (1 : Int32))] []))
          refine Go.by (fun _ => XS.iconst X10.here hx rfl (hb hby at_150)) ?_
          show Go p e below P (T10.setTop (mkF m 151 #[.val (.int p0), .val (.int p1), .val (.int (2 : Int32)), .val (.int c), .val (.int dx), .val (.int (1 : Int32)), .val (.int lx), .val (.int (0 : Int32)), .val (.ref wALPHANUMERIC), .val (.int (1 : Int32))] [(.int (1 : Int32))]))
          refine Go.by (fun _ => XS.goto X10.here hx rfl (pc0 := 151) (pc' := 155) rfl (hb hby at_151) (by decide) (by decide)) ?_
          show Go p e below P (T10.setTop (mkF m 155 #[.val (.int p0), .val (.int p1), .val (.int (2 : Int32)), .val (.int c), .val (.int dx), .val (.int (1 : Int32)), .val (.int lx), .val (.int (0 : Int32)), .val (.ref wALPHANUMERIC), .val (.int (1 : Int32))] [(.int (1 : Int32))]))
          subst hP
          refine Go.retZ X10 hx (t := .boolean) Bd.returns (by simp) hlk (hb hby at_155) (Nat.le_of_ble_eq_true rfl) (Nat.le_of_ble_eq_true rfl) ?_
          rw [eq10]
          exact ⟨rfl, N10⟩
        · refine Go.by (fun _ => XS.ifNo X0.here hx rfl (hb hby at_67) rfl ((if0 _ _).trans (flt hc67).1)) ?_
          show Go p e below P (s₁.setTop (mkF m 70 #[.val (.int p0), .val (.int p1), .val (.int (2 : Int32)), .val (.int c), .val (.int dx), .val (.int (1 : Int32)), .val (.int lx), .unset, .unset, .unset] []))
          refine Go.by (fun _ => XS.iload X0.here hx rfl (hb hby at_70) rfl) ?_
          show Go p e below P (s₁.setTop (mkF m 72 #[.val (.int p0), .val (.int p1), .val (.int (2 : Int32)), .val (.int c), .val (.int dx), .val (.int (1 : Int32)), .val (.int lx), .unset, .unset, .unset] [(.int lx)]))
          refine Go.by (fun _ => XS.bipush X0.here hx rfl (hb hby at_72)) ?_
          show Go p e below P (s₁.setTop (mkF m 74 #[.val (.int p0), .val (.int p1), .val (.int (2 : Int32)), .val (.int c), .val (.int dx), .val (.int (1 : Int32)), .val (.int lx), .unset, .unset, .unset] [(.int (26 : Int32)), (.int lx)]))
          have hc74 : ¬ (lx < (26 : Int32)) := (fun q => by have q0 := own_sub c 65 hj (by decide); have q1 := congrArg Int32.toInt hv_lx; have k65 : (65 : Int32).toInt = 65 := rfl; have q3 := hc67; rw [Int32.lt_iff_toInt_lt] at q3; have k0 : (0 : Int32).toInt = 0 := rfl; have l_26 : (26 : Int32).toInt = 26 := rfl; rw [Int32.lt_iff_toInt_lt] at q; omega)
          refine Go.by (fun _ => XS.icmpYes X0.here hx rfl (pc0 := 74) (pc' := 81) rfl (hb hby at_74) rfl (flt hc74).2.1 (by decide) (by decide)) ?_
          show Go p e below P (s₁.setTop (mkF m 81 #[.val (.int p0), .val (.int p1), .val (.int (2 : Int32)), .val (.int c), .val (.int dx), .val (.int (1 : Int32)), .val (.int lx), .unset, .unset, .unset] []))
          refine Go.by (fun _ => XS.iconst X0.here hx rfl (hb hby at_81)) ?_
          show Go p e below P (s₁.setTop (mkF m 82 #[.val (.int p0), .val (.int p1), .val (.int (2 : Int32)), .val (.int c), .val (.int dx), .val (.int (1 : Int32)), .val (.int lx), .unset, .unset, .unset] [(.int (0 : Int32))]))
          refine Go.by (fun _ => XS.istore X0.here hx rfl (hb hby at_82) rfl (l' := #[.val (.int p0), .val (.int p1), .val (.int (2 : Int32)), .val (.int c), .val (.int dx), .val (.int (1 : Int32)), .val (.int lx), .val (.int (0 : Int32)), .unset, .unset]) rfl) ?_
          show Go p e below P (s₁.setTop (mkF m 84 #[.val (.int p0), .val (.int p1), .val (.int (2 : Int32)), .val (.int c), .val (.int dx), .val (.int (1 : Int32)), .val (.int lx), .val (.int (0 : Int32)), .unset, .unset] []))
          refine Go.by (fun _ => XS.iloadN X0.here hx rfl (hb hby at_84) rfl) ?_
          show Go p e below P (s₁.setTop (mkF m 85 #[.val (.int p0), .val (.int p1), .val (.int (2 : Int32)), .val (.int c), .val (.int dx), .val (.int (1 : Int32)), .val (.int lx), .val (.int (0 : Int32)), .unset, .unset] [(.int (2 : Int32))]))
          have hc85 : ¬ ((2 : Int32) = (0 : Int32)) := by decide
          refine Go.by (fun _ => XS.ifYes X0.here hx rfl (pc0 := 85) (pc' := 100) rfl (hb hby at_85) rfl ((if0 _ _).trans (feq hc85).2) (by decide) (by decide)) ?_
          show Go p e below P (s₁.setTop (mkF m 100 #[.val (.int p0), .val (.int p1), .val (.int (2 : Int32)), .val (.int c), .val (.int dx), .val (.int (1 : Int32)), .val (.int lx), .val (.int (0 : Int32)), .unset, .unset] []))
          refine Go.by (fun _ => XS.iloadN X0.here hx rfl (hb hby at_100) rfl) ?_
          show Go p e below P (s₁.setTop (mkF m 101 #[.val (.int p0), .val (.int p1), .val (.int (2 : Int32)), .val (.int c), .val (.int dx), .val (.int (1 : Int32)), .val (.int lx), .val (.int (0 : Int32)), .unset, .unset] [(.int (2 : Int32))]))
          refine Go.by (fun _ => XS.iconst X0.here hx rfl (hb hby at_101)) ?_
          show Go p e below P (s₁.setTop (mkF m 102 #[.val (.int p0), .val (.int p1), .val (.int (2 : Int32)), .val (.int c), .val (.int dx), .val (.int (1 : Int32)), .val (.int lx), .val (.int (0 : Int32)), .unset, .unset] [(.int (1 : Int32)), (.int (2 : Int32))]))
          have hc102 : ¬ ((2 : Int32) = (1 : Int32)) := by decide
          refine Go.by (fun _ => XS.icmpYes X0.here hx rfl (pc0 := 102) (pc' := 117) rfl (hb hby at_102) rfl (feq hc102).2 (by decide) (by decide)) ?_
          show Go p e below P (s₁.setTop (mkF m 117 #[.val (.int p0), .val (.int p1), .val (.int (2 : Int32)), .val (.int c), .val (.int dx), .val (.int (1 : Int32)), .val (.int lx), .val (.int (0 : Int32)), .unset, .unset] []))
          obtain ⟨T11, X11, e11, st11⟩ := getS2 X0 hx hZ hown (host := "") (Or.inl (hw _ (List.mem_of_getElem? (i := 19) rfl))) Via.refl e0 (G3.ext O0.2) (g := (mkF m 117 #[.val (.int p0), .val (.int p1), .val (.int (2 : Int32)), .val (.int c), .val (.int dx), .val (.int (1 : Int32)), .val (.int lx), .val (.int (0 : Int32)), .unset, .unset] [])) rfl (hb hby at_117)
          refine Go.by (fun _ => st11 _) ?_
          show Go p e below P (T11.setTop (mkF m 120 #[.val (.int p0), .val (.int p1), .val (.int (2 : Int32)), .val (.int c), .val (.int dx), .val (.int (1 : Int32)), .val (.int lx), .val (.int (0 : Int32)), .unset, .unset] [(.ref wALPHANUMERIC)]))
          refine Go.by (fun _ => XS.astore X11.here hx rfl (hb hby at_120) rfl rfl (l' := #[.val (.int p0), .val (.int p1), .val (.int (2 : Int32)), .val (.int c), .val (.int dx), .val (.int (1 : Int32)), .val (.int lx), .val (.int (0 : Int32)), .val (.ref wALPHANUMERIC), .unset]) rfl) ?_
          show Go p e below P (T11.setTop (mkF m 122 #[.val (.int p0), .val (.int p1), .val (.int (2 : Int32)), .val (.int c), .val (.int dx), .val (.int (1 : Int32)), .val (.int lx), .val (.int (0 : Int32)), .val (.ref wALPHANUMERIC), .unset] []))
          refine Go.by (fun _ => XS.iload X11.here hx rfl (hb hby at_122) rfl) ?_
          show Go p e below P (T11.setTop (mkF m 124 #[.val (.int p0), .val (.int p1), .val (.int (2 : Int32)), .val (.int c), .val (.int dx), .val (.int (1 : Int32)), .val (.int lx), .val (.int (0 : Int32)), .val (.ref wALPHANUMERIC), .unset] [(.int (1 : Int32))]))
          have hc124 : ¬ ((1 : Int32) = (0 : Int32)) := by decide
          refine Go.by (fun _ => XS.ifYes X11.here hx rfl (pc0 := 124) (pc' := 132) rfl (hb hby at_124) rfl ((if0 _ _).trans (feq hc124).2) (by decide) (by decide)) ?_
          show Go p e below P (T11.setTop (mkF m 132 #[.val (.int p0), .val (.int p1), .val (.int (2 : Int32)), .val (.int c), .val (.int dx), .val (.int (1 : Int32)), .val (.int lx), .val (.int (0 : Int32)), .val (.ref wALPHANUMERIC), .unset] []))
          refine Go.by (fun _ => XS.iconst X11.here hx rfl (hb hby at_132)) ?_
          show Go p e below P (T11.setTop (mkF m 133 #[.val (.int p0), .val (.int p1), .val (.int (2 : Int32)), .val (.int c), .val (.int dx), .val (.int (1 : Int32)), .val (.int lx), .val (.int (0 : Int32)), .val (.ref wALPHANUMERIC), .unset] [(.int (1 : Int32))]))
          refine Go.by (fun _ => XS.goto X11.here hx rfl (pc0 := 133) (pc' := 137) rfl (hb hby at_133) (by decide) (by decide)) ?_
          show Go p e below P (T11.setTop (mkF m 137 #[.val (.int p0), .val (.int p1), .val (.int (2 : Int32)), .val (.int c), .val (.int dx), .val (.int (1 : Int32)), .val (.int lx), .val (.int (0 : Int32)), .val (.ref wALPHANUMERIC), .unset] [(.int (1 : Int32))]))
          refine Go.by (fun _ => XS.istore X11.here hx rfl (hb hby at_137) rfl (l' := #[.val (.int p0), .val (.int p1), .val (.int (2 : Int32)), .val (.int c), .val (.int dx), .val (.int (1 : Int32)), .val (.int lx), .val (.int (0 : Int32)), .val (.ref wALPHANUMERIC), .val (.int (1 : Int32))]) rfl) ?_
          show Go p e below P (T11.setTop (mkF m 139 #[.val (.int p0), .val (.int p1), .val (.int (2 : Int32)), .val (.int c), .val (.int dx), .val (.int (1 : Int32)), .val (.int lx), .val (.int (0 : Int32)), .val (.ref wALPHANUMERIC), .val (.int (1 : Int32))] []))
          refine Go.by (fun _ => XS.aload X11.here hx rfl (hb hby at_139) rfl rfl) ?_
          show Go p e below P (T11.setTop (mkF m 141 #[.val (.int p0), .val (.int p1), .val (.int (2 : Int32)), .val (.int c), .val (.int dx), .val (.int (1 : Int32)), .val (.int lx), .val (.int (0 : Int32)), .val (.ref wALPHANUMERIC), .val (.int (1 : Int32))] [(.ref wALPHANUMERIC)]))
          refine Go.by (fun _ => XS.iloadN X11.here hx rfl (hb hby at_141) rfl) ?_
          show Go p e below P (T11.setTop (mkF m 142 #[.val (.int p0), .val (.int p1), .val (.int (2 : Int32)), .val (.int c), .val (.int dx), .val (.int (1 : Int32)), .val (.int lx), .val (.int (0 : Int32)), .val (.ref wALPHANUMERIC), .val (.int (1 : Int32))] [(.int c), (.ref wALPHANUMERIC)]))
          obtain ⟨cq12, kq12, qa12, qb12, qc12⟩ := isOf hZ e11 (G4.ext O0.2)
          obtain ⟨_, _, ⟨T12, L12, k12, n12⟩, -, X12, ⟨Lc12, hQ12, l12, y12, z12⟩, st12⟩ := X11.virtualBack hx (y := (⟨"com/example/kontoform/kontoform/CharacterClass", "admits", "(C)Z"⟩ : MethodName)) (z := (⟨"com/example/kontoform/kontoform/CharacterClass", "admits", "(C)Z"⟩ : MethodName)) hown (mvT hZ (hw _ (List.mem_of_getElem? (i := 5) rfl))) (mvT hZ (hw _ (List.mem_of_getElem? (i := 6) rfl))) (notFace_of_selects (args := #[]) (mvT hZ (hw _ (List.mem_of_getElem? (i := 8) rfl)))) (mvT hZ (hw _ (List.mem_of_getElem? (i := 8) rfl))) (mvT hZ (hw _ (List.mem_of_getElem? (i := 7) rfl))) (by decide) (backOf (W := 0) (rm_adm2 l Z a0 hw [] wDIGITS wALPHANUMERIC wLETTERS hG c ((1 : Int32)) h0 n0 Z0 O0  (own_alpha c (Or.inl hd))) hZ (hw _ (List.mem_of_getElem? (i := 9) rfl)) (hw _ (List.mem_of_getElem? (i := 3) rfl)) (Nat.le_of_ble_eq_true rfl) (Nat.le_of_ble_eq_true rfl)) qa12 qc12 (g := (mkF m 142 #[.val (.int p0), .val (.int p1), .val (.int (2 : Int32)), .val (.int c), .val (.int dx), .val (.int (1 : Int32)), .val (.int lx), .val (.int (0 : Int32)), .val (.ref wALPHANUMERIC), .val (.int (1 : Int32))] [(.int c), (.ref wALPHANUMERIC)])) rfl (by rw [hml]; rfl) (Steps.refl _) (argsL := [(.int c)]) (rest := []) (lenOf pd_1 rfl) rfl (by show 2 * 0 + _ ≤ _; exact Nat.le_of_eq rfl) (hb hby at_142) (fun _ _ => ⟨rfl, e11, (Nat.le_of_ble_eq_true rfl : 0 + 0 ≤ _), (Nat.le_of_ble_eq_true rfl : 0 + 0 ≤ _)⟩)
          dsimp only [Pt.U, Pt.locs, Pt.cells, Pt.slots] at X12 l12 y12 z12 st12 hQ12
          subst l12 y12 z12
          obtain ⟨rfl, Nq12, eq12⟩ := hQ12
          have N12 := Fr.app N0 Nq12
          refine Go.by (fun _ k => st12.trans k) ?_
          show Go p e below P (T12.setTop (mkF m 145 #[.val (.int p0), .val (.int p1), .val (.int (2 : Int32)), .val (.int c), .val (.int dx), .val (.int (1 : Int32)), .val (.int lx), .val (.int (0 : Int32)), .val (.ref wALPHANUMERIC), .val (.int (1 : Int32))] [(.int (1 : Int32))]))
          refine Go.by (fun _ => XS.iload X12.here hx rfl (hb hby at_145) rfl) ?_
          show Go p e below P (T12.setTop (mkF m 147 #[.val (.int p0), .val (.int p1), .val (.int (2 : Int32)), .val (.int c), .val (.int dx), .val (.int (1 : Int32)), .val (.int lx), .val (.int (0 : Int32)), .val (.ref wALPHANUMERIC), .val (.int (1 : Int32))] [(.int (1 : Int32)), (.int (1 : Int32))]))
          have hc147 : (1 : Int32) = (1 : Int32) := by decide
          refine Go.by (fun _ => XS.icmpNo X12.here hx rfl (hb hby at_147) rfl (teq hc147).2) ?_
          show Go p e below P (T12.setTop (mkF m 150 #[.val (.int p0), .val (.int p1), .val (.int (2 : Int32)), .val (.int c), .val (.int dx), .val (.int (1 : Int32)), .val (.int lx), .val (.int (0 : Int32)), .val (.ref wALPHANUMERIC), .val (.int (1 : Int32))] []))
          refine Go.by (fun _ => XS.iconst X12.here hx rfl (hb hby at_150)) ?_
          show Go p e below P (T12.setTop (mkF m 151 #[.val (.int p0), .val (.int p1), .val (.int (2 : Int32)), .val (.int c), .val (.int dx), .val (.int (1 : Int32)), .val (.int lx), .val (.int (0 : Int32)), .val (.ref wALPHANUMERIC), .val (.int (1 : Int32))] [(.int (1 : Int32))]))
          refine Go.by (fun _ => XS.goto X12.here hx rfl (pc0 := 151) (pc' := 155) rfl (hb hby at_151) (by decide) (by decide)) ?_
          show Go p e below P (T12.setTop (mkF m 155 #[.val (.int p0), .val (.int p1), .val (.int (2 : Int32)), .val (.int c), .val (.int dx), .val (.int (1 : Int32)), .val (.int lx), .val (.int (0 : Int32)), .val (.ref wALPHANUMERIC), .val (.int (1 : Int32))] [(.int (1 : Int32))]))
          subst hP
          refine Go.retZ X12 hx (t := .boolean) Bd.returns (by simp) hlk (hb hby at_155) (Nat.le_of_ble_eq_true rfl) (Nat.le_of_ble_eq_true rfl) ?_
          rw [eq12]
          exact ⟨rfl, N12⟩
    · by_cases hl : 65 ≤ c.toInt ∧ c.toInt ≤ 90
      · have hi := own_lt3 i (hv_i ▸ own_mod3 p0)
        rcases hi with rfl | rfl | rfl
        · show Go p e below P (s₁.setTop (mkF m 34 #[.val (.int p0), .val (.int p1), .val (.int (0 : Int32)), .val (.int c), .unset, .unset, .unset, .unset, .unset, .unset] []))
          refine Go.by (fun _ => XS.iloadN X0.here hx rfl (hb hby at_34) rfl) ?_
          show Go p e below P (s₁.setTop (mkF m 35 #[.val (.int p0), .val (.int p1), .val (.int (0 : Int32)), .val (.int c), .unset, .unset, .unset, .unset, .unset, .unset] [(.int c)]))
          refine Go.by (fun _ => XS.bipush X0.here hx rfl (hb hby at_35)) ?_
          show Go p e below P (s₁.setTop (mkF m 37 #[.val (.int p0), .val (.int p1), .val (.int (0 : Int32)), .val (.int c), .unset, .unset, .unset, .unset, .unset, .unset] [(.int (48 : Int32)), (.int c)]))
          refine Go.by (fun _ => XS.isub X0.here hx rfl (hb hby at_37) rfl) ?_
          show Go p e below P (s₁.setTop (mkF m 38 #[.val (.int p0), .val (.int p1), .val (.int (0 : Int32)), .val (.int c), .unset, .unset, .unset, .unset, .unset, .unset] [(.int (c - (48 : Int32)))]))
          generalize hv_dx : (c - (48 : Int32)) = dx
          refine Go.by (fun _ => XS.istore X0.here hx rfl (hb hby at_38) rfl (l' := #[.val (.int p0), .val (.int p1), .val (.int (0 : Int32)), .val (.int c), .val (.int dx), .unset, .unset, .unset, .unset, .unset]) rfl) ?_
          show Go p e below P (s₁.setTop (mkF m 40 #[.val (.int p0), .val (.int p1), .val (.int (0 : Int32)), .val (.int c), .val (.int dx), .unset, .unset, .unset, .unset, .unset] []))
          refine Go.by (fun _ => XS.iload X0.here hx rfl (hb hby at_40) rfl) ?_
          show Go p e below P (s₁.setTop (mkF m 42 #[.val (.int p0), .val (.int p1), .val (.int (0 : Int32)), .val (.int c), .val (.int dx), .unset, .unset, .unset, .unset, .unset] [(.int dx)]))
          by_cases hc42 : dx < (0 : Int32)
          · refine Go.by (fun _ => XS.ifYes X0.here hx rfl (pc0 := 42) (pc' := 56) rfl (hb hby at_42) rfl ((if0 _ _).trans (tlt hc42).1) (by decide) (by decide)) ?_
            show Go p e below P (s₁.setTop (mkF m 56 #[.val (.int p0), .val (.int p1), .val (.int (0 : Int32)), .val (.int c), .val (.int dx), .unset, .unset, .unset, .unset, .unset] []))
            refine Go.by (fun _ => XS.iconst X0.here hx rfl (hb hby at_56)) ?_
            show Go p e below P (s₁.setTop (mkF m 57 #[.val (.int p0), .val (.int p1), .val (.int (0 : Int32)), .val (.int c), .val (.int dx), .unset, .unset, .unset, .unset, .unset] [(.int (0 : Int32))]))
            refine Go.by (fun _ => XS.istore X0.here hx rfl (hb hby at_57) rfl (l' := #[.val (.int p0), .val (.int p1), .val (.int (0 : Int32)), .val (.int c), .val (.int dx), .val (.int (0 : Int32)), .unset, .unset, .unset, .unset]) rfl) ?_
            show Go p e below P (s₁.setTop (mkF m 59 #[.val (.int p0), .val (.int p1), .val (.int (0 : Int32)), .val (.int c), .val (.int dx), .val (.int (0 : Int32)), .unset, .unset, .unset, .unset] []))
            refine Go.by (fun _ => XS.iloadN X0.here hx rfl (hb hby at_59) rfl) ?_
            show Go p e below P (s₁.setTop (mkF m 60 #[.val (.int p0), .val (.int p1), .val (.int (0 : Int32)), .val (.int c), .val (.int dx), .val (.int (0 : Int32)), .unset, .unset, .unset, .unset] [(.int c)]))
            refine Go.by (fun _ => XS.bipush X0.here hx rfl (hb hby at_60)) ?_
            show Go p e below P (s₁.setTop (mkF m 62 #[.val (.int p0), .val (.int p1), .val (.int (0 : Int32)), .val (.int c), .val (.int dx), .val (.int (0 : Int32)), .unset, .unset, .unset, .unset] [(.int (65 : Int32)), (.int c)]))
            refine Go.by (fun _ => XS.isub X0.here hx rfl (hb hby at_62) rfl) ?_
            show Go p e below P (s₁.setTop (mkF m 63 #[.val (.int p0), .val (.int p1), .val (.int (0 : Int32)), .val (.int c), .val (.int dx), .val (.int (0 : Int32)), .unset, .unset, .unset, .unset] [(.int (c - (65 : Int32)))]))
            generalize hv_lx : (c - (65 : Int32)) = lx
            refine Go.by (fun _ => XS.istore X0.here hx rfl (hb hby at_63) rfl (l' := #[.val (.int p0), .val (.int p1), .val (.int (0 : Int32)), .val (.int c), .val (.int dx), .val (.int (0 : Int32)), .val (.int lx), .unset, .unset, .unset]) rfl) ?_
            show Go p e below P (s₁.setTop (mkF m 65 #[.val (.int p0), .val (.int p1), .val (.int (0 : Int32)), .val (.int c), .val (.int dx), .val (.int (0 : Int32)), .val (.int lx), .unset, .unset, .unset] []))
            refine Go.by (fun _ => XS.iload X0.here hx rfl (hb hby at_65) rfl) ?_
            show Go p e below P (s₁.setTop (mkF m 67 #[.val (.int p0), .val (.int p1), .val (.int (0 : Int32)), .val (.int c), .val (.int dx), .val (.int (0 : Int32)), .val (.int lx), .unset, .unset, .unset] [(.int lx)]))
            have hc67 : ¬ (lx < (0 : Int32)) := (fun q => by have q0 := own_sub c 65 hj (by decide); have q1 := congrArg Int32.toInt hv_lx; have k65 : (65 : Int32).toInt = 65 := rfl; have l_0 : (0 : Int32).toInt = 0 := rfl; rw [Int32.lt_iff_toInt_lt] at q; omega)
            refine Go.by (fun _ => XS.ifNo X0.here hx rfl (hb hby at_67) rfl ((if0 _ _).trans (flt hc67).1)) ?_
            show Go p e below P (s₁.setTop (mkF m 70 #[.val (.int p0), .val (.int p1), .val (.int (0 : Int32)), .val (.int c), .val (.int dx), .val (.int (0 : Int32)), .val (.int lx), .unset, .unset, .unset] []))
            refine Go.by (fun _ => XS.iload X0.here hx rfl (hb hby at_70) rfl) ?_
            show Go p e below P (s₁.setTop (mkF m 72 #[.val (.int p0), .val (.int p1), .val (.int (0 : Int32)), .val (.int c), .val (.int dx), .val (.int (0 : Int32)), .val (.int lx), .unset, .unset, .unset] [(.int lx)]))
            refine Go.by (fun _ => XS.bipush X0.here hx rfl (hb hby at_72)) ?_
            show Go p e below P (s₁.setTop (mkF m 74 #[.val (.int p0), .val (.int p1), .val (.int (0 : Int32)), .val (.int c), .val (.int dx), .val (.int (0 : Int32)), .val (.int lx), .unset, .unset, .unset] [(.int (26 : Int32)), (.int lx)]))
            have hc74 : lx < (26 : Int32) := (by have q0 := own_sub c 65 hj (by decide); have q1 := congrArg Int32.toInt hv_lx; have k65 : (65 : Int32).toInt = 65 := rfl; have l_26 : (26 : Int32).toInt = 26 := rfl; rw [Int32.lt_iff_toInt_lt]; omega)
            refine Go.by (fun _ => XS.icmpNo X0.here hx rfl (hb hby at_74) rfl (tlt hc74).2.1) ?_
            show Go p e below P (s₁.setTop (mkF m 77 #[.val (.int p0), .val (.int p1), .val (.int (0 : Int32)), .val (.int c), .val (.int dx), .val (.int (0 : Int32)), .val (.int lx), .unset, .unset, .unset] []))
            refine Go.by (fun _ => XS.iconst X0.here hx rfl (hb hby at_77)) ?_
            show Go p e below P (s₁.setTop (mkF m 78 #[.val (.int p0), .val (.int p1), .val (.int (0 : Int32)), .val (.int c), .val (.int dx), .val (.int (0 : Int32)), .val (.int lx), .unset, .unset, .unset] [(.int (1 : Int32))]))
            refine Go.by (fun _ => XS.goto X0.here hx rfl (pc0 := 78) (pc' := 82) rfl (hb hby at_78) (by decide) (by decide)) ?_
            show Go p e below P (s₁.setTop (mkF m 82 #[.val (.int p0), .val (.int p1), .val (.int (0 : Int32)), .val (.int c), .val (.int dx), .val (.int (0 : Int32)), .val (.int lx), .unset, .unset, .unset] [(.int (1 : Int32))]))
            refine Go.by (fun _ => XS.istore X0.here hx rfl (hb hby at_82) rfl (l' := #[.val (.int p0), .val (.int p1), .val (.int (0 : Int32)), .val (.int c), .val (.int dx), .val (.int (0 : Int32)), .val (.int lx), .val (.int (1 : Int32)), .unset, .unset]) rfl) ?_
            show Go p e below P (s₁.setTop (mkF m 84 #[.val (.int p0), .val (.int p1), .val (.int (0 : Int32)), .val (.int c), .val (.int dx), .val (.int (0 : Int32)), .val (.int lx), .val (.int (1 : Int32)), .unset, .unset] []))
            refine Go.by (fun _ => XS.iloadN X0.here hx rfl (hb hby at_84) rfl) ?_
            show Go p e below P (s₁.setTop (mkF m 85 #[.val (.int p0), .val (.int p1), .val (.int (0 : Int32)), .val (.int c), .val (.int dx), .val (.int (0 : Int32)), .val (.int lx), .val (.int (1 : Int32)), .unset, .unset] [(.int (0 : Int32))]))
            have hc85 : (0 : Int32) = (0 : Int32) := by decide
            refine Go.by (fun _ => XS.ifNo X0.here hx rfl (hb hby at_85) rfl ((if0 _ _).trans (teq hc85).2)) ?_
            show Go p e below P (s₁.setTop (mkF m 88 #[.val (.int p0), .val (.int p1), .val (.int (0 : Int32)), .val (.int c), .val (.int dx), .val (.int (0 : Int32)), .val (.int lx), .val (.int (1 : Int32)), .unset, .unset] []))
            obtain ⟨T13, X13, e13, st13⟩ := getS2 X0 hx hZ hown (host := "") (Or.inl (hw _ (List.mem_of_getElem? (i := 2) rfl))) Via.refl e0 (G0.ext O0.2) (g := (mkF m 88 #[.val (.int p0), .val (.int p1), .val (.int (0 : Int32)), .val (.int c), .val (.int dx), .val (.int (0 : Int32)), .val (.int lx), .val (.int (1 : Int32)), .unset, .unset] [])) rfl (hb hby at_88)
            refine Go.by (fun _ => st13 _) ?_
            show Go p e below P (T13.setTop (mkF m 91 #[.val (.int p0), .val (.int p1), .val (.int (0 : Int32)), .val (.int c), .val (.int dx), .val (.int (0 : Int32)), .val (.int lx), .val (.int (1 : Int32)), .unset, .unset] [(.ref wDIGITS)]))
            refine Go.by (fun _ => XS.astore X13.here hx rfl (hb hby at_91) rfl rfl (l' := #[.val (.int p0), .val (.int p1), .val (.int (0 : Int32)), .val (.int c), .val (.int dx), .val (.int (0 : Int32)), .val (.int lx), .val (.int (1 : Int32)), .val (.ref wDIGITS), .unset]) rfl) ?_
            show Go p e below P (T13.setTop (mkF m 93 #[.val (.int p0), .val (.int p1), .val (.int (0 : Int32)), .val (.int c), .val (.int dx), .val (.int (0 : Int32)), .val (.int lx), .val (.int (1 : Int32)), .val (.ref wDIGITS), .unset] []))
            refine Go.by (fun _ => XS.iload X13.here hx rfl (hb hby at_93) rfl) ?_
            show Go p e below P (T13.setTop (mkF m 95 #[.val (.int p0), .val (.int p1), .val (.int (0 : Int32)), .val (.int c), .val (.int dx), .val (.int (0 : Int32)), .val (.int lx), .val (.int (1 : Int32)), .val (.ref wDIGITS), .unset] [(.int (0 : Int32))]))
            refine Go.by (fun _ => XS.istore X13.here hx rfl (hb hby at_95) rfl (l' := #[.val (.int p0), .val (.int p1), .val (.int (0 : Int32)), .val (.int c), .val (.int dx), .val (.int (0 : Int32)), .val (.int lx), .val (.int (1 : Int32)), .val (.ref wDIGITS), .val (.int (0 : Int32))]) rfl) ?_
            show Go p e below P (T13.setTop (mkF m 97 #[.val (.int p0), .val (.int p1), .val (.int (0 : Int32)), .val (.int c), .val (.int dx), .val (.int (0 : Int32)), .val (.int lx), .val (.int (1 : Int32)), .val (.ref wDIGITS), .val (.int (0 : Int32))] []))
            refine Go.by (fun _ => XS.goto X13.here hx rfl (pc0 := 97) (pc' := 139) rfl (hb hby at_97) (by decide) (by decide)) ?_
            show Go p e below P (T13.setTop (mkF m 139 #[.val (.int p0), .val (.int p1), .val (.int (0 : Int32)), .val (.int c), .val (.int dx), .val (.int (0 : Int32)), .val (.int lx), .val (.int (1 : Int32)), .val (.ref wDIGITS), .val (.int (0 : Int32))] []))
            refine Go.by (fun _ => XS.aload X13.here hx rfl (hb hby at_139) rfl rfl) ?_
            show Go p e below P (T13.setTop (mkF m 141 #[.val (.int p0), .val (.int p1), .val (.int (0 : Int32)), .val (.int c), .val (.int dx), .val (.int (0 : Int32)), .val (.int lx), .val (.int (1 : Int32)), .val (.ref wDIGITS), .val (.int (0 : Int32))] [(.ref wDIGITS)]))
            refine Go.by (fun _ => XS.iloadN X13.here hx rfl (hb hby at_141) rfl) ?_
            show Go p e below P (T13.setTop (mkF m 142 #[.val (.int p0), .val (.int p1), .val (.int (0 : Int32)), .val (.int c), .val (.int dx), .val (.int (0 : Int32)), .val (.int lx), .val (.int (1 : Int32)), .val (.ref wDIGITS), .val (.int (0 : Int32))] [(.int c), (.ref wDIGITS)]))
            obtain ⟨cq14, kq14, qa14, qb14, qc14⟩ := isOf hZ e13 (G1.ext O0.2)
            obtain ⟨_, _, ⟨T14, L14, k14, n14⟩, -, X14, ⟨Lc14, hQ14, l14, y14, z14⟩, st14⟩ := X13.virtualBack hx (y := (⟨"com/example/kontoform/kontoform/CharacterClass", "admits", "(C)Z"⟩ : MethodName)) (z := (⟨"com/example/kontoform/kontoform/CharacterClass", "admits", "(C)Z"⟩ : MethodName)) hown (mvT hZ (hw _ (List.mem_of_getElem? (i := 5) rfl))) (mvT hZ (hw _ (List.mem_of_getElem? (i := 6) rfl))) (notFace_of_selects (args := #[]) (mvT hZ (hw _ (List.mem_of_getElem? (i := 8) rfl)))) (mvT hZ (hw _ (List.mem_of_getElem? (i := 8) rfl))) (mvT hZ (hw _ (List.mem_of_getElem? (i := 7) rfl))) (by decide) (backOf (W := 0) (rm_adm0 l Z a0 hw [] wDIGITS wALPHANUMERIC wLETTERS hG c ((0 : Int32)) h0 n0 Z0 O0  (own_out48 c hd)) hZ (hw _ (List.mem_of_getElem? (i := 9) rfl)) (hw _ (List.mem_of_getElem? (i := 3) rfl)) (Nat.le_of_ble_eq_true rfl) (Nat.le_of_ble_eq_true rfl)) qa14 qc14 (g := (mkF m 142 #[.val (.int p0), .val (.int p1), .val (.int (0 : Int32)), .val (.int c), .val (.int dx), .val (.int (0 : Int32)), .val (.int lx), .val (.int (1 : Int32)), .val (.ref wDIGITS), .val (.int (0 : Int32))] [(.int c), (.ref wDIGITS)])) rfl (by rw [hml]; rfl) (Steps.refl _) (argsL := [(.int c)]) (rest := []) (lenOf pd_1 rfl) rfl (by show 2 * 0 + _ ≤ _; exact Nat.le_of_eq rfl) (hb hby at_142) (fun _ _ => ⟨rfl, e13, (Nat.le_of_ble_eq_true rfl : 0 + 0 ≤ _), (Nat.le_of_ble_eq_true rfl : 0 + 0 ≤ _)⟩)
            dsimp only [Pt.U, Pt.locs, Pt.cells, Pt.slots] at X14 l14 y14 z14 st14 hQ14
            subst l14 y14 z14
            obtain ⟨rfl, Nq14, eq14⟩ := hQ14
            have N14 := Fr.app N0 Nq14
            refine Go.by (fun _ k => st14.trans k) ?_
            show Go p e below P (T14.setTop (mkF m 145 #[.val (.int p0), .val (.int p1), .val (.int (0 : Int32)), .val (.int c), .val (.int dx), .val (.int (0 : Int32)), .val (.int lx), .val (.int (1 : Int32)), .val (.ref wDIGITS), .val (.int (0 : Int32))] [(.int (0 : Int32))]))
            refine Go.by (fun _ => XS.iload X14.here hx rfl (hb hby at_145) rfl) ?_
            show Go p e below P (T14.setTop (mkF m 147 #[.val (.int p0), .val (.int p1), .val (.int (0 : Int32)), .val (.int c), .val (.int dx), .val (.int (0 : Int32)), .val (.int lx), .val (.int (1 : Int32)), .val (.ref wDIGITS), .val (.int (0 : Int32))] [(.int (0 : Int32)), (.int (0 : Int32))]))
            have hc147 : (0 : Int32) = (0 : Int32) := by decide
            refine Go.by (fun _ => XS.icmpNo X14.here hx rfl (hb hby at_147) rfl (teq hc147).2) ?_
            show Go p e below P (T14.setTop (mkF m 150 #[.val (.int p0), .val (.int p1), .val (.int (0 : Int32)), .val (.int c), .val (.int dx), .val (.int (0 : Int32)), .val (.int lx), .val (.int (1 : Int32)), .val (.ref wDIGITS), .val (.int (0 : Int32))] []))
            refine Go.by (fun _ => XS.iconst X14.here hx rfl (hb hby at_150)) ?_
            show Go p e below P (T14.setTop (mkF m 151 #[.val (.int p0), .val (.int p1), .val (.int (0 : Int32)), .val (.int c), .val (.int dx), .val (.int (0 : Int32)), .val (.int lx), .val (.int (1 : Int32)), .val (.ref wDIGITS), .val (.int (0 : Int32))] [(.int (1 : Int32))]))
            refine Go.by (fun _ => XS.goto X14.here hx rfl (pc0 := 151) (pc' := 155) rfl (hb hby at_151) (by decide) (by decide)) ?_
            show Go p e below P (T14.setTop (mkF m 155 #[.val (.int p0), .val (.int p1), .val (.int (0 : Int32)), .val (.int c), .val (.int dx), .val (.int (0 : Int32)), .val (.int lx), .val (.int (1 : Int32)), .val (.ref wDIGITS), .val (.int (0 : Int32))] [(.int (1 : Int32))]))
            subst hP
            refine Go.retZ X14 hx (t := .boolean) Bd.returns (by simp) hlk (hb hby at_155) (Nat.le_of_ble_eq_true rfl) (Nat.le_of_ble_eq_true rfl) ?_
            rw [eq14]
            exact ⟨rfl, N14⟩
          · refine Go.by (fun _ => XS.ifNo X0.here hx rfl (hb hby at_42) rfl ((if0 _ _).trans (flt hc42).1)) ?_
            show Go p e below P (s₁.setTop (mkF m 45 #[.val (.int p0), .val (.int p1), .val (.int (0 : Int32)), .val (.int c), .val (.int dx), .unset, .unset, .unset, .unset, .unset] []))
            refine Go.by (fun _ => XS.iload X0.here hx rfl (hb hby at_45) rfl) ?_
            show Go p e below P (s₁.setTop (mkF m 47 #[.val (.int p0), .val (.int p1), .val (.int (0 : Int32)), .val (.int c), .val (.int dx), .unset, .unset, .unset, .unset, .unset] [(.int dx)]))
            refine Go.by (fun _ => XS.bipush X0.here hx rfl (hb hby at_47)) ?_
            show Go p e below P (s₁.setTop (mkF m 49 #[.val (.int p0), .val (.int p1), .val (.int (0 : Int32)), .val (.int c), .val (.int dx), .unset, .unset, .unset, .unset, .unset] [(.int (10 : Int32)), (.int dx)]))
            have hc49 : ¬ (dx < (10 : Int32)) := (fun q => by have q0 := own_sub c 48 hj (by decide); have q1 := congrArg Int32.toInt hv_dx; have k48 : (48 : Int32).toInt = 48 := rfl; have q3 := hc42; rw [Int32.lt_iff_toInt_lt] at q3; have k0 : (0 : Int32).toInt = 0 := rfl; have l_10 : (10 : Int32).toInt = 10 := rfl; rw [Int32.lt_iff_toInt_lt] at q; omega)
            refine Go.by (fun _ => XS.icmpYes X0.here hx rfl (pc0 := 49) (pc' := 56) rfl (hb hby at_49) rfl (flt hc49).2.1 (by decide) (by decide)) ?_
            show Go p e below P (s₁.setTop (mkF m 56 #[.val (.int p0), .val (.int p1), .val (.int (0 : Int32)), .val (.int c), .val (.int dx), .unset, .unset, .unset, .unset, .unset] []))
            refine Go.by (fun _ => XS.iconst X0.here hx rfl (hb hby at_56)) ?_
            show Go p e below P (s₁.setTop (mkF m 57 #[.val (.int p0), .val (.int p1), .val (.int (0 : Int32)), .val (.int c), .val (.int dx), .unset, .unset, .unset, .unset, .unset] [(.int (0 : Int32))]))
            refine Go.by (fun _ => XS.istore X0.here hx rfl (hb hby at_57) rfl (l' := #[.val (.int p0), .val (.int p1), .val (.int (0 : Int32)), .val (.int c), .val (.int dx), .val (.int (0 : Int32)), .unset, .unset, .unset, .unset]) rfl) ?_
            show Go p e below P (s₁.setTop (mkF m 59 #[.val (.int p0), .val (.int p1), .val (.int (0 : Int32)), .val (.int c), .val (.int dx), .val (.int (0 : Int32)), .unset, .unset, .unset, .unset] []))
            refine Go.by (fun _ => XS.iloadN X0.here hx rfl (hb hby at_59) rfl) ?_
            show Go p e below P (s₁.setTop (mkF m 60 #[.val (.int p0), .val (.int p1), .val (.int (0 : Int32)), .val (.int c), .val (.int dx), .val (.int (0 : Int32)), .unset, .unset, .unset, .unset] [(.int c)]))
            refine Go.by (fun _ => XS.bipush X0.here hx rfl (hb hby at_60)) ?_
            show Go p e below P (s₁.setTop (mkF m 62 #[.val (.int p0), .val (.int p1), .val (.int (0 : Int32)), .val (.int c), .val (.int dx), .val (.int (0 : Int32)), .unset, .unset, .unset, .unset] [(.int (65 : Int32)), (.int c)]))
            refine Go.by (fun _ => XS.isub X0.here hx rfl (hb hby at_62) rfl) ?_
            show Go p e below P (s₁.setTop (mkF m 63 #[.val (.int p0), .val (.int p1), .val (.int (0 : Int32)), .val (.int c), .val (.int dx), .val (.int (0 : Int32)), .unset, .unset, .unset, .unset] [(.int (c - (65 : Int32)))]))
            generalize hv_lx : (c - (65 : Int32)) = lx
            refine Go.by (fun _ => XS.istore X0.here hx rfl (hb hby at_63) rfl (l' := #[.val (.int p0), .val (.int p1), .val (.int (0 : Int32)), .val (.int c), .val (.int dx), .val (.int (0 : Int32)), .val (.int lx), .unset, .unset, .unset]) rfl) ?_
            show Go p e below P (s₁.setTop (mkF m 65 #[.val (.int p0), .val (.int p1), .val (.int (0 : Int32)), .val (.int c), .val (.int dx), .val (.int (0 : Int32)), .val (.int lx), .unset, .unset, .unset] []))
            refine Go.by (fun _ => XS.iload X0.here hx rfl (hb hby at_65) rfl) ?_
            show Go p e below P (s₁.setTop (mkF m 67 #[.val (.int p0), .val (.int p1), .val (.int (0 : Int32)), .val (.int c), .val (.int dx), .val (.int (0 : Int32)), .val (.int lx), .unset, .unset, .unset] [(.int lx)]))
            have hc67 : ¬ (lx < (0 : Int32)) := (fun q => by have q0 := own_sub c 65 hj (by decide); have q1 := congrArg Int32.toInt hv_lx; have k65 : (65 : Int32).toInt = 65 := rfl; have l_0 : (0 : Int32).toInt = 0 := rfl; rw [Int32.lt_iff_toInt_lt] at q; omega)
            refine Go.by (fun _ => XS.ifNo X0.here hx rfl (hb hby at_67) rfl ((if0 _ _).trans (flt hc67).1)) ?_
            show Go p e below P (s₁.setTop (mkF m 70 #[.val (.int p0), .val (.int p1), .val (.int (0 : Int32)), .val (.int c), .val (.int dx), .val (.int (0 : Int32)), .val (.int lx), .unset, .unset, .unset] []))
            refine Go.by (fun _ => XS.iload X0.here hx rfl (hb hby at_70) rfl) ?_
            show Go p e below P (s₁.setTop (mkF m 72 #[.val (.int p0), .val (.int p1), .val (.int (0 : Int32)), .val (.int c), .val (.int dx), .val (.int (0 : Int32)), .val (.int lx), .unset, .unset, .unset] [(.int lx)]))
            refine Go.by (fun _ => XS.bipush X0.here hx rfl (hb hby at_72)) ?_
            show Go p e below P (s₁.setTop (mkF m 74 #[.val (.int p0), .val (.int p1), .val (.int (0 : Int32)), .val (.int c), .val (.int dx), .val (.int (0 : Int32)), .val (.int lx), .unset, .unset, .unset] [(.int (26 : Int32)), (.int lx)]))
            have hc74 : lx < (26 : Int32) := (by have q0 := own_sub c 65 hj (by decide); have q1 := congrArg Int32.toInt hv_lx; have k65 : (65 : Int32).toInt = 65 := rfl; have l_26 : (26 : Int32).toInt = 26 := rfl; rw [Int32.lt_iff_toInt_lt]; omega)
            refine Go.by (fun _ => XS.icmpNo X0.here hx rfl (hb hby at_74) rfl (tlt hc74).2.1) ?_
            show Go p e below P (s₁.setTop (mkF m 77 #[.val (.int p0), .val (.int p1), .val (.int (0 : Int32)), .val (.int c), .val (.int dx), .val (.int (0 : Int32)), .val (.int lx), .unset, .unset, .unset] []))
            refine Go.by (fun _ => XS.iconst X0.here hx rfl (hb hby at_77)) ?_
            show Go p e below P (s₁.setTop (mkF m 78 #[.val (.int p0), .val (.int p1), .val (.int (0 : Int32)), .val (.int c), .val (.int dx), .val (.int (0 : Int32)), .val (.int lx), .unset, .unset, .unset] [(.int (1 : Int32))]))
            refine Go.by (fun _ => XS.goto X0.here hx rfl (pc0 := 78) (pc' := 82) rfl (hb hby at_78) (by decide) (by decide)) ?_
            show Go p e below P (s₁.setTop (mkF m 82 #[.val (.int p0), .val (.int p1), .val (.int (0 : Int32)), .val (.int c), .val (.int dx), .val (.int (0 : Int32)), .val (.int lx), .unset, .unset, .unset] [(.int (1 : Int32))]))
            refine Go.by (fun _ => XS.istore X0.here hx rfl (hb hby at_82) rfl (l' := #[.val (.int p0), .val (.int p1), .val (.int (0 : Int32)), .val (.int c), .val (.int dx), .val (.int (0 : Int32)), .val (.int lx), .val (.int (1 : Int32)), .unset, .unset]) rfl) ?_
            show Go p e below P (s₁.setTop (mkF m 84 #[.val (.int p0), .val (.int p1), .val (.int (0 : Int32)), .val (.int c), .val (.int dx), .val (.int (0 : Int32)), .val (.int lx), .val (.int (1 : Int32)), .unset, .unset] []))
            refine Go.by (fun _ => XS.iloadN X0.here hx rfl (hb hby at_84) rfl) ?_
            show Go p e below P (s₁.setTop (mkF m 85 #[.val (.int p0), .val (.int p1), .val (.int (0 : Int32)), .val (.int c), .val (.int dx), .val (.int (0 : Int32)), .val (.int lx), .val (.int (1 : Int32)), .unset, .unset] [(.int (0 : Int32))]))
            have hc85 : (0 : Int32) = (0 : Int32) := by decide
            refine Go.by (fun _ => XS.ifNo X0.here hx rfl (hb hby at_85) rfl ((if0 _ _).trans (teq hc85).2)) ?_
            show Go p e below P (s₁.setTop (mkF m 88 #[.val (.int p0), .val (.int p1), .val (.int (0 : Int32)), .val (.int c), .val (.int dx), .val (.int (0 : Int32)), .val (.int lx), .val (.int (1 : Int32)), .unset, .unset] []))
            obtain ⟨T15, X15, e15, st15⟩ := getS2 X0 hx hZ hown (host := "") (Or.inl (hw _ (List.mem_of_getElem? (i := 2) rfl))) Via.refl e0 (G0.ext O0.2) (g := (mkF m 88 #[.val (.int p0), .val (.int p1), .val (.int (0 : Int32)), .val (.int c), .val (.int dx), .val (.int (0 : Int32)), .val (.int lx), .val (.int (1 : Int32)), .unset, .unset] [])) rfl (hb hby at_88)
            refine Go.by (fun _ => st15 _) ?_
            show Go p e below P (T15.setTop (mkF m 91 #[.val (.int p0), .val (.int p1), .val (.int (0 : Int32)), .val (.int c), .val (.int dx), .val (.int (0 : Int32)), .val (.int lx), .val (.int (1 : Int32)), .unset, .unset] [(.ref wDIGITS)]))
            refine Go.by (fun _ => XS.astore X15.here hx rfl (hb hby at_91) rfl rfl (l' := #[.val (.int p0), .val (.int p1), .val (.int (0 : Int32)), .val (.int c), .val (.int dx), .val (.int (0 : Int32)), .val (.int lx), .val (.int (1 : Int32)), .val (.ref wDIGITS), .unset]) rfl) ?_
            show Go p e below P (T15.setTop (mkF m 93 #[.val (.int p0), .val (.int p1), .val (.int (0 : Int32)), .val (.int c), .val (.int dx), .val (.int (0 : Int32)), .val (.int lx), .val (.int (1 : Int32)), .val (.ref wDIGITS), .unset] []))
            refine Go.by (fun _ => XS.iload X15.here hx rfl (hb hby at_93) rfl) ?_
            show Go p e below P (T15.setTop (mkF m 95 #[.val (.int p0), .val (.int p1), .val (.int (0 : Int32)), .val (.int c), .val (.int dx), .val (.int (0 : Int32)), .val (.int lx), .val (.int (1 : Int32)), .val (.ref wDIGITS), .unset] [(.int (0 : Int32))]))
            refine Go.by (fun _ => XS.istore X15.here hx rfl (hb hby at_95) rfl (l' := #[.val (.int p0), .val (.int p1), .val (.int (0 : Int32)), .val (.int c), .val (.int dx), .val (.int (0 : Int32)), .val (.int lx), .val (.int (1 : Int32)), .val (.ref wDIGITS), .val (.int (0 : Int32))]) rfl) ?_
            show Go p e below P (T15.setTop (mkF m 97 #[.val (.int p0), .val (.int p1), .val (.int (0 : Int32)), .val (.int c), .val (.int dx), .val (.int (0 : Int32)), .val (.int lx), .val (.int (1 : Int32)), .val (.ref wDIGITS), .val (.int (0 : Int32))] []))
            refine Go.by (fun _ => XS.goto X15.here hx rfl (pc0 := 97) (pc' := 139) rfl (hb hby at_97) (by decide) (by decide)) ?_
            show Go p e below P (T15.setTop (mkF m 139 #[.val (.int p0), .val (.int p1), .val (.int (0 : Int32)), .val (.int c), .val (.int dx), .val (.int (0 : Int32)), .val (.int lx), .val (.int (1 : Int32)), .val (.ref wDIGITS), .val (.int (0 : Int32))] []))
            refine Go.by (fun _ => XS.aload X15.here hx rfl (hb hby at_139) rfl rfl) ?_
            show Go p e below P (T15.setTop (mkF m 141 #[.val (.int p0), .val (.int p1), .val (.int (0 : Int32)), .val (.int c), .val (.int dx), .val (.int (0 : Int32)), .val (.int lx), .val (.int (1 : Int32)), .val (.ref wDIGITS), .val (.int (0 : Int32))] [(.ref wDIGITS)]))
            refine Go.by (fun _ => XS.iloadN X15.here hx rfl (hb hby at_141) rfl) ?_
            show Go p e below P (T15.setTop (mkF m 142 #[.val (.int p0), .val (.int p1), .val (.int (0 : Int32)), .val (.int c), .val (.int dx), .val (.int (0 : Int32)), .val (.int lx), .val (.int (1 : Int32)), .val (.ref wDIGITS), .val (.int (0 : Int32))] [(.int c), (.ref wDIGITS)]))
            obtain ⟨cq16, kq16, qa16, qb16, qc16⟩ := isOf hZ e15 (G1.ext O0.2)
            obtain ⟨_, _, ⟨T16, L16, k16, n16⟩, -, X16, ⟨Lc16, hQ16, l16, y16, z16⟩, st16⟩ := X15.virtualBack hx (y := (⟨"com/example/kontoform/kontoform/CharacterClass", "admits", "(C)Z"⟩ : MethodName)) (z := (⟨"com/example/kontoform/kontoform/CharacterClass", "admits", "(C)Z"⟩ : MethodName)) hown (mvT hZ (hw _ (List.mem_of_getElem? (i := 5) rfl))) (mvT hZ (hw _ (List.mem_of_getElem? (i := 6) rfl))) (notFace_of_selects (args := #[]) (mvT hZ (hw _ (List.mem_of_getElem? (i := 8) rfl)))) (mvT hZ (hw _ (List.mem_of_getElem? (i := 8) rfl))) (mvT hZ (hw _ (List.mem_of_getElem? (i := 7) rfl))) (by decide) (backOf (W := 0) (rm_adm0 l Z a0 hw [] wDIGITS wALPHANUMERIC wLETTERS hG c ((0 : Int32)) h0 n0 Z0 O0  (own_out48 c hd)) hZ (hw _ (List.mem_of_getElem? (i := 9) rfl)) (hw _ (List.mem_of_getElem? (i := 3) rfl)) (Nat.le_of_ble_eq_true rfl) (Nat.le_of_ble_eq_true rfl)) qa16 qc16 (g := (mkF m 142 #[.val (.int p0), .val (.int p1), .val (.int (0 : Int32)), .val (.int c), .val (.int dx), .val (.int (0 : Int32)), .val (.int lx), .val (.int (1 : Int32)), .val (.ref wDIGITS), .val (.int (0 : Int32))] [(.int c), (.ref wDIGITS)])) rfl (by rw [hml]; rfl) (Steps.refl _) (argsL := [(.int c)]) (rest := []) (lenOf pd_1 rfl) rfl (by show 2 * 0 + _ ≤ _; exact Nat.le_of_eq rfl) (hb hby at_142) (fun _ _ => ⟨rfl, e15, (Nat.le_of_ble_eq_true rfl : 0 + 0 ≤ _), (Nat.le_of_ble_eq_true rfl : 0 + 0 ≤ _)⟩)
            dsimp only [Pt.U, Pt.locs, Pt.cells, Pt.slots] at X16 l16 y16 z16 st16 hQ16
            subst l16 y16 z16
            obtain ⟨rfl, Nq16, eq16⟩ := hQ16
            have N16 := Fr.app N0 Nq16
            refine Go.by (fun _ k => st16.trans k) ?_
            show Go p e below P (T16.setTop (mkF m 145 #[.val (.int p0), .val (.int p1), .val (.int (0 : Int32)), .val (.int c), .val (.int dx), .val (.int (0 : Int32)), .val (.int lx), .val (.int (1 : Int32)), .val (.ref wDIGITS), .val (.int (0 : Int32))] [(.int (0 : Int32))]))
            refine Go.by (fun _ => XS.iload X16.here hx rfl (hb hby at_145) rfl) ?_
            show Go p e below P (T16.setTop (mkF m 147 #[.val (.int p0), .val (.int p1), .val (.int (0 : Int32)), .val (.int c), .val (.int dx), .val (.int (0 : Int32)), .val (.int lx), .val (.int (1 : Int32)), .val (.ref wDIGITS), .val (.int (0 : Int32))] [(.int (0 : Int32)), (.int (0 : Int32))]))
            have hc147 : (0 : Int32) = (0 : Int32) := by decide
            refine Go.by (fun _ => XS.icmpNo X16.here hx rfl (hb hby at_147) rfl (teq hc147).2) ?_
            show Go p e below P (T16.setTop (mkF m 150 #[.val (.int p0), .val (.int p1), .val (.int (0 : Int32)), .val (.int c), .val (.int dx), .val (.int (0 : Int32)), .val (.int lx), .val (.int (1 : Int32)), .val (.ref wDIGITS), .val (.int (0 : Int32))] []))
            refine Go.by (fun _ => XS.iconst X16.here hx rfl (hb hby at_150)) ?_
            show Go p e below P (T16.setTop (mkF m 151 #[.val (.int p0), .val (.int p1), .val (.int (0 : Int32)), .val (.int c), .val (.int dx), .val (.int (0 : Int32)), .val (.int lx), .val (.int (1 : Int32)), .val (.ref wDIGITS), .val (.int (0 : Int32))] [(.int (1 : Int32))]))
            refine Go.by (fun _ => XS.goto X16.here hx rfl (pc0 := 151) (pc' := 155) rfl (hb hby at_151) (by decide) (by decide)) ?_
            show Go p e below P (T16.setTop (mkF m 155 #[.val (.int p0), .val (.int p1), .val (.int (0 : Int32)), .val (.int c), .val (.int dx), .val (.int (0 : Int32)), .val (.int lx), .val (.int (1 : Int32)), .val (.ref wDIGITS), .val (.int (0 : Int32))] [(.int (1 : Int32))]))
            subst hP
            refine Go.retZ X16 hx (t := .boolean) Bd.returns (by simp) hlk (hb hby at_155) (Nat.le_of_ble_eq_true rfl) (Nat.le_of_ble_eq_true rfl) ?_
            rw [eq16]
            exact ⟨rfl, N16⟩
        · show Go p e below P (s₁.setTop (mkF m 34 #[.val (.int p0), .val (.int p1), .val (.int (1 : Int32)), .val (.int c), .unset, .unset, .unset, .unset, .unset, .unset] []))
          refine Go.by (fun _ => XS.iloadN X0.here hx rfl (hb hby at_34) rfl) ?_
          show Go p e below P (s₁.setTop (mkF m 35 #[.val (.int p0), .val (.int p1), .val (.int (1 : Int32)), .val (.int c), .unset, .unset, .unset, .unset, .unset, .unset] [(.int c)]))
          refine Go.by (fun _ => XS.bipush X0.here hx rfl (hb hby at_35)) ?_
          show Go p e below P (s₁.setTop (mkF m 37 #[.val (.int p0), .val (.int p1), .val (.int (1 : Int32)), .val (.int c), .unset, .unset, .unset, .unset, .unset, .unset] [(.int (48 : Int32)), (.int c)]))
          refine Go.by (fun _ => XS.isub X0.here hx rfl (hb hby at_37) rfl) ?_
          show Go p e below P (s₁.setTop (mkF m 38 #[.val (.int p0), .val (.int p1), .val (.int (1 : Int32)), .val (.int c), .unset, .unset, .unset, .unset, .unset, .unset] [(.int (c - (48 : Int32)))]))
          generalize hv_dx : (c - (48 : Int32)) = dx
          refine Go.by (fun _ => XS.istore X0.here hx rfl (hb hby at_38) rfl (l' := #[.val (.int p0), .val (.int p1), .val (.int (1 : Int32)), .val (.int c), .val (.int dx), .unset, .unset, .unset, .unset, .unset]) rfl) ?_
          show Go p e below P (s₁.setTop (mkF m 40 #[.val (.int p0), .val (.int p1), .val (.int (1 : Int32)), .val (.int c), .val (.int dx), .unset, .unset, .unset, .unset, .unset] []))
          refine Go.by (fun _ => XS.iload X0.here hx rfl (hb hby at_40) rfl) ?_
          show Go p e below P (s₁.setTop (mkF m 42 #[.val (.int p0), .val (.int p1), .val (.int (1 : Int32)), .val (.int c), .val (.int dx), .unset, .unset, .unset, .unset, .unset] [(.int dx)]))
          by_cases hc42 : dx < (0 : Int32)
          · refine Go.by (fun _ => XS.ifYes X0.here hx rfl (pc0 := 42) (pc' := 56) rfl (hb hby at_42) rfl ((if0 _ _).trans (tlt hc42).1) (by decide) (by decide)) ?_
            show Go p e below P (s₁.setTop (mkF m 56 #[.val (.int p0), .val (.int p1), .val (.int (1 : Int32)), .val (.int c), .val (.int dx), .unset, .unset, .unset, .unset, .unset] []))
            refine Go.by (fun _ => XS.iconst X0.here hx rfl (hb hby at_56)) ?_
            show Go p e below P (s₁.setTop (mkF m 57 #[.val (.int p0), .val (.int p1), .val (.int (1 : Int32)), .val (.int c), .val (.int dx), .unset, .unset, .unset, .unset, .unset] [(.int (0 : Int32))]))
            refine Go.by (fun _ => XS.istore X0.here hx rfl (hb hby at_57) rfl (l' := #[.val (.int p0), .val (.int p1), .val (.int (1 : Int32)), .val (.int c), .val (.int dx), .val (.int (0 : Int32)), .unset, .unset, .unset, .unset]) rfl) ?_
            show Go p e below P (s₁.setTop (mkF m 59 #[.val (.int p0), .val (.int p1), .val (.int (1 : Int32)), .val (.int c), .val (.int dx), .val (.int (0 : Int32)), .unset, .unset, .unset, .unset] []))
            refine Go.by (fun _ => XS.iloadN X0.here hx rfl (hb hby at_59) rfl) ?_
            show Go p e below P (s₁.setTop (mkF m 60 #[.val (.int p0), .val (.int p1), .val (.int (1 : Int32)), .val (.int c), .val (.int dx), .val (.int (0 : Int32)), .unset, .unset, .unset, .unset] [(.int c)]))
            refine Go.by (fun _ => XS.bipush X0.here hx rfl (hb hby at_60)) ?_
            show Go p e below P (s₁.setTop (mkF m 62 #[.val (.int p0), .val (.int p1), .val (.int (1 : Int32)), .val (.int c), .val (.int dx), .val (.int (0 : Int32)), .unset, .unset, .unset, .unset] [(.int (65 : Int32)), (.int c)]))
            refine Go.by (fun _ => XS.isub X0.here hx rfl (hb hby at_62) rfl) ?_
            show Go p e below P (s₁.setTop (mkF m 63 #[.val (.int p0), .val (.int p1), .val (.int (1 : Int32)), .val (.int c), .val (.int dx), .val (.int (0 : Int32)), .unset, .unset, .unset, .unset] [(.int (c - (65 : Int32)))]))
            generalize hv_lx : (c - (65 : Int32)) = lx
            refine Go.by (fun _ => XS.istore X0.here hx rfl (hb hby at_63) rfl (l' := #[.val (.int p0), .val (.int p1), .val (.int (1 : Int32)), .val (.int c), .val (.int dx), .val (.int (0 : Int32)), .val (.int lx), .unset, .unset, .unset]) rfl) ?_
            show Go p e below P (s₁.setTop (mkF m 65 #[.val (.int p0), .val (.int p1), .val (.int (1 : Int32)), .val (.int c), .val (.int dx), .val (.int (0 : Int32)), .val (.int lx), .unset, .unset, .unset] []))
            refine Go.by (fun _ => XS.iload X0.here hx rfl (hb hby at_65) rfl) ?_
            show Go p e below P (s₁.setTop (mkF m 67 #[.val (.int p0), .val (.int p1), .val (.int (1 : Int32)), .val (.int c), .val (.int dx), .val (.int (0 : Int32)), .val (.int lx), .unset, .unset, .unset] [(.int lx)]))
            have hc67 : ¬ (lx < (0 : Int32)) := (fun q => by have q0 := own_sub c 65 hj (by decide); have q1 := congrArg Int32.toInt hv_lx; have k65 : (65 : Int32).toInt = 65 := rfl; have l_0 : (0 : Int32).toInt = 0 := rfl; rw [Int32.lt_iff_toInt_lt] at q; omega)
            refine Go.by (fun _ => XS.ifNo X0.here hx rfl (hb hby at_67) rfl ((if0 _ _).trans (flt hc67).1)) ?_
            show Go p e below P (s₁.setTop (mkF m 70 #[.val (.int p0), .val (.int p1), .val (.int (1 : Int32)), .val (.int c), .val (.int dx), .val (.int (0 : Int32)), .val (.int lx), .unset, .unset, .unset] []))
            refine Go.by (fun _ => XS.iload X0.here hx rfl (hb hby at_70) rfl) ?_
            show Go p e below P (s₁.setTop (mkF m 72 #[.val (.int p0), .val (.int p1), .val (.int (1 : Int32)), .val (.int c), .val (.int dx), .val (.int (0 : Int32)), .val (.int lx), .unset, .unset, .unset] [(.int lx)]))
            refine Go.by (fun _ => XS.bipush X0.here hx rfl (hb hby at_72)) ?_
            show Go p e below P (s₁.setTop (mkF m 74 #[.val (.int p0), .val (.int p1), .val (.int (1 : Int32)), .val (.int c), .val (.int dx), .val (.int (0 : Int32)), .val (.int lx), .unset, .unset, .unset] [(.int (26 : Int32)), (.int lx)]))
            have hc74 : lx < (26 : Int32) := (by have q0 := own_sub c 65 hj (by decide); have q1 := congrArg Int32.toInt hv_lx; have k65 : (65 : Int32).toInt = 65 := rfl; have l_26 : (26 : Int32).toInt = 26 := rfl; rw [Int32.lt_iff_toInt_lt]; omega)
            refine Go.by (fun _ => XS.icmpNo X0.here hx rfl (hb hby at_74) rfl (tlt hc74).2.1) ?_
            show Go p e below P (s₁.setTop (mkF m 77 #[.val (.int p0), .val (.int p1), .val (.int (1 : Int32)), .val (.int c), .val (.int dx), .val (.int (0 : Int32)), .val (.int lx), .unset, .unset, .unset] []))
            refine Go.by (fun _ => XS.iconst X0.here hx rfl (hb hby at_77)) ?_
            show Go p e below P (s₁.setTop (mkF m 78 #[.val (.int p0), .val (.int p1), .val (.int (1 : Int32)), .val (.int c), .val (.int dx), .val (.int (0 : Int32)), .val (.int lx), .unset, .unset, .unset] [(.int (1 : Int32))]))
            refine Go.by (fun _ => XS.goto X0.here hx rfl (pc0 := 78) (pc' := 82) rfl (hb hby at_78) (by decide) (by decide)) ?_
            show Go p e below P (s₁.setTop (mkF m 82 #[.val (.int p0), .val (.int p1), .val (.int (1 : Int32)), .val (.int c), .val (.int dx), .val (.int (0 : Int32)), .val (.int lx), .unset, .unset, .unset] [(.int (1 : Int32))]))
            refine Go.by (fun _ => XS.istore X0.here hx rfl (hb hby at_82) rfl (l' := #[.val (.int p0), .val (.int p1), .val (.int (1 : Int32)), .val (.int c), .val (.int dx), .val (.int (0 : Int32)), .val (.int lx), .val (.int (1 : Int32)), .unset, .unset]) rfl) ?_
            show Go p e below P (s₁.setTop (mkF m 84 #[.val (.int p0), .val (.int p1), .val (.int (1 : Int32)), .val (.int c), .val (.int dx), .val (.int (0 : Int32)), .val (.int lx), .val (.int (1 : Int32)), .unset, .unset] []))
            refine Go.by (fun _ => XS.iloadN X0.here hx rfl (hb hby at_84) rfl) ?_
            show Go p e below P (s₁.setTop (mkF m 85 #[.val (.int p0), .val (.int p1), .val (.int (1 : Int32)), .val (.int c), .val (.int dx), .val (.int (0 : Int32)), .val (.int lx), .val (.int (1 : Int32)), .unset, .unset] [(.int (1 : Int32))]))
            have hc85 : ¬ ((1 : Int32) = (0 : Int32)) := by decide
            refine Go.by (fun _ => XS.ifYes X0.here hx rfl (pc0 := 85) (pc' := 100) rfl (hb hby at_85) rfl ((if0 _ _).trans (feq hc85).2) (by decide) (by decide)) ?_
            show Go p e below P (s₁.setTop (mkF m 100 #[.val (.int p0), .val (.int p1), .val (.int (1 : Int32)), .val (.int c), .val (.int dx), .val (.int (0 : Int32)), .val (.int lx), .val (.int (1 : Int32)), .unset, .unset] []))
            refine Go.by (fun _ => XS.iloadN X0.here hx rfl (hb hby at_100) rfl) ?_
            show Go p e below P (s₁.setTop (mkF m 101 #[.val (.int p0), .val (.int p1), .val (.int (1 : Int32)), .val (.int c), .val (.int dx), .val (.int (0 : Int32)), .val (.int lx), .val (.int (1 : Int32)), .unset, .unset] [(.int (1 : Int32))]))
            refine Go.by (fun _ => XS.iconst X0.here hx rfl (hb hby at_101)) ?_
            show Go p e below P (s₁.setTop (mkF m 102 #[.val (.int p0), .val (.int p1), .val (.int (1 : Int32)), .val (.int c), .val (.int dx), .val (.int (0 : Int32)), .val (.int lx), .val (.int (1 : Int32)), .unset, .unset] [(.int (1 : Int32)), (.int (1 : Int32))]))
            have hc102 : (1 : Int32) = (1 : Int32) := by decide
            refine Go.by (fun _ => XS.icmpNo X0.here hx rfl (hb hby at_102) rfl (teq hc102).2) ?_
            show Go p e below P (s₁.setTop (mkF m 105 #[.val (.int p0), .val (.int p1), .val (.int (1 : Int32)), .val (.int c), .val (.int dx), .val (.int (0 : Int32)), .val (.int lx), .val (.int (1 : Int32)), .unset, .unset] []))
            obtain ⟨T17, X17, e17, st17⟩ := getS2 X0 hx hZ hown (host := "") (Or.inl (hw _ (List.mem_of_getElem? (i := 25) rfl))) Via.refl e0 (G6.ext O0.2) (g := (mkF m 105 #[.val (.int p0), .val (.int p1), .val (.int (1 : Int32)), .val (.int c), .val (.int dx), .val (.int (0 : Int32)), .val (.int lx), .val (.int (1 : Int32)), .unset, .unset] [])) rfl (hb hby at_105)
            refine Go.by (fun _ => st17 _) ?_
            show Go p e below P (T17.setTop (mkF m 108 #[.val (.int p0), .val (.int p1), .val (.int (1 : Int32)), .val (.int c), .val (.int dx), .val (.int (0 : Int32)), .val (.int lx), .val (.int (1 : Int32)), .unset, .unset] [(.ref wLETTERS)]))
            refine Go.by (fun _ => XS.astore X17.here hx rfl (hb hby at_108) rfl rfl (l' := #[.val (.int p0), .val (.int p1), .val (.int (1 : Int32)), .val (.int c), .val (.int dx), .val (.int (0 : Int32)), .val (.int lx), .val (.int (1 : Int32)), .val (.ref wLETTERS), .unset]) rfl) ?_
            show Go p e below P (T17.setTop (mkF m 110 #[.val (.int p0), .val (.int p1), .val (.int (1 : Int32)), .val (.int c), .val (.int dx), .val (.int (0 : Int32)), .val (.int lx), .val (.int (1 : Int32)), .val (.ref wLETTERS), .unset] []))
            refine Go.by (fun _ => XS.iload X17.here hx rfl (hb hby at_110) rfl) ?_
            show Go p e below P (T17.setTop (mkF m 112 #[.val (.int p0), .val (.int p1), .val (.int (1 : Int32)), .val (.int c), .val (.int dx), .val (.int (0 : Int32)), .val (.int lx), .val (.int (1 : Int32)), .val (.ref wLETTERS), .unset] [(.int (1 : Int32))]))
            refine Go.by (fun _ => XS.istore X17.here hx rfl (hb hby at_112) rfl (l' := #[.val (.int p0), .val (.int p1), .val (.int (1 : Int32)), .val (.int c), .val (.int dx), .val (.int (0 : Int32)), .val (.int lx), .val (.int (1 : Int32)), .val (.ref wLETTERS), .val (.int (1 : Int32))]) rfl) ?_
            show Go p e below P (T17.setTop (mkF m 114 #[.val (.int p0), .val (.int p1), .val (.int (1 : Int32)), .val (.int c), .val (.int dx), .val (.int (0 : Int32)), .val (.int lx), .val (.int (1 : Int32)), .val (.ref wLETTERS), .val (.int (1 : Int32))] []))
            refine Go.by (fun _ => XS.goto X17.here hx rfl (pc0 := 114) (pc' := 139) rfl (hb hby at_114) (by decide) (by decide)) ?_
            show Go p e below P (T17.setTop (mkF m 139 #[.val (.int p0), .val (.int p1), .val (.int (1 : Int32)), .val (.int c), .val (.int dx), .val (.int (0 : Int32)), .val (.int lx), .val (.int (1 : Int32)), .val (.ref wLETTERS), .val (.int (1 : Int32))] []))
            refine Go.by (fun _ => XS.aload X17.here hx rfl (hb hby at_139) rfl rfl) ?_
            show Go p e below P (T17.setTop (mkF m 141 #[.val (.int p0), .val (.int p1), .val (.int (1 : Int32)), .val (.int c), .val (.int dx), .val (.int (0 : Int32)), .val (.int lx), .val (.int (1 : Int32)), .val (.ref wLETTERS), .val (.int (1 : Int32))] [(.ref wLETTERS)]))
            refine Go.by (fun _ => XS.iloadN X17.here hx rfl (hb hby at_141) rfl) ?_
            show Go p e below P (T17.setTop (mkF m 142 #[.val (.int p0), .val (.int p1), .val (.int (1 : Int32)), .val (.int c), .val (.int dx), .val (.int (0 : Int32)), .val (.int lx), .val (.int (1 : Int32)), .val (.ref wLETTERS), .val (.int (1 : Int32))] [(.int c), (.ref wLETTERS)]))
            obtain ⟨cq18, kq18, qa18, qb18, qc18⟩ := isOf hZ e17 (G7.ext O0.2)
            obtain ⟨_, _, ⟨T18, L18, k18, n18⟩, -, X18, ⟨Lc18, hQ18, l18, y18, z18⟩, st18⟩ := X17.virtualBack hx (y := (⟨"com/example/kontoform/kontoform/CharacterClass", "admits", "(C)Z"⟩ : MethodName)) (z := (⟨"com/example/kontoform/kontoform/CharacterClass", "admits", "(C)Z"⟩ : MethodName)) hown (mvT hZ (hw _ (List.mem_of_getElem? (i := 5) rfl))) (mvT hZ (hw _ (List.mem_of_getElem? (i := 6) rfl))) (notFace_of_selects (args := #[]) (mvT hZ (hw _ (List.mem_of_getElem? (i := 8) rfl)))) (mvT hZ (hw _ (List.mem_of_getElem? (i := 8) rfl))) (mvT hZ (hw _ (List.mem_of_getElem? (i := 7) rfl))) (by decide) (backOf (W := 0) (rm_adm1 l Z a0 hw [] wDIGITS wALPHANUMERIC wLETTERS hG c ((1 : Int32)) h0 n0 Z0 O0  (own_in65 c hl)) hZ (hw _ (List.mem_of_getElem? (i := 9) rfl)) (hw _ (List.mem_of_getElem? (i := 3) rfl)) (Nat.le_of_ble_eq_true rfl) (Nat.le_of_ble_eq_true rfl)) qa18 qc18 (g := (mkF m 142 #[.val (.int p0), .val (.int p1), .val (.int (1 : Int32)), .val (.int c), .val (.int dx), .val (.int (0 : Int32)), .val (.int lx), .val (.int (1 : Int32)), .val (.ref wLETTERS), .val (.int (1 : Int32))] [(.int c), (.ref wLETTERS)])) rfl (by rw [hml]; rfl) (Steps.refl _) (argsL := [(.int c)]) (rest := []) (lenOf pd_1 rfl) rfl (by show 2 * 0 + _ ≤ _; exact Nat.le_of_eq rfl) (hb hby at_142) (fun _ _ => ⟨rfl, e17, (Nat.le_of_ble_eq_true rfl : 0 + 0 ≤ _), (Nat.le_of_ble_eq_true rfl : 0 + 0 ≤ _)⟩)
            dsimp only [Pt.U, Pt.locs, Pt.cells, Pt.slots] at X18 l18 y18 z18 st18 hQ18
            subst l18 y18 z18
            obtain ⟨rfl, Nq18, eq18⟩ := hQ18
            have N18 := Fr.app N0 Nq18
            refine Go.by (fun _ k => st18.trans k) ?_
            show Go p e below P (T18.setTop (mkF m 145 #[.val (.int p0), .val (.int p1), .val (.int (1 : Int32)), .val (.int c), .val (.int dx), .val (.int (0 : Int32)), .val (.int lx), .val (.int (1 : Int32)), .val (.ref wLETTERS), .val (.int (1 : Int32))] [(.int (1 : Int32))]))
            refine Go.by (fun _ => XS.iload X18.here hx rfl (hb hby at_145) rfl) ?_
            show Go p e below P (T18.setTop (mkF m 147 #[.val (.int p0), .val (.int p1), .val (.int (1 : Int32)), .val (.int c), .val (.int dx), .val (.int (0 : Int32)), .val (.int lx), .val (.int (1 : Int32)), .val (.ref wLETTERS), .val (.int (1 : Int32))] [(.int (1 : Int32)), (.int (1 : Int32))]))
            have hc147 : (1 : Int32) = (1 : Int32) := by decide
            refine Go.by (fun _ => XS.icmpNo X18.here hx rfl (hb hby at_147) rfl (teq hc147).2) ?_
            show Go p e below P (T18.setTop (mkF m 150 #[.val (.int p0), .val (.int p1), .val (.int (1 : Int32)), .val (.int c), .val (.int dx), .val (.int (0 : Int32)), .val (.int lx), .val (.int (1 : Int32)), .val (.ref wLETTERS), .val (.int (1 : Int32))] []))
            refine Go.by (fun _ => XS.iconst X18.here hx rfl (hb hby at_150)) ?_
            show Go p e below P (T18.setTop (mkF m 151 #[.val (.int p0), .val (.int p1), .val (.int (1 : Int32)), .val (.int c), .val (.int dx), .val (.int (0 : Int32)), .val (.int lx), .val (.int (1 : Int32)), .val (.ref wLETTERS), .val (.int (1 : Int32))] [(.int (1 : Int32))]))
            refine Go.by (fun _ => XS.goto X18.here hx rfl (pc0 := 151) (pc' := 155) rfl (hb hby at_151) (by decide) (by decide)) ?_
            show Go p e below P (T18.setTop (mkF m 155 #[.val (.int p0), .val (.int p1), .val (.int (1 : Int32)), .val (.int c), .val (.int dx), .val (.int (0 : Int32)), .val (.int lx), .val (.int (1 : Int32)), .val (.ref wLETTERS), .val (.int (1 : Int32))] [(.int (1 : Int32))]))
            subst hP
            refine Go.retZ X18 hx (t := .boolean) Bd.returns (by simp) hlk (hb hby at_155) (Nat.le_of_ble_eq_true rfl) (Nat.le_of_ble_eq_true rfl) ?_
            rw [eq18]
            exact ⟨rfl, N18⟩
          · refine Go.by (fun _ => XS.ifNo X0.here hx rfl (hb hby at_42) rfl ((if0 _ _).trans (flt hc42).1)) ?_
            show Go p e below P (s₁.setTop (mkF m 45 #[.val (.int p0), .val (.int p1), .val (.int (1 : Int32)), .val (.int c), .val (.int dx), .unset, .unset, .unset, .unset, .unset] []))
            refine Go.by (fun _ => XS.iload X0.here hx rfl (hb hby at_45) rfl) ?_
            show Go p e below P (s₁.setTop (mkF m 47 #[.val (.int p0), .val (.int p1), .val (.int (1 : Int32)), .val (.int c), .val (.int dx), .unset, .unset, .unset, .unset, .unset] [(.int dx)]))
            refine Go.by (fun _ => XS.bipush X0.here hx rfl (hb hby at_47)) ?_
            show Go p e below P (s₁.setTop (mkF m 49 #[.val (.int p0), .val (.int p1), .val (.int (1 : Int32)), .val (.int c), .val (.int dx), .unset, .unset, .unset, .unset, .unset] [(.int (10 : Int32)), (.int dx)]))
            have hc49 : ¬ (dx < (10 : Int32)) := (fun q => by have q0 := own_sub c 48 hj (by decide); have q1 := congrArg Int32.toInt hv_dx; have k48 : (48 : Int32).toInt = 48 := rfl; have q3 := hc42; rw [Int32.lt_iff_toInt_lt] at q3; have k0 : (0 : Int32).toInt = 0 := rfl; have l_10 : (10 : Int32).toInt = 10 := rfl; rw [Int32.lt_iff_toInt_lt] at q; omega)
            refine Go.by (fun _ => XS.icmpYes X0.here hx rfl (pc0 := 49) (pc' := 56) rfl (hb hby at_49) rfl (flt hc49).2.1 (by decide) (by decide)) ?_
            show Go p e below P (s₁.setTop (mkF m 56 #[.val (.int p0), .val (.int p1), .val (.int (1 : Int32)), .val (.int c), .val (.int dx), .unset, .unset, .unset, .unset, .unset] []))
            refine Go.by (fun _ => XS.iconst X0.here hx rfl (hb hby at_56)) ?_
            show Go p e below P (s₁.setTop (mkF m 57 #[.val (.int p0), .val (.int p1), .val (.int (1 : Int32)), .val (.int c), .val (.int dx), .unset, .unset, .unset, .unset, .unset] [(.int (0 : Int32))]))
            refine Go.by (fun _ => XS.istore X0.here hx rfl (hb hby at_57) rfl (l' := #[.val (.int p0), .val (.int p1), .val (.int (1 : Int32)), .val (.int c), .val (.int dx), .val (.int (0 : Int32)), .unset, .unset, .unset, .unset]) rfl) ?_
            show Go p e below P (s₁.setTop (mkF m 59 #[.val (.int p0), .val (.int p1), .val (.int (1 : Int32)), .val (.int c), .val (.int dx), .val (.int (0 : Int32)), .unset, .unset, .unset, .unset] []))
            refine Go.by (fun _ => XS.iloadN X0.here hx rfl (hb hby at_59) rfl) ?_
            show Go p e below P (s₁.setTop (mkF m 60 #[.val (.int p0), .val (.int p1), .val (.int (1 : Int32)), .val (.int c), .val (.int dx), .val (.int (0 : Int32)), .unset, .unset, .unset, .unset] [(.int c)]))
            refine Go.by (fun _ => XS.bipush X0.here hx rfl (hb hby at_60)) ?_
            show Go p e below P (s₁.setTop (mkF m 62 #[.val (.int p0), .val (.int p1), .val (.int (1 : Int32)), .val (.int c), .val (.int dx), .val (.int (0 : Int32)), .unset, .unset, .unset, .unset] [(.int (65 : Int32)), (.int c)]))
            refine Go.by (fun _ => XS.isub X0.here hx rfl (hb hby at_62) rfl) ?_
            show Go p e below P (s₁.setTop (mkF m 63 #[.val (.int p0), .val (.int p1), .val (.int (1 : Int32)), .val (.int c), .val (.int dx), .val (.int (0 : Int32)), .unset, .unset, .unset, .unset] [(.int (c - (65 : Int32)))]))
            generalize hv_lx : (c - (65 : Int32)) = lx
            refine Go.by (fun _ => XS.istore X0.here hx rfl (hb hby at_63) rfl (l' := #[.val (.int p0), .val (.int p1), .val (.int (1 : Int32)), .val (.int c), .val (.int dx), .val (.int (0 : Int32)), .val (.int lx), .unset, .unset, .unset]) rfl) ?_
            show Go p e below P (s₁.setTop (mkF m 65 #[.val (.int p0), .val (.int p1), .val (.int (1 : Int32)), .val (.int c), .val (.int dx), .val (.int (0 : Int32)), .val (.int lx), .unset, .unset, .unset] []))
            refine Go.by (fun _ => XS.iload X0.here hx rfl (hb hby at_65) rfl) ?_
            show Go p e below P (s₁.setTop (mkF m 67 #[.val (.int p0), .val (.int p1), .val (.int (1 : Int32)), .val (.int c), .val (.int dx), .val (.int (0 : Int32)), .val (.int lx), .unset, .unset, .unset] [(.int lx)]))
            have hc67 : ¬ (lx < (0 : Int32)) := (fun q => by have q0 := own_sub c 65 hj (by decide); have q1 := congrArg Int32.toInt hv_lx; have k65 : (65 : Int32).toInt = 65 := rfl; have l_0 : (0 : Int32).toInt = 0 := rfl; rw [Int32.lt_iff_toInt_lt] at q; omega)
            refine Go.by (fun _ => XS.ifNo X0.here hx rfl (hb hby at_67) rfl ((if0 _ _).trans (flt hc67).1)) ?_
            show Go p e below P (s₁.setTop (mkF m 70 #[.val (.int p0), .val (.int p1), .val (.int (1 : Int32)), .val (.int c), .val (.int dx), .val (.int (0 : Int32)), .val (.int lx), .unset, .unset, .unset] []))
            refine Go.by (fun _ => XS.iload X0.here hx rfl (hb hby at_70) rfl) ?_
            show Go p e below P (s₁.setTop (mkF m 72 #[.val (.int p0), .val (.int p1), .val (.int (1 : Int32)), .val (.int c), .val (.int dx), .val (.int (0 : Int32)), .val (.int lx), .unset, .unset, .unset] [(.int lx)]))
            refine Go.by (fun _ => XS.bipush X0.here hx rfl (hb hby at_72)) ?_
            show Go p e below P (s₁.setTop (mkF m 74 #[.val (.int p0), .val (.int p1), .val (.int (1 : Int32)), .val (.int c), .val (.int dx), .val (.int (0 : Int32)), .val (.int lx), .unset, .unset, .unset] [(.int (26 : Int32)), (.int lx)]))
            have hc74 : lx < (26 : Int32) := (by have q0 := own_sub c 65 hj (by decide); have q1 := congrArg Int32.toInt hv_lx; have k65 : (65 : Int32).toInt = 65 := rfl; have l_26 : (26 : Int32).toInt = 26 := rfl; rw [Int32.lt_iff_toInt_lt]; omega)
            refine Go.by (fun _ => XS.icmpNo X0.here hx rfl (hb hby at_74) rfl (tlt hc74).2.1) ?_
            show Go p e below P (s₁.setTop (mkF m 77 #[.val (.int p0), .val (.int p1), .val (.int (1 : Int32)), .val (.int c), .val (.int dx), .val (.int (0 : Int32)), .val (.int lx), .unset, .unset, .unset] []))
            refine Go.by (fun _ => XS.iconst X0.here hx rfl (hb hby at_77)) ?_
            show Go p e below P (s₁.setTop (mkF m 78 #[.val (.int p0), .val (.int p1), .val (.int (1 : Int32)), .val (.int c), .val (.int dx), .val (.int (0 : Int32)), .val (.int lx), .unset, .unset, .unset] [(.int (1 : Int32))]))
            refine Go.by (fun _ => XS.goto X0.here hx rfl (pc0 := 78) (pc' := 82) rfl (hb hby at_78) (by decide) (by decide)) ?_
            show Go p e below P (s₁.setTop (mkF m 82 #[.val (.int p0), .val (.int p1), .val (.int (1 : Int32)), .val (.int c), .val (.int dx), .val (.int (0 : Int32)), .val (.int lx), .unset, .unset, .unset] [(.int (1 : Int32))]))
            refine Go.by (fun _ => XS.istore X0.here hx rfl (hb hby at_82) rfl (l' := #[.val (.int p0), .val (.int p1), .val (.int (1 : Int32)), .val (.int c), .val (.int dx), .val (.int (0 : Int32)), .val (.int lx), .val (.int (1 : Int32)), .unset, .unset]) rfl) ?_
            show Go p e below P (s₁.setTop (mkF m 84 #[.val (.int p0), .val (.int p1), .val (.int (1 : Int32)), .val (.int c), .val (.int dx), .val (.int (0 : Int32)), .val (.int lx), .val (.int (1 : Int32)), .unset, .unset] []))
            refine Go.by (fun _ => XS.iloadN X0.here hx rfl (hb hby at_84) rfl) ?_
            show Go p e below P (s₁.setTop (mkF m 85 #[.val (.int p0), .val (.int p1), .val (.int (1 : Int32)), .val (.int c), .val (.int dx), .val (.int (0 : Int32)), .val (.int lx), .val (.int (1 : Int32)), .unset, .unset] [(.int (1 : Int32))]))
            have hc85 : ¬ ((1 : Int32) = (0 : Int32)) := by decide
            refine Go.by (fun _ => XS.ifYes X0.here hx rfl (pc0 := 85) (pc' := 100) rfl (hb hby at_85) rfl ((if0 _ _).trans (feq hc85).2) (by decide) (by decide)) ?_
            show Go p e below P (s₁.setTop (mkF m 100 #[.val (.int p0), .val (.int p1), .val (.int (1 : Int32)), .val (.int c), .val (.int dx), .val (.int (0 : Int32)), .val (.int lx), .val (.int (1 : Int32)), .unset, .unset] []))
            refine Go.by (fun _ => XS.iloadN X0.here hx rfl (hb hby at_100) rfl) ?_
            show Go p e below P (s₁.setTop (mkF m 101 #[.val (.int p0), .val (.int p1), .val (.int (1 : Int32)), .val (.int c), .val (.int dx), .val (.int (0 : Int32)), .val (.int lx), .val (.int (1 : Int32)), .unset, .unset] [(.int (1 : Int32))]))
            refine Go.by (fun _ => XS.iconst X0.here hx rfl (hb hby at_101)) ?_
            show Go p e below P (s₁.setTop (mkF m 102 #[.val (.int p0), .val (.int p1), .val (.int (1 : Int32)), .val (.int c), .val (.int dx), .val (.int (0 : Int32)), .val (.int lx), .val (.int (1 : Int32)), .unset, .unset] [(.int (1 : Int32)), (.int (1 : Int32))]))
            have hc102 : (1 : Int32) = (1 : Int32) := by decide
            refine Go.by (fun _ => XS.icmpNo X0.here hx rfl (hb hby at_102) rfl (teq hc102).2) ?_
            show Go p e below P (s₁.setTop (mkF m 105 #[.val (.int p0), .val (.int p1), .val (.int (1 : Int32)), .val (.int c), .val (.int dx), .val (.int (0 : Int32)), .val (.int lx), .val (.int (1 : Int32)), .unset, .unset] []))
            obtain ⟨T19, X19, e19, st19⟩ := getS2 X0 hx hZ hown (host := "") (Or.inl (hw _ (List.mem_of_getElem? (i := 25) rfl))) Via.refl e0 (G6.ext O0.2) (g := (mkF m 105 #[.val (.int p0), .val (.int p1), .val (.int (1 : Int32)), .val (.int c), .val (.int dx), .val (.int (0 : Int32)), .val (.int lx), .val (.int (1 : Int32)), .unset, .unset] [])) rfl (hb hby at_105)
            refine Go.by (fun _ => st19 _) ?_
            show Go p e below P (T19.setTop (mkF m 108 #[.val (.int p0), .val (.int p1), .val (.int (1 : Int32)), .val (.int c), .val (.int dx), .val (.int (0 : Int32)), .val (.int lx), .val (.int (1 : Int32)), .unset, .unset] [(.ref wLETTERS)]))
            refine Go.by (fun _ => XS.astore X19.here hx rfl (hb hby at_108) rfl rfl (l' := #[.val (.int p0), .val (.int p1), .val (.int (1 : Int32)), .val (.int c), .val (.int dx), .val (.int (0 : Int32)), .val (.int lx), .val (.int (1 : Int32)), .val (.ref wLETTERS), .unset]) rfl) ?_
            show Go p e below P (T19.setTop (mkF m 110 #[.val (.int p0), .val (.int p1), .val (.int (1 : Int32)), .val (.int c), .val (.int dx), .val (.int (0 : Int32)), .val (.int lx), .val (.int (1 : Int32)), .val (.ref wLETTERS), .unset] []))
            refine Go.by (fun _ => XS.iload X19.here hx rfl (hb hby at_110) rfl) ?_
            show Go p e below P (T19.setTop (mkF m 112 #[.val (.int p0), .val (.int p1), .val (.int (1 : Int32)), .val (.int c), .val (.int dx), .val (.int (0 : Int32)), .val (.int lx), .val (.int (1 : Int32)), .val (.ref wLETTERS), .unset] [(.int (1 : Int32))]))
            refine Go.by (fun _ => XS.istore X19.here hx rfl (hb hby at_112) rfl (l' := #[.val (.int p0), .val (.int p1), .val (.int (1 : Int32)), .val (.int c), .val (.int dx), .val (.int (0 : Int32)), .val (.int lx), .val (.int (1 : Int32)), .val (.ref wLETTERS), .val (.int (1 : Int32))]) rfl) ?_
            show Go p e below P (T19.setTop (mkF m 114 #[.val (.int p0), .val (.int p1), .val (.int (1 : Int32)), .val (.int c), .val (.int dx), .val (.int (0 : Int32)), .val (.int lx), .val (.int (1 : Int32)), .val (.ref wLETTERS), .val (.int (1 : Int32))] []))
            refine Go.by (fun _ => XS.goto X19.here hx rfl (pc0 := 114) (pc' := 139) rfl (hb hby at_114) (by decide) (by decide)) ?_
            show Go p e below P (T19.setTop (mkF m 139 #[.val (.int p0), .val (.int p1), .val (.int (1 : Int32)), .val (.int c), .val (.int dx), .val (.int (0 : Int32)), .val (.int lx), .val (.int (1 : Int32)), .val (.ref wLETTERS), .val (.int (1 : Int32))] []))
            refine Go.by (fun _ => XS.aload X19.here hx rfl (hb hby at_139) rfl rfl) ?_
            show Go p e below P (T19.setTop (mkF m 141 #[.val (.int p0), .val (.int p1), .val (.int (1 : Int32)), .val (.int c), .val (.int dx), .val (.int (0 : Int32)), .val (.int lx), .val (.int (1 : Int32)), .val (.ref wLETTERS), .val (.int (1 : Int32))] [(.ref wLETTERS)]))
            refine Go.by (fun _ => XS.iloadN X19.here hx rfl (hb hby at_141) rfl) ?_
            show Go p e below P (T19.setTop (mkF m 142 #[.val (.int p0), .val (.int p1), .val (.int (1 : Int32)), .val (.int c), .val (.int dx), .val (.int (0 : Int32)), .val (.int lx), .val (.int (1 : Int32)), .val (.ref wLETTERS), .val (.int (1 : Int32))] [(.int c), (.ref wLETTERS)]))
            obtain ⟨cq20, kq20, qa20, qb20, qc20⟩ := isOf hZ e19 (G7.ext O0.2)
            obtain ⟨_, _, ⟨T20, L20, k20, n20⟩, -, X20, ⟨Lc20, hQ20, l20, y20, z20⟩, st20⟩ := X19.virtualBack hx (y := (⟨"com/example/kontoform/kontoform/CharacterClass", "admits", "(C)Z"⟩ : MethodName)) (z := (⟨"com/example/kontoform/kontoform/CharacterClass", "admits", "(C)Z"⟩ : MethodName)) hown (mvT hZ (hw _ (List.mem_of_getElem? (i := 5) rfl))) (mvT hZ (hw _ (List.mem_of_getElem? (i := 6) rfl))) (notFace_of_selects (args := #[]) (mvT hZ (hw _ (List.mem_of_getElem? (i := 8) rfl)))) (mvT hZ (hw _ (List.mem_of_getElem? (i := 8) rfl))) (mvT hZ (hw _ (List.mem_of_getElem? (i := 7) rfl))) (by decide) (backOf (W := 0) (rm_adm1 l Z a0 hw [] wDIGITS wALPHANUMERIC wLETTERS hG c ((1 : Int32)) h0 n0 Z0 O0  (own_in65 c hl)) hZ (hw _ (List.mem_of_getElem? (i := 9) rfl)) (hw _ (List.mem_of_getElem? (i := 3) rfl)) (Nat.le_of_ble_eq_true rfl) (Nat.le_of_ble_eq_true rfl)) qa20 qc20 (g := (mkF m 142 #[.val (.int p0), .val (.int p1), .val (.int (1 : Int32)), .val (.int c), .val (.int dx), .val (.int (0 : Int32)), .val (.int lx), .val (.int (1 : Int32)), .val (.ref wLETTERS), .val (.int (1 : Int32))] [(.int c), (.ref wLETTERS)])) rfl (by rw [hml]; rfl) (Steps.refl _) (argsL := [(.int c)]) (rest := []) (lenOf pd_1 rfl) rfl (by show 2 * 0 + _ ≤ _; exact Nat.le_of_eq rfl) (hb hby at_142) (fun _ _ => ⟨rfl, e19, (Nat.le_of_ble_eq_true rfl : 0 + 0 ≤ _), (Nat.le_of_ble_eq_true rfl : 0 + 0 ≤ _)⟩)
            dsimp only [Pt.U, Pt.locs, Pt.cells, Pt.slots] at X20 l20 y20 z20 st20 hQ20
            subst l20 y20 z20
            obtain ⟨rfl, Nq20, eq20⟩ := hQ20
            have N20 := Fr.app N0 Nq20
            refine Go.by (fun _ k => st20.trans k) ?_
            show Go p e below P (T20.setTop (mkF m 145 #[.val (.int p0), .val (.int p1), .val (.int (1 : Int32)), .val (.int c), .val (.int dx), .val (.int (0 : Int32)), .val (.int lx), .val (.int (1 : Int32)), .val (.ref wLETTERS), .val (.int (1 : Int32))] [(.int (1 : Int32))]))
            refine Go.by (fun _ => XS.iload X20.here hx rfl (hb hby at_145) rfl) ?_
            show Go p e below P (T20.setTop (mkF m 147 #[.val (.int p0), .val (.int p1), .val (.int (1 : Int32)), .val (.int c), .val (.int dx), .val (.int (0 : Int32)), .val (.int lx), .val (.int (1 : Int32)), .val (.ref wLETTERS), .val (.int (1 : Int32))] [(.int (1 : Int32)), (.int (1 : Int32))]))
            have hc147 : (1 : Int32) = (1 : Int32) := by decide
            refine Go.by (fun _ => XS.icmpNo X20.here hx rfl (hb hby at_147) rfl (teq hc147).2) ?_
            show Go p e below P (T20.setTop (mkF m 150 #[.val (.int p0), .val (.int p1), .val (.int (1 : Int32)), .val (.int c), .val (.int dx), .val (.int (0 : Int32)), .val (.int lx), .val (.int (1 : Int32)), .val (.ref wLETTERS), .val (.int (1 : Int32))] []))
            refine Go.by (fun _ => XS.iconst X20.here hx rfl (hb hby at_150)) ?_
            show Go p e below P (T20.setTop (mkF m 151 #[.val (.int p0), .val (.int p1), .val (.int (1 : Int32)), .val (.int c), .val (.int dx), .val (.int (0 : Int32)), .val (.int lx), .val (.int (1 : Int32)), .val (.ref wLETTERS), .val (.int (1 : Int32))] [(.int (1 : Int32))]))
            refine Go.by (fun _ => XS.goto X20.here hx rfl (pc0 := 151) (pc' := 155) rfl (hb hby at_151) (by decide) (by decide)) ?_
            show Go p e below P (T20.setTop (mkF m 155 #[.val (.int p0), .val (.int p1), .val (.int (1 : Int32)), .val (.int c), .val (.int dx), .val (.int (0 : Int32)), .val (.int lx), .val (.int (1 : Int32)), .val (.ref wLETTERS), .val (.int (1 : Int32))] [(.int (1 : Int32))]))
            subst hP
            refine Go.retZ X20 hx (t := .boolean) Bd.returns (by simp) hlk (hb hby at_155) (Nat.le_of_ble_eq_true rfl) (Nat.le_of_ble_eq_true rfl) ?_
            rw [eq20]
            exact ⟨rfl, N20⟩
        · show Go p e below P (s₁.setTop (mkF m 34 #[.val (.int p0), .val (.int p1), .val (.int (2 : Int32)), .val (.int c), .unset, .unset, .unset, .unset, .unset, .unset] []))
          refine Go.by (fun _ => XS.iloadN X0.here hx rfl (hb hby at_34) rfl) ?_
          show Go p e below P (s₁.setTop (mkF m 35 #[.val (.int p0), .val (.int p1), .val (.int (2 : Int32)), .val (.int c), .unset, .unset, .unset, .unset, .unset, .unset] [(.int c)]))
          refine Go.by (fun _ => XS.bipush X0.here hx rfl (hb hby at_35)) ?_
          show Go p e below P (s₁.setTop (mkF m 37 #[.val (.int p0), .val (.int p1), .val (.int (2 : Int32)), .val (.int c), .unset, .unset, .unset, .unset, .unset, .unset] [(.int (48 : Int32)), (.int c)]))
          refine Go.by (fun _ => XS.isub X0.here hx rfl (hb hby at_37) rfl) ?_
          show Go p e below P (s₁.setTop (mkF m 38 #[.val (.int p0), .val (.int p1), .val (.int (2 : Int32)), .val (.int c), .unset, .unset, .unset, .unset, .unset, .unset] [(.int (c - (48 : Int32)))]))
          generalize hv_dx : (c - (48 : Int32)) = dx
          refine Go.by (fun _ => XS.istore X0.here hx rfl (hb hby at_38) rfl (l' := #[.val (.int p0), .val (.int p1), .val (.int (2 : Int32)), .val (.int c), .val (.int dx), .unset, .unset, .unset, .unset, .unset]) rfl) ?_
          show Go p e below P (s₁.setTop (mkF m 40 #[.val (.int p0), .val (.int p1), .val (.int (2 : Int32)), .val (.int c), .val (.int dx), .unset, .unset, .unset, .unset, .unset] []))
          refine Go.by (fun _ => XS.iload X0.here hx rfl (hb hby at_40) rfl) ?_
          show Go p e below P (s₁.setTop (mkF m 42 #[.val (.int p0), .val (.int p1), .val (.int (2 : Int32)), .val (.int c), .val (.int dx), .unset, .unset, .unset, .unset, .unset] [(.int dx)]))
          by_cases hc42 : dx < (0 : Int32)
          · refine Go.by (fun _ => XS.ifYes X0.here hx rfl (pc0 := 42) (pc' := 56) rfl (hb hby at_42) rfl ((if0 _ _).trans (tlt hc42).1) (by decide) (by decide)) ?_
            show Go p e below P (s₁.setTop (mkF m 56 #[.val (.int p0), .val (.int p1), .val (.int (2 : Int32)), .val (.int c), .val (.int dx), .unset, .unset, .unset, .unset, .unset] []))
            refine Go.by (fun _ => XS.iconst X0.here hx rfl (hb hby at_56)) ?_
            show Go p e below P (s₁.setTop (mkF m 57 #[.val (.int p0), .val (.int p1), .val (.int (2 : Int32)), .val (.int c), .val (.int dx), .unset, .unset, .unset, .unset, .unset] [(.int (0 : Int32))]))
            refine Go.by (fun _ => XS.istore X0.here hx rfl (hb hby at_57) rfl (l' := #[.val (.int p0), .val (.int p1), .val (.int (2 : Int32)), .val (.int c), .val (.int dx), .val (.int (0 : Int32)), .unset, .unset, .unset, .unset]) rfl) ?_
            show Go p e below P (s₁.setTop (mkF m 59 #[.val (.int p0), .val (.int p1), .val (.int (2 : Int32)), .val (.int c), .val (.int dx), .val (.int (0 : Int32)), .unset, .unset, .unset, .unset] []))
            refine Go.by (fun _ => XS.iloadN X0.here hx rfl (hb hby at_59) rfl) ?_
            show Go p e below P (s₁.setTop (mkF m 60 #[.val (.int p0), .val (.int p1), .val (.int (2 : Int32)), .val (.int c), .val (.int dx), .val (.int (0 : Int32)), .unset, .unset, .unset, .unset] [(.int c)]))
            refine Go.by (fun _ => XS.bipush X0.here hx rfl (hb hby at_60)) ?_
            show Go p e below P (s₁.setTop (mkF m 62 #[.val (.int p0), .val (.int p1), .val (.int (2 : Int32)), .val (.int c), .val (.int dx), .val (.int (0 : Int32)), .unset, .unset, .unset, .unset] [(.int (65 : Int32)), (.int c)]))
            refine Go.by (fun _ => XS.isub X0.here hx rfl (hb hby at_62) rfl) ?_
            show Go p e below P (s₁.setTop (mkF m 63 #[.val (.int p0), .val (.int p1), .val (.int (2 : Int32)), .val (.int c), .val (.int dx), .val (.int (0 : Int32)), .unset, .unset, .unset, .unset] [(.int (c - (65 : Int32)))]))
            generalize hv_lx : (c - (65 : Int32)) = lx
            refine Go.by (fun _ => XS.istore X0.here hx rfl (hb hby at_63) rfl (l' := #[.val (.int p0), .val (.int p1), .val (.int (2 : Int32)), .val (.int c), .val (.int dx), .val (.int (0 : Int32)), .val (.int lx), .unset, .unset, .unset]) rfl) ?_
            show Go p e below P (s₁.setTop (mkF m 65 #[.val (.int p0), .val (.int p1), .val (.int (2 : Int32)), .val (.int c), .val (.int dx), .val (.int (0 : Int32)), .val (.int lx), .unset, .unset, .unset] []))
            refine Go.by (fun _ => XS.iload X0.here hx rfl (hb hby at_65) rfl) ?_
            show Go p e below P (s₁.setTop (mkF m 67 #[.val (.int p0), .val (.int p1), .val (.int (2 : Int32)), .val (.int c), .val (.int dx), .val (.int (0 : Int32)), .val (.int lx), .unset, .unset, .unset] [(.int lx)]))
            have hc67 : ¬ (lx < (0 : Int32)) := (fun q => by have q0 := own_sub c 65 hj (by decide); have q1 := congrArg Int32.toInt hv_lx; have k65 : (65 : Int32).toInt = 65 := rfl; have l_0 : (0 : Int32).toInt = 0 := rfl; rw [Int32.lt_iff_toInt_lt] at q; omega)
            refine Go.by (fun _ => XS.ifNo X0.here hx rfl (hb hby at_67) rfl ((if0 _ _).trans (flt hc67).1)) ?_
            show Go p e below P (s₁.setTop (mkF m 70 #[.val (.int p0), .val (.int p1), .val (.int (2 : Int32)), .val (.int c), .val (.int dx), .val (.int (0 : Int32)), .val (.int lx), .unset, .unset, .unset] []))
            refine Go.by (fun _ => XS.iload X0.here hx rfl (hb hby at_70) rfl) ?_
            show Go p e below P (s₁.setTop (mkF m 72 #[.val (.int p0), .val (.int p1), .val (.int (2 : Int32)), .val (.int c), .val (.int dx), .val (.int (0 : Int32)), .val (.int lx), .unset, .unset, .unset] [(.int lx)]))
            refine Go.by (fun _ => XS.bipush X0.here hx rfl (hb hby at_72)) ?_
            show Go p e below P (s₁.setTop (mkF m 74 #[.val (.int p0), .val (.int p1), .val (.int (2 : Int32)), .val (.int c), .val (.int dx), .val (.int (0 : Int32)), .val (.int lx), .unset, .unset, .unset] [(.int (26 : Int32)), (.int lx)]))
            have hc74 : lx < (26 : Int32) := (by have q0 := own_sub c 65 hj (by decide); have q1 := congrArg Int32.toInt hv_lx; have k65 : (65 : Int32).toInt = 65 := rfl; have l_26 : (26 : Int32).toInt = 26 := rfl; rw [Int32.lt_iff_toInt_lt]; omega)
            refine Go.by (fun _ => XS.icmpNo X0.here hx rfl (hb hby at_74) rfl (tlt hc74).2.1) ?_
            show Go p e below P (s₁.setTop (mkF m 77 #[.val (.int p0), .val (.int p1), .val (.int (2 : Int32)), .val (.int c), .val (.int dx), .val (.int (0 : Int32)), .val (.int lx), .unset, .unset, .unset] []))
            refine Go.by (fun _ => XS.iconst X0.here hx rfl (hb hby at_77)) ?_
            show Go p e below P (s₁.setTop (mkF m 78 #[.val (.int p0), .val (.int p1), .val (.int (2 : Int32)), .val (.int c), .val (.int dx), .val (.int (0 : Int32)), .val (.int lx), .unset, .unset, .unset] [(.int (1 : Int32))]))
            refine Go.by (fun _ => XS.goto X0.here hx rfl (pc0 := 78) (pc' := 82) rfl (hb hby at_78) (by decide) (by decide)) ?_
            show Go p e below P (s₁.setTop (mkF m 82 #[.val (.int p0), .val (.int p1), .val (.int (2 : Int32)), .val (.int c), .val (.int dx), .val (.int (0 : Int32)), .val (.int lx), .unset, .unset, .unset] [(.int (1 : Int32))]))
            refine Go.by (fun _ => XS.istore X0.here hx rfl (hb hby at_82) rfl (l' := #[.val (.int p0), .val (.int p1), .val (.int (2 : Int32)), .val (.int c), .val (.int dx), .val (.int (0 : Int32)), .val (.int lx), .val (.int (1 : Int32)), .unset, .unset]) rfl) ?_
            show Go p e below P (s₁.setTop (mkF m 84 #[.val (.int p0), .val (.int p1), .val (.int (2 : Int32)), .val (.int c), .val (.int dx), .val (.int (0 : Int32)), .val (.int lx), .val (.int (1 : Int32)), .unset, .unset] []))
            refine Go.by (fun _ => XS.iloadN X0.here hx rfl (hb hby at_84) rfl) ?_
            show Go p e below P (s₁.setTop (mkF m 85 #[.val (.int p0), .val (.int p1), .val (.int (2 : Int32)), .val (.int c), .val (.int dx), .val (.int (0 : Int32)), .val (.int lx), .val (.int (1 : Int32)), .unset, .unset] [(.int (2 : Int32))]))
            have hc85 : ¬ ((2 : Int32) = (0 : Int32)) := by decide
            refine Go.by (fun _ => XS.ifYes X0.here hx rfl (pc0 := 85) (pc' := 100) rfl (hb hby at_85) rfl ((if0 _ _).trans (feq hc85).2) (by decide) (by decide)) ?_
            show Go p e below P (s₁.setTop (mkF m 100 #[.val (.int p0), .val (.int p1), .val (.int (2 : Int32)), .val (.int c), .val (.int dx), .val (.int (0 : Int32)), .val (.int lx), .val (.int (1 : Int32)), .unset, .unset] []))
            refine Go.by (fun _ => XS.iloadN X0.here hx rfl (hb hby at_100) rfl) ?_
            show Go p e below P (s₁.setTop (mkF m 101 #[.val (.int p0), .val (.int p1), .val (.int (2 : Int32)), .val (.int c), .val (.int dx), .val (.int (0 : Int32)), .val (.int lx), .val (.int (1 : Int32)), .unset, .unset] [(.int (2 : Int32))]))
            refine Go.by (fun _ => XS.iconst X0.here hx rfl (hb hby at_101)) ?_
            show Go p e below P (s₁.setTop (mkF m 102 #[.val (.int p0), .val (.int p1), .val (.int (2 : Int32)), .val (.int c), .val (.int dx), .val (.int (0 : Int32)), .val (.int lx), .val (.int (1 : Int32)), .unset, .unset] [(.int (1 : Int32)), (.int (2 : Int32))]))
            have hc102 : ¬ ((2 : Int32) = (1 : Int32)) := by decide
            refine Go.by (fun _ => XS.icmpYes X0.here hx rfl (pc0 := 102) (pc' := 117) rfl (hb hby at_102) rfl (feq hc102).2 (by decide) (by decide)) ?_
            show Go p e below P (s₁.setTop (mkF m 117 #[.val (.int p0), .val (.int p1), .val (.int (2 : Int32)), .val (.int c), .val (.int dx), .val (.int (0 : Int32)), .val (.int lx), .val (.int (1 : Int32)), .unset, .unset] []))
            obtain ⟨T21, X21, e21, st21⟩ := getS2 X0 hx hZ hown (host := "") (Or.inl (hw _ (List.mem_of_getElem? (i := 19) rfl))) Via.refl e0 (G3.ext O0.2) (g := (mkF m 117 #[.val (.int p0), .val (.int p1), .val (.int (2 : Int32)), .val (.int c), .val (.int dx), .val (.int (0 : Int32)), .val (.int lx), .val (.int (1 : Int32)), .unset, .unset] [])) rfl (hb hby at_117)
            refine Go.by (fun _ => st21 _) ?_
            show Go p e below P (T21.setTop (mkF m 120 #[.val (.int p0), .val (.int p1), .val (.int (2 : Int32)), .val (.int c), .val (.int dx), .val (.int (0 : Int32)), .val (.int lx), .val (.int (1 : Int32)), .unset, .unset] [(.ref wALPHANUMERIC)]))
            refine Go.by (fun _ => XS.astore X21.here hx rfl (hb hby at_120) rfl rfl (l' := #[.val (.int p0), .val (.int p1), .val (.int (2 : Int32)), .val (.int c), .val (.int dx), .val (.int (0 : Int32)), .val (.int lx), .val (.int (1 : Int32)), .val (.ref wALPHANUMERIC), .unset]) rfl) ?_
            show Go p e below P (T21.setTop (mkF m 122 #[.val (.int p0), .val (.int p1), .val (.int (2 : Int32)), .val (.int c), .val (.int dx), .val (.int (0 : Int32)), .val (.int lx), .val (.int (1 : Int32)), .val (.ref wALPHANUMERIC), .unset] []))
            refine Go.by (fun _ => XS.iload X21.here hx rfl (hb hby at_122) rfl) ?_
            show Go p e below P (T21.setTop (mkF m 124 #[.val (.int p0), .val (.int p1), .val (.int (2 : Int32)), .val (.int c), .val (.int dx), .val (.int (0 : Int32)), .val (.int lx), .val (.int (1 : Int32)), .val (.ref wALPHANUMERIC), .unset] [(.int (0 : Int32))]))
            have hc124 : (0 : Int32) = (0 : Int32) := by decide
            refine Go.by (fun _ => XS.ifNo X21.here hx rfl (hb hby at_124) rfl ((if0 _ _).trans (teq hc124).2)) ?_
            show Go p e below P (T21.setTop (mkF m 127 #[.val (.int p0), .val (.int p1), .val (.int (2 : Int32)), .val (.int c), .val (.int dx), .val (.int (0 : Int32)), .val (.int lx), .val (.int (1 : Int32)), .val (.ref wALPHANUMERIC), .unset] []))
            refine Go.by (fun _ => XS.iload X21.here hx rfl (hb hby at_127) rfl) ?_
            show Go p e below P (T21.setTop (mkF m 129 #[.val (.int p0), .val (.int p1), .val (.int (2 : Int32)), .val (.int c), .val (.int dx), .val (.int (0 : Int32)), .val (.int lx), .val (.int (1 : Int32)), .val (.ref wALPHANUMERIC), .unset] [(.int (1 : Int32))]))
            have hc129 : ¬ ((1 : Int32) = (0 : Int32)) := by decide
            refine Go.by (fun _ => XS.ifNo X21.here hx rfl (hb hby at_129) rfl ((if0 _ _).trans (feq hc129).1)) ?_
            show Go p e below P (T21.setTop (mkF m 132 #[.val (.int p0), .val (.int p1), .val (.int (2 : Int32)), .val (.int c), .val (.int dx), .val (.int (0 : Int32)), .val (.int lx), .val (.int (1 : Int32)), .val (.ref wALPHANUMERIC), .unset] []))
            refine Go.by (fun _ => XS.iconst X21.here hx rfl (hb hby at_132)) ?_
            show Go p e below P (T21.setTop (mkF m 133 #[.val (.int p0), .val (.int p1), .val (.int (2 : Int32)), .val (.int c), .val (.int dx), .val (.int (0 : Int32)), .val (.int lx), .val (.int (1 : Int32)), .val (.ref wALPHANUMERIC), .unset] [(.int (1 : Int32))]))
            refine Go.by (fun _ => XS.goto X21.here hx rfl (pc0 := 133) (pc' := 137) rfl (hb hby at_133) (by decide) (by decide)) ?_
            show Go p e below P (T21.setTop (mkF m 137 #[.val (.int p0), .val (.int p1), .val (.int (2 : Int32)), .val (.int c), .val (.int dx), .val (.int (0 : Int32)), .val (.int lx), .val (.int (1 : Int32)), .val (.ref wALPHANUMERIC), .unset] [(.int (1 : Int32))]))
            refine Go.by (fun _ => XS.istore X21.here hx rfl (hb hby at_137) rfl (l' := #[.val (.int p0), .val (.int p1), .val (.int (2 : Int32)), .val (.int c), .val (.int dx), .val (.int (0 : Int32)), .val (.int lx), .val (.int (1 : Int32)), .val (.ref wALPHANUMERIC), .val (.int (1 : Int32))]) rfl) ?_
            show Go p e below P (T21.setTop (mkF m 139 #[.val (.int p0), .val (.int p1), .val (.int (2 : Int32)), .val (.int c), .val (.int dx), .val (.int (0 : Int32)), .val (.int lx), .val (.int (1 : Int32)), .val (.ref wALPHANUMERIC), .val (.int (1 : Int32))] []))
            refine Go.by (fun _ => XS.aload X21.here hx rfl (hb hby at_139) rfl rfl) ?_
            show Go p e below P (T21.setTop (mkF m 141 #[.val (.int p0), .val (.int p1), .val (.int (2 : Int32)), .val (.int c), .val (.int dx), .val (.int (0 : Int32)), .val (.int lx), .val (.int (1 : Int32)), .val (.ref wALPHANUMERIC), .val (.int (1 : Int32))] [(.ref wALPHANUMERIC)]))
            refine Go.by (fun _ => XS.iloadN X21.here hx rfl (hb hby at_141) rfl) ?_
            show Go p e below P (T21.setTop (mkF m 142 #[.val (.int p0), .val (.int p1), .val (.int (2 : Int32)), .val (.int c), .val (.int dx), .val (.int (0 : Int32)), .val (.int lx), .val (.int (1 : Int32)), .val (.ref wALPHANUMERIC), .val (.int (1 : Int32))] [(.int c), (.ref wALPHANUMERIC)]))
            obtain ⟨cq22, kq22, qa22, qb22, qc22⟩ := isOf hZ e21 (G4.ext O0.2)
            obtain ⟨_, _, ⟨T22, L22, k22, n22⟩, -, X22, ⟨Lc22, hQ22, l22, y22, z22⟩, st22⟩ := X21.virtualBack hx (y := (⟨"com/example/kontoform/kontoform/CharacterClass", "admits", "(C)Z"⟩ : MethodName)) (z := (⟨"com/example/kontoform/kontoform/CharacterClass", "admits", "(C)Z"⟩ : MethodName)) hown (mvT hZ (hw _ (List.mem_of_getElem? (i := 5) rfl))) (mvT hZ (hw _ (List.mem_of_getElem? (i := 6) rfl))) (notFace_of_selects (args := #[]) (mvT hZ (hw _ (List.mem_of_getElem? (i := 8) rfl)))) (mvT hZ (hw _ (List.mem_of_getElem? (i := 8) rfl))) (mvT hZ (hw _ (List.mem_of_getElem? (i := 7) rfl))) (by decide) (backOf (W := 0) (rm_adm2 l Z a0 hw [] wDIGITS wALPHANUMERIC wLETTERS hG c ((1 : Int32)) h0 n0 Z0 O0  (own_alpha c (Or.inr hl))) hZ (hw _ (List.mem_of_getElem? (i := 9) rfl)) (hw _ (List.mem_of_getElem? (i := 3) rfl)) (Nat.le_of_ble_eq_true rfl) (Nat.le_of_ble_eq_true rfl)) qa22 qc22 (g := (mkF m 142 #[.val (.int p0), .val (.int p1), .val (.int (2 : Int32)), .val (.int c), .val (.int dx), .val (.int (0 : Int32)), .val (.int lx), .val (.int (1 : Int32)), .val (.ref wALPHANUMERIC), .val (.int (1 : Int32))] [(.int c), (.ref wALPHANUMERIC)])) rfl (by rw [hml]; rfl) (Steps.refl _) (argsL := [(.int c)]) (rest := []) (lenOf pd_1 rfl) rfl (by show 2 * 0 + _ ≤ _; exact Nat.le_of_eq rfl) (hb hby at_142) (fun _ _ => ⟨rfl, e21, (Nat.le_of_ble_eq_true rfl : 0 + 0 ≤ _), (Nat.le_of_ble_eq_true rfl : 0 + 0 ≤ _)⟩)
            dsimp only [Pt.U, Pt.locs, Pt.cells, Pt.slots] at X22 l22 y22 z22 st22 hQ22
            subst l22 y22 z22
            obtain ⟨rfl, Nq22, eq22⟩ := hQ22
            have N22 := Fr.app N0 Nq22
            refine Go.by (fun _ k => st22.trans k) ?_
            show Go p e below P (T22.setTop (mkF m 145 #[.val (.int p0), .val (.int p1), .val (.int (2 : Int32)), .val (.int c), .val (.int dx), .val (.int (0 : Int32)), .val (.int lx), .val (.int (1 : Int32)), .val (.ref wALPHANUMERIC), .val (.int (1 : Int32))] [(.int (1 : Int32))]))
            refine Go.by (fun _ => XS.iload X22.here hx rfl (hb hby at_145) rfl) ?_
            show Go p e below P (T22.setTop (mkF m 147 #[.val (.int p0), .val (.int p1), .val (.int (2 : Int32)), .val (.int c), .val (.int dx), .val (.int (0 : Int32)), .val (.int lx), .val (.int (1 : Int32)), .val (.ref wALPHANUMERIC), .val (.int (1 : Int32))] [(.int (1 : Int32)), (.int (1 : Int32))]))
            have hc147 : (1 : Int32) = (1 : Int32) := by decide
            refine Go.by (fun _ => XS.icmpNo X22.here hx rfl (hb hby at_147) rfl (teq hc147).2) ?_
            show Go p e below P (T22.setTop (mkF m 150 #[.val (.int p0), .val (.int p1), .val (.int (2 : Int32)), .val (.int c), .val (.int dx), .val (.int (0 : Int32)), .val (.int lx), .val (.int (1 : Int32)), .val (.ref wALPHANUMERIC), .val (.int (1 : Int32))] []))
            refine Go.by (fun _ => XS.iconst X22.here hx rfl (hb hby at_150)) ?_
            show Go p e below P (T22.setTop (mkF m 151 #[.val (.int p0), .val (.int p1), .val (.int (2 : Int32)), .val (.int c), .val (.int dx), .val (.int (0 : Int32)), .val (.int lx), .val (.int (1 : Int32)), .val (.ref wALPHANUMERIC), .val (.int (1 : Int32))] [(.int (1 : Int32))]))
            refine Go.by (fun _ => XS.goto X22.here hx rfl (pc0 := 151) (pc' := 155) rfl (hb hby at_151) (by decide) (by decide)) ?_
            show Go p e below P (T22.setTop (mkF m 155 #[.val (.int p0), .val (.int p1), .val (.int (2 : Int32)), .val (.int c), .val (.int dx), .val (.int (0 : Int32)), .val (.int lx), .val (.int (1 : Int32)), .val (.ref wALPHANUMERIC), .val (.int (1 : Int32))] [(.int (1 : Int32))]))
            subst hP
            refine Go.retZ X22 hx (t := .boolean) Bd.returns (by simp) hlk (hb hby at_155) (Nat.le_of_ble_eq_true rfl) (Nat.le_of_ble_eq_true rfl) ?_
            rw [eq22]
            exact ⟨rfl, N22⟩
          · refine Go.by (fun _ => XS.ifNo X0.here hx rfl (hb hby at_42) rfl ((if0 _ _).trans (flt hc42).1)) ?_
            show Go p e below P (s₁.setTop (mkF m 45 #[.val (.int p0), .val (.int p1), .val (.int (2 : Int32)), .val (.int c), .val (.int dx), .unset, .unset, .unset, .unset, .unset] []))
            refine Go.by (fun _ => XS.iload X0.here hx rfl (hb hby at_45) rfl) ?_
            show Go p e below P (s₁.setTop (mkF m 47 #[.val (.int p0), .val (.int p1), .val (.int (2 : Int32)), .val (.int c), .val (.int dx), .unset, .unset, .unset, .unset, .unset] [(.int dx)]))
            refine Go.by (fun _ => XS.bipush X0.here hx rfl (hb hby at_47)) ?_
            show Go p e below P (s₁.setTop (mkF m 49 #[.val (.int p0), .val (.int p1), .val (.int (2 : Int32)), .val (.int c), .val (.int dx), .unset, .unset, .unset, .unset, .unset] [(.int (10 : Int32)), (.int dx)]))
            have hc49 : ¬ (dx < (10 : Int32)) := (fun q => by have q0 := own_sub c 48 hj (by decide); have q1 := congrArg Int32.toInt hv_dx; have k48 : (48 : Int32).toInt = 48 := rfl; have q3 := hc42; rw [Int32.lt_iff_toInt_lt] at q3; have k0 : (0 : Int32).toInt = 0 := rfl; have l_10 : (10 : Int32).toInt = 10 := rfl; rw [Int32.lt_iff_toInt_lt] at q; omega)
            refine Go.by (fun _ => XS.icmpYes X0.here hx rfl (pc0 := 49) (pc' := 56) rfl (hb hby at_49) rfl (flt hc49).2.1 (by decide) (by decide)) ?_
            show Go p e below P (s₁.setTop (mkF m 56 #[.val (.int p0), .val (.int p1), .val (.int (2 : Int32)), .val (.int c), .val (.int dx), .unset, .unset, .unset, .unset, .unset] []))
            refine Go.by (fun _ => XS.iconst X0.here hx rfl (hb hby at_56)) ?_
            show Go p e below P (s₁.setTop (mkF m 57 #[.val (.int p0), .val (.int p1), .val (.int (2 : Int32)), .val (.int c), .val (.int dx), .unset, .unset, .unset, .unset, .unset] [(.int (0 : Int32))]))
            refine Go.by (fun _ => XS.istore X0.here hx rfl (hb hby at_57) rfl (l' := #[.val (.int p0), .val (.int p1), .val (.int (2 : Int32)), .val (.int c), .val (.int dx), .val (.int (0 : Int32)), .unset, .unset, .unset, .unset]) rfl) ?_
            show Go p e below P (s₁.setTop (mkF m 59 #[.val (.int p0), .val (.int p1), .val (.int (2 : Int32)), .val (.int c), .val (.int dx), .val (.int (0 : Int32)), .unset, .unset, .unset, .unset] []))
            refine Go.by (fun _ => XS.iloadN X0.here hx rfl (hb hby at_59) rfl) ?_
            show Go p e below P (s₁.setTop (mkF m 60 #[.val (.int p0), .val (.int p1), .val (.int (2 : Int32)), .val (.int c), .val (.int dx), .val (.int (0 : Int32)), .unset, .unset, .unset, .unset] [(.int c)]))
            refine Go.by (fun _ => XS.bipush X0.here hx rfl (hb hby at_60)) ?_
            show Go p e below P (s₁.setTop (mkF m 62 #[.val (.int p0), .val (.int p1), .val (.int (2 : Int32)), .val (.int c), .val (.int dx), .val (.int (0 : Int32)), .unset, .unset, .unset, .unset] [(.int (65 : Int32)), (.int c)]))
            refine Go.by (fun _ => XS.isub X0.here hx rfl (hb hby at_62) rfl) ?_
            show Go p e below P (s₁.setTop (mkF m 63 #[.val (.int p0), .val (.int p1), .val (.int (2 : Int32)), .val (.int c), .val (.int dx), .val (.int (0 : Int32)), .unset, .unset, .unset, .unset] [(.int (c - (65 : Int32)))]))
            generalize hv_lx : (c - (65 : Int32)) = lx
            refine Go.by (fun _ => XS.istore X0.here hx rfl (hb hby at_63) rfl (l' := #[.val (.int p0), .val (.int p1), .val (.int (2 : Int32)), .val (.int c), .val (.int dx), .val (.int (0 : Int32)), .val (.int lx), .unset, .unset, .unset]) rfl) ?_
            show Go p e below P (s₁.setTop (mkF m 65 #[.val (.int p0), .val (.int p1), .val (.int (2 : Int32)), .val (.int c), .val (.int dx), .val (.int (0 : Int32)), .val (.int lx), .unset, .unset, .unset] []))
            refine Go.by (fun _ => XS.iload X0.here hx rfl (hb hby at_65) rfl) ?_
            show Go p e below P (s₁.setTop (mkF m 67 #[.val (.int p0), .val (.int p1), .val (.int (2 : Int32)), .val (.int c), .val (.int dx), .val (.int (0 : Int32)), .val (.int lx), .unset, .unset, .unset] [(.int lx)]))
            have hc67 : ¬ (lx < (0 : Int32)) := (fun q => by have q0 := own_sub c 65 hj (by decide); have q1 := congrArg Int32.toInt hv_lx; have k65 : (65 : Int32).toInt = 65 := rfl; have l_0 : (0 : Int32).toInt = 0 := rfl; rw [Int32.lt_iff_toInt_lt] at q; omega)
            refine Go.by (fun _ => XS.ifNo X0.here hx rfl (hb hby at_67) rfl ((if0 _ _).trans (flt hc67).1)) ?_
            show Go p e below P (s₁.setTop (mkF m 70 #[.val (.int p0), .val (.int p1), .val (.int (2 : Int32)), .val (.int c), .val (.int dx), .val (.int (0 : Int32)), .val (.int lx), .unset, .unset, .unset] []))
            refine Go.by (fun _ => XS.iload X0.here hx rfl (hb hby at_70) rfl) ?_
            show Go p e below P (s₁.setTop (mkF m 72 #[.val (.int p0), .val (.int p1), .val (.int (2 : Int32)), .val (.int c), .val (.int dx), .val (.int (0 : Int32)), .val (.int lx), .unset, .unset, .unset] [(.int lx)]))
            refine Go.by (fun _ => XS.bipush X0.here hx rfl (hb hby at_72)) ?_
            show Go p e below P (s₁.setTop (mkF m 74 #[.val (.int p0), .val (.int p1), .val (.int (2 : Int32)), .val (.int c), .val (.int dx), .val (.int (0 : Int32)), .val (.int lx), .unset, .unset, .unset] [(.int (26 : Int32)), (.int lx)]))
            have hc74 : lx < (26 : Int32) := (by have q0 := own_sub c 65 hj (by decide); have q1 := congrArg Int32.toInt hv_lx; have k65 : (65 : Int32).toInt = 65 := rfl; have l_26 : (26 : Int32).toInt = 26 := rfl; rw [Int32.lt_iff_toInt_lt]; omega)
            refine Go.by (fun _ => XS.icmpNo X0.here hx rfl (hb hby at_74) rfl (tlt hc74).2.1) ?_
            show Go p e below P (s₁.setTop (mkF m 77 #[.val (.int p0), .val (.int p1), .val (.int (2 : Int32)), .val (.int c), .val (.int dx), .val (.int (0 : Int32)), .val (.int lx), .unset, .unset, .unset] []))
            refine Go.by (fun _ => XS.iconst X0.here hx rfl (hb hby at_77)) ?_
            show Go p e below P (s₁.setTop (mkF m 78 #[.val (.int p0), .val (.int p1), .val (.int (2 : Int32)), .val (.int c), .val (.int dx), .val (.int (0 : Int32)), .val (.int lx), .unset, .unset, .unset] [(.int (1 : Int32))]))
            refine Go.by (fun _ => XS.goto X0.here hx rfl (pc0 := 78) (pc' := 82) rfl (hb hby at_78) (by decide) (by decide)) ?_
            show Go p e below P (s₁.setTop (mkF m 82 #[.val (.int p0), .val (.int p1), .val (.int (2 : Int32)), .val (.int c), .val (.int dx), .val (.int (0 : Int32)), .val (.int lx), .unset, .unset, .unset] [(.int (1 : Int32))]))
            refine Go.by (fun _ => XS.istore X0.here hx rfl (hb hby at_82) rfl (l' := #[.val (.int p0), .val (.int p1), .val (.int (2 : Int32)), .val (.int c), .val (.int dx), .val (.int (0 : Int32)), .val (.int lx), .val (.int (1 : Int32)), .unset, .unset]) rfl) ?_
            show Go p e below P (s₁.setTop (mkF m 84 #[.val (.int p0), .val (.int p1), .val (.int (2 : Int32)), .val (.int c), .val (.int dx), .val (.int (0 : Int32)), .val (.int lx), .val (.int (1 : Int32)), .unset, .unset] []))
            refine Go.by (fun _ => XS.iloadN X0.here hx rfl (hb hby at_84) rfl) ?_
            show Go p e below P (s₁.setTop (mkF m 85 #[.val (.int p0), .val (.int p1), .val (.int (2 : Int32)), .val (.int c), .val (.int dx), .val (.int (0 : Int32)), .val (.int lx), .val (.int (1 : Int32)), .unset, .unset] [(.int (2 : Int32))]))
            have hc85 : ¬ ((2 : Int32) = (0 : Int32)) := by decide
            refine Go.by (fun _ => XS.ifYes X0.here hx rfl (pc0 := 85) (pc' := 100) rfl (hb hby at_85) rfl ((if0 _ _).trans (feq hc85).2) (by decide) (by decide)) ?_
            show Go p e below P (s₁.setTop (mkF m 100 #[.val (.int p0), .val (.int p1), .val (.int (2 : Int32)), .val (.int c), .val (.int dx), .val (.int (0 : Int32)), .val (.int lx), .val (.int (1 : Int32)), .unset, .unset] []))
            refine Go.by (fun _ => XS.iloadN X0.here hx rfl (hb hby at_100) rfl) ?_
            show Go p e below P (s₁.setTop (mkF m 101 #[.val (.int p0), .val (.int p1), .val (.int (2 : Int32)), .val (.int c), .val (.int dx), .val (.int (0 : Int32)), .val (.int lx), .val (.int (1 : Int32)), .unset, .unset] [(.int (2 : Int32))]))
            refine Go.by (fun _ => XS.iconst X0.here hx rfl (hb hby at_101)) ?_
            show Go p e below P (s₁.setTop (mkF m 102 #[.val (.int p0), .val (.int p1), .val (.int (2 : Int32)), .val (.int c), .val (.int dx), .val (.int (0 : Int32)), .val (.int lx), .val (.int (1 : Int32)), .unset, .unset] [(.int (1 : Int32)), (.int (2 : Int32))]))
            have hc102 : ¬ ((2 : Int32) = (1 : Int32)) := by decide
            refine Go.by (fun _ => XS.icmpYes X0.here hx rfl (pc0 := 102) (pc' := 117) rfl (hb hby at_102) rfl (feq hc102).2 (by decide) (by decide)) ?_
            show Go p e below P (s₁.setTop (mkF m 117 #[.val (.int p0), .val (.int p1), .val (.int (2 : Int32)), .val (.int c), .val (.int dx), .val (.int (0 : Int32)), .val (.int lx), .val (.int (1 : Int32)), .unset, .unset] []))
            obtain ⟨T23, X23, e23, st23⟩ := getS2 X0 hx hZ hown (host := "") (Or.inl (hw _ (List.mem_of_getElem? (i := 19) rfl))) Via.refl e0 (G3.ext O0.2) (g := (mkF m 117 #[.val (.int p0), .val (.int p1), .val (.int (2 : Int32)), .val (.int c), .val (.int dx), .val (.int (0 : Int32)), .val (.int lx), .val (.int (1 : Int32)), .unset, .unset] [])) rfl (hb hby at_117)
            refine Go.by (fun _ => st23 _) ?_
            show Go p e below P (T23.setTop (mkF m 120 #[.val (.int p0), .val (.int p1), .val (.int (2 : Int32)), .val (.int c), .val (.int dx), .val (.int (0 : Int32)), .val (.int lx), .val (.int (1 : Int32)), .unset, .unset] [(.ref wALPHANUMERIC)]))
            refine Go.by (fun _ => XS.astore X23.here hx rfl (hb hby at_120) rfl rfl (l' := #[.val (.int p0), .val (.int p1), .val (.int (2 : Int32)), .val (.int c), .val (.int dx), .val (.int (0 : Int32)), .val (.int lx), .val (.int (1 : Int32)), .val (.ref wALPHANUMERIC), .unset]) rfl) ?_
            show Go p e below P (T23.setTop (mkF m 122 #[.val (.int p0), .val (.int p1), .val (.int (2 : Int32)), .val (.int c), .val (.int dx), .val (.int (0 : Int32)), .val (.int lx), .val (.int (1 : Int32)), .val (.ref wALPHANUMERIC), .unset] []))
            refine Go.by (fun _ => XS.iload X23.here hx rfl (hb hby at_122) rfl) ?_
            show Go p e below P (T23.setTop (mkF m 124 #[.val (.int p0), .val (.int p1), .val (.int (2 : Int32)), .val (.int c), .val (.int dx), .val (.int (0 : Int32)), .val (.int lx), .val (.int (1 : Int32)), .val (.ref wALPHANUMERIC), .unset] [(.int (0 : Int32))]))
            have hc124 : (0 : Int32) = (0 : Int32) := by decide
            refine Go.by (fun _ => XS.ifNo X23.here hx rfl (hb hby at_124) rfl ((if0 _ _).trans (teq hc124).2)) ?_
            show Go p e below P (T23.setTop (mkF m 127 #[.val (.int p0), .val (.int p1), .val (.int (2 : Int32)), .val (.int c), .val (.int dx), .val (.int (0 : Int32)), .val (.int lx), .val (.int (1 : Int32)), .val (.ref wALPHANUMERIC), .unset] []))
            refine Go.by (fun _ => XS.iload X23.here hx rfl (hb hby at_127) rfl) ?_
            show Go p e below P (T23.setTop (mkF m 129 #[.val (.int p0), .val (.int p1), .val (.int (2 : Int32)), .val (.int c), .val (.int dx), .val (.int (0 : Int32)), .val (.int lx), .val (.int (1 : Int32)), .val (.ref wALPHANUMERIC), .unset] [(.int (1 : Int32))]))
            have hc129 : ¬ ((1 : Int32) = (0 : Int32)) := by decide
            refine Go.by (fun _ => XS.ifNo X23.here hx rfl (hb hby at_129) rfl ((if0 _ _).trans (feq hc129).1)) ?_
            show Go p e below P (T23.setTop (mkF m 132 #[.val (.int p0), .val (.int p1), .val (.int (2 : Int32)), .val (.int c), .val (.int dx), .val (.int (0 : Int32)), .val (.int lx), .val (.int (1 : Int32)), .val (.ref wALPHANUMERIC), .unset] []))
            refine Go.by (fun _ => XS.iconst X23.here hx rfl (hb hby at_132)) ?_
            show Go p e below P (T23.setTop (mkF m 133 #[.val (.int p0), .val (.int p1), .val (.int (2 : Int32)), .val (.int c), .val (.int dx), .val (.int (0 : Int32)), .val (.int lx), .val (.int (1 : Int32)), .val (.ref wALPHANUMERIC), .unset] [(.int (1 : Int32))]))
            refine Go.by (fun _ => XS.goto X23.here hx rfl (pc0 := 133) (pc' := 137) rfl (hb hby at_133) (by decide) (by decide)) ?_
            show Go p e below P (T23.setTop (mkF m 137 #[.val (.int p0), .val (.int p1), .val (.int (2 : Int32)), .val (.int c), .val (.int dx), .val (.int (0 : Int32)), .val (.int lx), .val (.int (1 : Int32)), .val (.ref wALPHANUMERIC), .unset] [(.int (1 : Int32))]))
            refine Go.by (fun _ => XS.istore X23.here hx rfl (hb hby at_137) rfl (l' := #[.val (.int p0), .val (.int p1), .val (.int (2 : Int32)), .val (.int c), .val (.int dx), .val (.int (0 : Int32)), .val (.int lx), .val (.int (1 : Int32)), .val (.ref wALPHANUMERIC), .val (.int (1 : Int32))]) rfl) ?_
            show Go p e below P (T23.setTop (mkF m 139 #[.val (.int p0), .val (.int p1), .val (.int (2 : Int32)), .val (.int c), .val (.int dx), .val (.int (0 : Int32)), .val (.int lx), .val (.int (1 : Int32)), .val (.ref wALPHANUMERIC), .val (.int (1 : Int32))] []))
            refine Go.by (fun _ => XS.aload X23.here hx rfl (hb hby at_139) rfl rfl) ?_
            show Go p e below P (T23.setTop (mkF m 141 #[.val (.int p0), .val (.int p1), .val (.int (2 : Int32)), .val (.int c), .val (.int dx), .val (.int (0 : Int32)), .val (.int lx), .val (.int (1 : Int32)), .val (.ref wALPHANUMERIC), .val (.int (1 : Int32))] [(.ref wALPHANUMERIC)]))
            refine Go.by (fun _ => XS.iloadN X23.here hx rfl (hb hby at_141) rfl) ?_
            show Go p e below P (T23.setTop (mkF m 142 #[.val (.int p0), .val (.int p1), .val (.int (2 : Int32)), .val (.int c), .val (.int dx), .val (.int (0 : Int32)), .val (.int lx), .val (.int (1 : Int32)), .val (.ref wALPHANUMERIC), .val (.int (1 : Int32))] [(.int c), (.ref wALPHANUMERIC)]))
            obtain ⟨cq24, kq24, qa24, qb24, qc24⟩ := isOf hZ e23 (G4.ext O0.2)
            obtain ⟨_, _, ⟨T24, L24, k24, n24⟩, -, X24, ⟨Lc24, hQ24, l24, y24, z24⟩, st24⟩ := X23.virtualBack hx (y := (⟨"com/example/kontoform/kontoform/CharacterClass", "admits", "(C)Z"⟩ : MethodName)) (z := (⟨"com/example/kontoform/kontoform/CharacterClass", "admits", "(C)Z"⟩ : MethodName)) hown (mvT hZ (hw _ (List.mem_of_getElem? (i := 5) rfl))) (mvT hZ (hw _ (List.mem_of_getElem? (i := 6) rfl))) (notFace_of_selects (args := #[]) (mvT hZ (hw _ (List.mem_of_getElem? (i := 8) rfl)))) (mvT hZ (hw _ (List.mem_of_getElem? (i := 8) rfl))) (mvT hZ (hw _ (List.mem_of_getElem? (i := 7) rfl))) (by decide) (backOf (W := 0) (rm_adm2 l Z a0 hw [] wDIGITS wALPHANUMERIC wLETTERS hG c ((1 : Int32)) h0 n0 Z0 O0  (own_alpha c (Or.inr hl))) hZ (hw _ (List.mem_of_getElem? (i := 9) rfl)) (hw _ (List.mem_of_getElem? (i := 3) rfl)) (Nat.le_of_ble_eq_true rfl) (Nat.le_of_ble_eq_true rfl)) qa24 qc24 (g := (mkF m 142 #[.val (.int p0), .val (.int p1), .val (.int (2 : Int32)), .val (.int c), .val (.int dx), .val (.int (0 : Int32)), .val (.int lx), .val (.int (1 : Int32)), .val (.ref wALPHANUMERIC), .val (.int (1 : Int32))] [(.int c), (.ref wALPHANUMERIC)])) rfl (by rw [hml]; rfl) (Steps.refl _) (argsL := [(.int c)]) (rest := []) (lenOf pd_1 rfl) rfl (by show 2 * 0 + _ ≤ _; exact Nat.le_of_eq rfl) (hb hby at_142) (fun _ _ => ⟨rfl, e23, (Nat.le_of_ble_eq_true rfl : 0 + 0 ≤ _), (Nat.le_of_ble_eq_true rfl : 0 + 0 ≤ _)⟩)
            dsimp only [Pt.U, Pt.locs, Pt.cells, Pt.slots] at X24 l24 y24 z24 st24 hQ24
            subst l24 y24 z24
            obtain ⟨rfl, Nq24, eq24⟩ := hQ24
            have N24 := Fr.app N0 Nq24
            refine Go.by (fun _ k => st24.trans k) ?_
            show Go p e below P (T24.setTop (mkF m 145 #[.val (.int p0), .val (.int p1), .val (.int (2 : Int32)), .val (.int c), .val (.int dx), .val (.int (0 : Int32)), .val (.int lx), .val (.int (1 : Int32)), .val (.ref wALPHANUMERIC), .val (.int (1 : Int32))] [(.int (1 : Int32))]))
            refine Go.by (fun _ => XS.iload X24.here hx rfl (hb hby at_145) rfl) ?_
            show Go p e below P (T24.setTop (mkF m 147 #[.val (.int p0), .val (.int p1), .val (.int (2 : Int32)), .val (.int c), .val (.int dx), .val (.int (0 : Int32)), .val (.int lx), .val (.int (1 : Int32)), .val (.ref wALPHANUMERIC), .val (.int (1 : Int32))] [(.int (1 : Int32)), (.int (1 : Int32))]))
            have hc147 : (1 : Int32) = (1 : Int32) := by decide
            refine Go.by (fun _ => XS.icmpNo X24.here hx rfl (hb hby at_147) rfl (teq hc147).2) ?_
            show Go p e below P (T24.setTop (mkF m 150 #[.val (.int p0), .val (.int p1), .val (.int (2 : Int32)), .val (.int c), .val (.int dx), .val (.int (0 : Int32)), .val (.int lx), .val (.int (1 : Int32)), .val (.ref wALPHANUMERIC), .val (.int (1 : Int32))] []))
            refine Go.by (fun _ => XS.iconst X24.here hx rfl (hb hby at_150)) ?_
            show Go p e below P (T24.setTop (mkF m 151 #[.val (.int p0), .val (.int p1), .val (.int (2 : Int32)), .val (.int c), .val (.int dx), .val (.int (0 : Int32)), .val (.int lx), .val (.int (1 : Int32)), .val (.ref wALPHANUMERIC), .val (.int (1 : Int32))] [(.int (1 : Int32))]))
            refine Go.by (fun _ => XS.goto X24.here hx rfl (pc0 := 151) (pc' := 155) rfl (hb hby at_151) (by decide) (by decide)) ?_
            show Go p e below P (T24.setTop (mkF m 155 #[.val (.int p0), .val (.int p1), .val (.int (2 : Int32)), .val (.int c), .val (.int dx), .val (.int (0 : Int32)), .val (.int lx), .val (.int (1 : Int32)), .val (.ref wALPHANUMERIC), .val (.int (1 : Int32))] [(.int (1 : Int32))]))
            subst hP
            refine Go.retZ X24 hx (t := .boolean) Bd.returns (by simp) hlk (hb hby at_155) (Nat.le_of_ble_eq_true rfl) (Nat.le_of_ble_eq_true rfl) ?_
            rw [eq24]
            exact ⟨rfl, N24⟩
      · have hi := own_lt3 i (hv_i ▸ own_mod3 p0)
        rcases hi with rfl | rfl | rfl
        · show Go p e below P (s₁.setTop (mkF m 34 #[.val (.int p0), .val (.int p1), .val (.int (0 : Int32)), .val (.int c), .unset, .unset, .unset, .unset, .unset, .unset] []))
          refine Go.by (fun _ => XS.iloadN X0.here hx rfl (hb hby at_34) rfl) ?_
          show Go p e below P (s₁.setTop (mkF m 35 #[.val (.int p0), .val (.int p1), .val (.int (0 : Int32)), .val (.int c), .unset, .unset, .unset, .unset, .unset, .unset] [(.int c)]))
          refine Go.by (fun _ => XS.bipush X0.here hx rfl (hb hby at_35)) ?_
          show Go p e below P (s₁.setTop (mkF m 37 #[.val (.int p0), .val (.int p1), .val (.int (0 : Int32)), .val (.int c), .unset, .unset, .unset, .unset, .unset, .unset] [(.int (48 : Int32)), (.int c)]))
          refine Go.by (fun _ => XS.isub X0.here hx rfl (hb hby at_37) rfl) ?_
          show Go p e below P (s₁.setTop (mkF m 38 #[.val (.int p0), .val (.int p1), .val (.int (0 : Int32)), .val (.int c), .unset, .unset, .unset, .unset, .unset, .unset] [(.int (c - (48 : Int32)))]))
          generalize hv_dx : (c - (48 : Int32)) = dx
          refine Go.by (fun _ => XS.istore X0.here hx rfl (hb hby at_38) rfl (l' := #[.val (.int p0), .val (.int p1), .val (.int (0 : Int32)), .val (.int c), .val (.int dx), .unset, .unset, .unset, .unset, .unset]) rfl) ?_
          show Go p e below P (s₁.setTop (mkF m 40 #[.val (.int p0), .val (.int p1), .val (.int (0 : Int32)), .val (.int c), .val (.int dx), .unset, .unset, .unset, .unset, .unset] []))
          refine Go.by (fun _ => XS.iload X0.here hx rfl (hb hby at_40) rfl) ?_
          show Go p e below P (s₁.setTop (mkF m 42 #[.val (.int p0), .val (.int p1), .val (.int (0 : Int32)), .val (.int c), .val (.int dx), .unset, .unset, .unset, .unset, .unset] [(.int dx)]))
          by_cases hc42 : dx < (0 : Int32)
          · refine Go.by (fun _ => XS.ifYes X0.here hx rfl (pc0 := 42) (pc' := 56) rfl (hb hby at_42) rfl ((if0 _ _).trans (tlt hc42).1) (by decide) (by decide)) ?_
            show Go p e below P (s₁.setTop (mkF m 56 #[.val (.int p0), .val (.int p1), .val (.int (0 : Int32)), .val (.int c), .val (.int dx), .unset, .unset, .unset, .unset, .unset] []))
            refine Go.by (fun _ => XS.iconst X0.here hx rfl (hb hby at_56)) ?_
            show Go p e below P (s₁.setTop (mkF m 57 #[.val (.int p0), .val (.int p1), .val (.int (0 : Int32)), .val (.int c), .val (.int dx), .unset, .unset, .unset, .unset, .unset] [(.int (0 : Int32))]))
            refine Go.by (fun _ => XS.istore X0.here hx rfl (hb hby at_57) rfl (l' := #[.val (.int p0), .val (.int p1), .val (.int (0 : Int32)), .val (.int c), .val (.int dx), .val (.int (0 : Int32)), .unset, .unset, .unset, .unset]) rfl) ?_
            show Go p e below P (s₁.setTop (mkF m 59 #[.val (.int p0), .val (.int p1), .val (.int (0 : Int32)), .val (.int c), .val (.int dx), .val (.int (0 : Int32)), .unset, .unset, .unset, .unset] []))
            refine Go.by (fun _ => XS.iloadN X0.here hx rfl (hb hby at_59) rfl) ?_
            show Go p e below P (s₁.setTop (mkF m 60 #[.val (.int p0), .val (.int p1), .val (.int (0 : Int32)), .val (.int c), .val (.int dx), .val (.int (0 : Int32)), .unset, .unset, .unset, .unset] [(.int c)]))
            refine Go.by (fun _ => XS.bipush X0.here hx rfl (hb hby at_60)) ?_
            show Go p e below P (s₁.setTop (mkF m 62 #[.val (.int p0), .val (.int p1), .val (.int (0 : Int32)), .val (.int c), .val (.int dx), .val (.int (0 : Int32)), .unset, .unset, .unset, .unset] [(.int (65 : Int32)), (.int c)]))
            refine Go.by (fun _ => XS.isub X0.here hx rfl (hb hby at_62) rfl) ?_
            show Go p e below P (s₁.setTop (mkF m 63 #[.val (.int p0), .val (.int p1), .val (.int (0 : Int32)), .val (.int c), .val (.int dx), .val (.int (0 : Int32)), .unset, .unset, .unset, .unset] [(.int (c - (65 : Int32)))]))
            generalize hv_lx : (c - (65 : Int32)) = lx
            refine Go.by (fun _ => XS.istore X0.here hx rfl (hb hby at_63) rfl (l' := #[.val (.int p0), .val (.int p1), .val (.int (0 : Int32)), .val (.int c), .val (.int dx), .val (.int (0 : Int32)), .val (.int lx), .unset, .unset, .unset]) rfl) ?_
            show Go p e below P (s₁.setTop (mkF m 65 #[.val (.int p0), .val (.int p1), .val (.int (0 : Int32)), .val (.int c), .val (.int dx), .val (.int (0 : Int32)), .val (.int lx), .unset, .unset, .unset] []))
            refine Go.by (fun _ => XS.iload X0.here hx rfl (hb hby at_65) rfl) ?_
            show Go p e below P (s₁.setTop (mkF m 67 #[.val (.int p0), .val (.int p1), .val (.int (0 : Int32)), .val (.int c), .val (.int dx), .val (.int (0 : Int32)), .val (.int lx), .unset, .unset, .unset] [(.int lx)]))
            by_cases hc67 : lx < (0 : Int32)
            · refine Go.by (fun _ => XS.ifYes X0.here hx rfl (pc0 := 67) (pc' := 81) rfl (hb hby at_67) rfl ((if0 _ _).trans (tlt hc67).1) (by decide) (by decide)) ?_
              show Go p e below P (s₁.setTop (mkF m 81 #[.val (.int p0), .val (.int p1), .val (.int (0 : Int32)), .val (.int c), .val (.int dx), .val (.int (0 : Int32)), .val (.int lx), .unset, .unset, .unset] []))
              refine Go.by (fun _ => XS.iconst X0.here hx rfl (hb hby at_81)) ?_
              show Go p e below P (s₁.setTop (mkF m 82 #[.val (.int p0), .val (.int p1), .val (.int (0 : Int32)), .val (.int c), .val (.int dx), .val (.int (0 : Int32)), .val (.int lx), .unset, .unset, .unset] [(.int (0 : Int32))]))
              refine Go.by (fun _ => XS.istore X0.here hx rfl (hb hby at_82) rfl (l' := #[.val (.int p0), .val (.int p1), .val (.int (0 : Int32)), .val (.int c), .val (.int dx), .val (.int (0 : Int32)), .val (.int lx), .val (.int (0 : Int32)), .unset, .unset]) rfl) ?_
              show Go p e below P (s₁.setTop (mkF m 84 #[.val (.int p0), .val (.int p1), .val (.int (0 : Int32)), .val (.int c), .val (.int dx), .val (.int (0 : Int32)), .val (.int lx), .val (.int (0 : Int32)), .unset, .unset] []))
              refine Go.by (fun _ => XS.iloadN X0.here hx rfl (hb hby at_84) rfl) ?_
              show Go p e below P (s₁.setTop (mkF m 85 #[.val (.int p0), .val (.int p1), .val (.int (0 : Int32)), .val (.int c), .val (.int dx), .val (.int (0 : Int32)), .val (.int lx), .val (.int (0 : Int32)), .unset, .unset] [(.int (0 : Int32))]))
              have hc85 : (0 : Int32) = (0 : Int32) := by decide
              refine Go.by (fun _ => XS.ifNo X0.here hx rfl (hb hby at_85) rfl ((if0 _ _).trans (teq hc85).2)) ?_
              show Go p e below P (s₁.setTop (mkF m 88 #[.val (.int p0), .val (.int p1), .val (.int (0 : Int32)), .val (.int c), .val (.int dx), .val (.int (0 : Int32)), .val (.int lx), .val (.int (0 : Int32)), .unset, .unset] []))
              obtain ⟨T25, X25, e25, st25⟩ := getS2 X0 hx hZ hown (host := "") (Or.inl (hw _ (List.mem_of_getElem? (i := 2) rfl))) Via.refl e0 (G0.ext O0.2) (g := (mkF m 88 #[.val (.int p0), .val (.int p1), .val (.int (0 : Int32)), .val (.int c), .val (.int dx), .val (.int (0 : Int32)), .val (.int lx), .val (.int (0 : Int32)), .unset, .unset] [])) rfl (hb hby at_88)
              refine Go.by (fun _ => st25 _) ?_
              show Go p e below P (T25.setTop (mkF m 91 #[.val (.int p0), .val (.int p1), .val (.int (0 : Int32)), .val (.int c), .val (.int dx), .val (.int (0 : Int32)), .val (.int lx), .val (.int (0 : Int32)), .unset, .unset] [(.ref wDIGITS)]))
              refine Go.by (fun _ => XS.astore X25.here hx rfl (hb hby at_91) rfl rfl (l' := #[.val (.int p0), .val (.int p1), .val (.int (0 : Int32)), .val (.int c), .val (.int dx), .val (.int (0 : Int32)), .val (.int lx), .val (.int (0 : Int32)), .val (.ref wDIGITS), .unset]) rfl) ?_
              show Go p e below P (T25.setTop (mkF m 93 #[.val (.int p0), .val (.int p1), .val (.int (0 : Int32)), .val (.int c), .val (.int dx), .val (.int (0 : Int32)), .val (.int lx), .val (.int (0 : Int32)), .val (.ref wDIGITS), .unset] []))
              refine Go.by (fun _ => XS.iload X25.here hx rfl (hb hby at_93) rfl) ?_
              show Go p e below P (T25.setTop (mkF m 95 #[.val (.int p0), .val (.int p1), .val (.int (0 : Int32)), .val (.int c), .val (.int dx), .val (.int (0 : Int32)), .val (.int lx), .val (.int (0 : Int32)), .val (.ref wDIGITS), .unset] [(.int (0 : Int32))]))
              refine Go.by (fun _ => XS.istore X25.here hx rfl (hb hby at_95) rfl (l' := #[.val (.int p0), .val (.int p1), .val (.int (0 : Int32)), .val (.int c), .val (.int dx), .val (.int (0 : Int32)), .val (.int lx), .val (.int (0 : Int32)), .val (.ref wDIGITS), .val (.int (0 : Int32))]) rfl) ?_
              show Go p e below P (T25.setTop (mkF m 97 #[.val (.int p0), .val (.int p1), .val (.int (0 : Int32)), .val (.int c), .val (.int dx), .val (.int (0 : Int32)), .val (.int lx), .val (.int (0 : Int32)), .val (.ref wDIGITS), .val (.int (0 : Int32))] []))
              refine Go.by (fun _ => XS.goto X25.here hx rfl (pc0 := 97) (pc' := 139) rfl (hb hby at_97) (by decide) (by decide)) ?_
              show Go p e below P (T25.setTop (mkF m 139 #[.val (.int p0), .val (.int p1), .val (.int (0 : Int32)), .val (.int c), .val (.int dx), .val (.int (0 : Int32)), .val (.int lx), .val (.int (0 : Int32)), .val (.ref wDIGITS), .val (.int (0 : Int32))] []))
              refine Go.by (fun _ => XS.aload X25.here hx rfl (hb hby at_139) rfl rfl) ?_
              show Go p e below P (T25.setTop (mkF m 141 #[.val (.int p0), .val (.int p1), .val (.int (0 : Int32)), .val (.int c), .val (.int dx), .val (.int (0 : Int32)), .val (.int lx), .val (.int (0 : Int32)), .val (.ref wDIGITS), .val (.int (0 : Int32))] [(.ref wDIGITS)]))
              refine Go.by (fun _ => XS.iloadN X25.here hx rfl (hb hby at_141) rfl) ?_
              show Go p e below P (T25.setTop (mkF m 142 #[.val (.int p0), .val (.int p1), .val (.int (0 : Int32)), .val (.int c), .val (.int dx), .val (.int (0 : Int32)), .val (.int lx), .val (.int (0 : Int32)), .val (.ref wDIGITS), .val (.int (0 : Int32))] [(.int c), (.ref wDIGITS)]))
              obtain ⟨cq26, kq26, qa26, qb26, qc26⟩ := isOf hZ e25 (G1.ext O0.2)
              obtain ⟨_, _, ⟨T26, L26, k26, n26⟩, -, X26, ⟨Lc26, hQ26, l26, y26, z26⟩, st26⟩ := X25.virtualBack hx (y := (⟨"com/example/kontoform/kontoform/CharacterClass", "admits", "(C)Z"⟩ : MethodName)) (z := (⟨"com/example/kontoform/kontoform/CharacterClass", "admits", "(C)Z"⟩ : MethodName)) hown (mvT hZ (hw _ (List.mem_of_getElem? (i := 5) rfl))) (mvT hZ (hw _ (List.mem_of_getElem? (i := 6) rfl))) (notFace_of_selects (args := #[]) (mvT hZ (hw _ (List.mem_of_getElem? (i := 8) rfl)))) (mvT hZ (hw _ (List.mem_of_getElem? (i := 8) rfl))) (mvT hZ (hw _ (List.mem_of_getElem? (i := 7) rfl))) (by decide) (backOf (W := 0) (rm_adm0 l Z a0 hw [] wDIGITS wALPHANUMERIC wLETTERS hG c ((0 : Int32)) h0 n0 Z0 O0  (own_out48 c hd)) hZ (hw _ (List.mem_of_getElem? (i := 9) rfl)) (hw _ (List.mem_of_getElem? (i := 3) rfl)) (Nat.le_of_ble_eq_true rfl) (Nat.le_of_ble_eq_true rfl)) qa26 qc26 (g := (mkF m 142 #[.val (.int p0), .val (.int p1), .val (.int (0 : Int32)), .val (.int c), .val (.int dx), .val (.int (0 : Int32)), .val (.int lx), .val (.int (0 : Int32)), .val (.ref wDIGITS), .val (.int (0 : Int32))] [(.int c), (.ref wDIGITS)])) rfl (by rw [hml]; rfl) (Steps.refl _) (argsL := [(.int c)]) (rest := []) (lenOf pd_1 rfl) rfl (by show 2 * 0 + _ ≤ _; exact Nat.le_of_eq rfl) (hb hby at_142) (fun _ _ => ⟨rfl, e25, (Nat.le_of_ble_eq_true rfl : 0 + 0 ≤ _), (Nat.le_of_ble_eq_true rfl : 0 + 0 ≤ _)⟩)
              dsimp only [Pt.U, Pt.locs, Pt.cells, Pt.slots] at X26 l26 y26 z26 st26 hQ26
              subst l26 y26 z26
              obtain ⟨rfl, Nq26, eq26⟩ := hQ26
              have N26 := Fr.app N0 Nq26
              refine Go.by (fun _ k => st26.trans k) ?_
              show Go p e below P (T26.setTop (mkF m 145 #[.val (.int p0), .val (.int p1), .val (.int (0 : Int32)), .val (.int c), .val (.int dx), .val (.int (0 : Int32)), .val (.int lx), .val (.int (0 : Int32)), .val (.ref wDIGITS), .val (.int (0 : Int32))] [(.int (0 : Int32))]))
              refine Go.by (fun _ => XS.iload X26.here hx rfl (hb hby at_145) rfl) ?_
              show Go p e below P (T26.setTop (mkF m 147 #[.val (.int p0), .val (.int p1), .val (.int (0 : Int32)), .val (.int c), .val (.int dx), .val (.int (0 : Int32)), .val (.int lx), .val (.int (0 : Int32)), .val (.ref wDIGITS), .val (.int (0 : Int32))] [(.int (0 : Int32)), (.int (0 : Int32))]))
              have hc147 : (0 : Int32) = (0 : Int32) := by decide
              refine Go.by (fun _ => XS.icmpNo X26.here hx rfl (hb hby at_147) rfl (teq hc147).2) ?_
              show Go p e below P (T26.setTop (mkF m 150 #[.val (.int p0), .val (.int p1), .val (.int (0 : Int32)), .val (.int c), .val (.int dx), .val (.int (0 : Int32)), .val (.int lx), .val (.int (0 : Int32)), .val (.ref wDIGITS), .val (.int (0 : Int32))] []))
              refine Go.by (fun _ => XS.iconst X26.here hx rfl (hb hby at_150)) ?_
              show Go p e below P (T26.setTop (mkF m 151 #[.val (.int p0), .val (.int p1), .val (.int (0 : Int32)), .val (.int c), .val (.int dx), .val (.int (0 : Int32)), .val (.int lx), .val (.int (0 : Int32)), .val (.ref wDIGITS), .val (.int (0 : Int32))] [(.int (1 : Int32))]))
              refine Go.by (fun _ => XS.goto X26.here hx rfl (pc0 := 151) (pc' := 155) rfl (hb hby at_151) (by decide) (by decide)) ?_
              show Go p e below P (T26.setTop (mkF m 155 #[.val (.int p0), .val (.int p1), .val (.int (0 : Int32)), .val (.int c), .val (.int dx), .val (.int (0 : Int32)), .val (.int lx), .val (.int (0 : Int32)), .val (.ref wDIGITS), .val (.int (0 : Int32))] [(.int (1 : Int32))]))
              subst hP
              refine Go.retZ X26 hx (t := .boolean) Bd.returns (by simp) hlk (hb hby at_155) (Nat.le_of_ble_eq_true rfl) (Nat.le_of_ble_eq_true rfl) ?_
              rw [eq26]
              exact ⟨rfl, N26⟩
            · refine Go.by (fun _ => XS.ifNo X0.here hx rfl (hb hby at_67) rfl ((if0 _ _).trans (flt hc67).1)) ?_
              show Go p e below P (s₁.setTop (mkF m 70 #[.val (.int p0), .val (.int p1), .val (.int (0 : Int32)), .val (.int c), .val (.int dx), .val (.int (0 : Int32)), .val (.int lx), .unset, .unset, .unset] []))
              refine Go.by (fun _ => XS.iload X0.here hx rfl (hb hby at_70) rfl) ?_
              show Go p e below P (s₁.setTop (mkF m 72 #[.val (.int p0), .val (.int p1), .val (.int (0 : Int32)), .val (.int c), .val (.int dx), .val (.int (0 : Int32)), .val (.int lx), .unset, .unset, .unset] [(.int lx)]))
              refine Go.by (fun _ => XS.bipush X0.here hx rfl (hb hby at_72)) ?_
              show Go p e below P (s₁.setTop (mkF m 74 #[.val (.int p0), .val (.int p1), .val (.int (0 : Int32)), .val (.int c), .val (.int dx), .val (.int (0 : Int32)), .val (.int lx), .unset, .unset, .unset] [(.int (26 : Int32)), (.int lx)]))
              have hc74 : ¬ (lx < (26 : Int32)) := (fun q => by have q0 := own_sub c 65 hj (by decide); have q1 := congrArg Int32.toInt hv_lx; have k65 : (65 : Int32).toInt = 65 := rfl; have q3 := hc67; rw [Int32.lt_iff_toInt_lt] at q3; have k0 : (0 : Int32).toInt = 0 := rfl; have l_26 : (26 : Int32).toInt = 26 := rfl; rw [Int32.lt_iff_toInt_lt] at q; omega)
              refine Go.by (fun _ => XS.icmpYes X0.here hx rfl (pc0 := 74) (pc' := 81) rfl (hb hby at_74) rfl (flt hc74).2.1 (by decide) (by decide)) ?_
              show Go p e below P (s₁.setTop (mkF m 81 #[.val (.int p0), .val (.int p1), .val (.int (0 : Int32)), .val (.int c), .val (.int dx), .val (.int (0 : Int32)), .val (.int lx), .unset, .unset, .unset] []))
              refine Go.by (fun _ => XS.iconst X0.here hx rfl (hb hby at_81)) ?_
              show Go p e below P (s₁.setTop (mkF m 82 #[.val (.int p0), .val (.int p1), .val (.int (0 : Int32)), .val (.int c), .val (.int dx), .val (.int (0 : Int32)), .val (.int lx), .unset, .unset, .unset] [(.int (0 : Int32))]))
              refine Go.by (fun _ => XS.istore X0.here hx rfl (hb hby at_82) rfl (l' := #[.val (.int p0), .val (.int p1), .val (.int (0 : Int32)), .val (.int c), .val (.int dx), .val (.int (0 : Int32)), .val (.int lx), .val (.int (0 : Int32)), .unset, .unset]) rfl) ?_
              show Go p e below P (s₁.setTop (mkF m 84 #[.val (.int p0), .val (.int p1), .val (.int (0 : Int32)), .val (.int c), .val (.int dx), .val (.int (0 : Int32)), .val (.int lx), .val (.int (0 : Int32)), .unset, .unset] []))
              refine Go.by (fun _ => XS.iloadN X0.here hx rfl (hb hby at_84) rfl) ?_
              show Go p e below P (s₁.setTop (mkF m 85 #[.val (.int p0), .val (.int p1), .val (.int (0 : Int32)), .val (.int c), .val (.int dx), .val (.int (0 : Int32)), .val (.int lx), .val (.int (0 : Int32)), .unset, .unset] [(.int (0 : Int32))]))
              have hc85 : (0 : Int32) = (0 : Int32) := by decide
              refine Go.by (fun _ => XS.ifNo X0.here hx rfl (hb hby at_85) rfl ((if0 _ _).trans (teq hc85).2)) ?_
              show Go p e below P (s₁.setTop (mkF m 88 #[.val (.int p0), .val (.int p1), .val (.int (0 : Int32)), .val (.int c), .val (.int dx), .val (.int (0 : Int32)), .val (.int lx), .val (.int (0 : Int32)), .unset, .unset] []))
              obtain ⟨T27, X27, e27, st27⟩ := getS2 X0 hx hZ hown (host := "") (Or.inl (hw _ (List.mem_of_getElem? (i := 2) rfl))) Via.refl e0 (G0.ext O0.2) (g := (mkF m 88 #[.val (.int p0), .val (.int p1), .val (.int (0 : Int32)), .val (.int c), .val (.int dx), .val (.int (0 : Int32)), .val (.int lx), .val (.int (0 : Int32)), .unset, .unset] [])) rfl (hb hby at_88)
              refine Go.by (fun _ => st27 _) ?_
              show Go p e below P (T27.setTop (mkF m 91 #[.val (.int p0), .val (.int p1), .val (.int (0 : Int32)), .val (.int c), .val (.int dx), .val (.int (0 : Int32)), .val (.int lx), .val (.int (0 : Int32)), .unset, .unset] [(.ref wDIGITS)]))
              refine Go.by (fun _ => XS.astore X27.here hx rfl (hb hby at_91) rfl rfl (l' := #[.val (.int p0), .val (.int p1), .val (.int (0 : Int32)), .val (.int c), .val (.int dx), .val (.int (0 : Int32)), .val (.int lx), .val (.int (0 : Int32)), .val (.ref wDIGITS), .unset]) rfl) ?_
              show Go p e below P (T27.setTop (mkF m 93 #[.val (.int p0), .val (.int p1), .val (.int (0 : Int32)), .val (.int c), .val (.int dx), .val (.int (0 : Int32)), .val (.int lx), .val (.int (0 : Int32)), .val (.ref wDIGITS), .unset] []))
              refine Go.by (fun _ => XS.iload X27.here hx rfl (hb hby at_93) rfl) ?_
              show Go p e below P (T27.setTop (mkF m 95 #[.val (.int p0), .val (.int p1), .val (.int (0 : Int32)), .val (.int c), .val (.int dx), .val (.int (0 : Int32)), .val (.int lx), .val (.int (0 : Int32)), .val (.ref wDIGITS), .unset] [(.int (0 : Int32))]))
              refine Go.by (fun _ => XS.istore X27.here hx rfl (hb hby at_95) rfl (l' := #[.val (.int p0), .val (.int p1), .val (.int (0 : Int32)), .val (.int c), .val (.int dx), .val (.int (0 : Int32)), .val (.int lx), .val (.int (0 : Int32)), .val (.ref wDIGITS), .val (.int (0 : Int32))]) rfl) ?_
              show Go p e below P (T27.setTop (mkF m 97 #[.val (.int p0), .val (.int p1), .val (.int (0 : Int32)), .val (.int c), .val (.int dx), .val (.int (0 : Int32)), .val (.int lx), .val (.int (0 : Int32)), .val (.ref wDIGITS), .val (.int (0 : Int32))] []))
              refine Go.by (fun _ => XS.goto X27.here hx rfl (pc0 := 97) (pc' := 139) rfl (hb hby at_97) (by decide) (by decide)) ?_
              show Go p e below P (T27.setTop (mkF m 139 #[.val (.int p0), .val (.int p1), .val (.int (0 : Int32)), .val (.int c), .val (.int dx), .val (.int (0 : Int32)), .val (.int lx), .val (.int (0 : Int32)), .val (.ref wDIGITS), .val (.int (0 : Int32))] []))
              refine Go.by (fun _ => XS.aload X27.here hx rfl (hb hby at_139) rfl rfl) ?_
              show Go p e below P (T27.setTop (mkF m 141 #[.val (.int p0), .val (.int p1), .val (.int (0 : Int32)), .val (.int c), .val (.int dx), .val (.int (0 : Int32)), .val (.int lx), .val (.int (0 : Int32)), .val (.ref wDIGITS), .val (.int (0 : Int32))] [(.ref wDIGITS)]))
              refine Go.by (fun _ => XS.iloadN X27.here hx rfl (hb hby at_141) rfl) ?_
              show Go p e below P (T27.setTop (mkF m 142 #[.val (.int p0), .val (.int p1), .val (.int (0 : Int32)), .val (.int c), .val (.int dx), .val (.int (0 : Int32)), .val (.int lx), .val (.int (0 : Int32)), .val (.ref wDIGITS), .val (.int (0 : Int32))] [(.int c), (.ref wDIGITS)]))
              obtain ⟨cq28, kq28, qa28, qb28, qc28⟩ := isOf hZ e27 (G1.ext O0.2)
              obtain ⟨_, _, ⟨T28, L28, k28, n28⟩, -, X28, ⟨Lc28, hQ28, l28, y28, z28⟩, st28⟩ := X27.virtualBack hx (y := (⟨"com/example/kontoform/kontoform/CharacterClass", "admits", "(C)Z"⟩ : MethodName)) (z := (⟨"com/example/kontoform/kontoform/CharacterClass", "admits", "(C)Z"⟩ : MethodName)) hown (mvT hZ (hw _ (List.mem_of_getElem? (i := 5) rfl))) (mvT hZ (hw _ (List.mem_of_getElem? (i := 6) rfl))) (notFace_of_selects (args := #[]) (mvT hZ (hw _ (List.mem_of_getElem? (i := 8) rfl)))) (mvT hZ (hw _ (List.mem_of_getElem? (i := 8) rfl))) (mvT hZ (hw _ (List.mem_of_getElem? (i := 7) rfl))) (by decide) (backOf (W := 0) (rm_adm0 l Z a0 hw [] wDIGITS wALPHANUMERIC wLETTERS hG c ((0 : Int32)) h0 n0 Z0 O0  (own_out48 c hd)) hZ (hw _ (List.mem_of_getElem? (i := 9) rfl)) (hw _ (List.mem_of_getElem? (i := 3) rfl)) (Nat.le_of_ble_eq_true rfl) (Nat.le_of_ble_eq_true rfl)) qa28 qc28 (g := (mkF m 142 #[.val (.int p0), .val (.int p1), .val (.int (0 : Int32)), .val (.int c), .val (.int dx), .val (.int (0 : Int32)), .val (.int lx), .val (.int (0 : Int32)), .val (.ref wDIGITS), .val (.int (0 : Int32))] [(.int c), (.ref wDIGITS)])) rfl (by rw [hml]; rfl) (Steps.refl _) (argsL := [(.int c)]) (rest := []) (lenOf pd_1 rfl) rfl (by show 2 * 0 + _ ≤ _; exact Nat.le_of_eq rfl) (hb hby at_142) (fun _ _ => ⟨rfl, e27, (Nat.le_of_ble_eq_true rfl : 0 + 0 ≤ _), (Nat.le_of_ble_eq_true rfl : 0 + 0 ≤ _)⟩)
              dsimp only [Pt.U, Pt.locs, Pt.cells, Pt.slots] at X28 l28 y28 z28 st28 hQ28
              subst l28 y28 z28
              obtain ⟨rfl, Nq28, eq28⟩ := hQ28
              have N28 := Fr.app N0 Nq28
              refine Go.by (fun _ k => st28.trans k) ?_
              show Go p e below P (T28.setTop (mkF m 145 #[.val (.int p0), .val (.int p1), .val (.int (0 : Int32)), .val (.int c), .val (.int dx), .val (.int (0 : Int32)), .val (.int lx), .val (.int (0 : Int32)), .val (.ref wDIGITS), .val (.int (0 : Int32))] [(.int (0 : Int32))]))
              refine Go.by (fun _ => XS.iload X28.here hx rfl (hb hby at_145) rfl) ?_
              show Go p e below P (T28.setTop (mkF m 147 #[.val (.int p0), .val (.int p1), .val (.int (0 : Int32)), .val (.int c), .val (.int dx), .val (.int (0 : Int32)), .val (.int lx), .val (.int (0 : Int32)), .val (.ref wDIGITS), .val (.int (0 : Int32))] [(.int (0 : Int32)), (.int (0 : Int32))]))
              have hc147 : (0 : Int32) = (0 : Int32) := by decide
              refine Go.by (fun _ => XS.icmpNo X28.here hx rfl (hb hby at_147) rfl (teq hc147).2) ?_
              show Go p e below P (T28.setTop (mkF m 150 #[.val (.int p0), .val (.int p1), .val (.int (0 : Int32)), .val (.int c), .val (.int dx), .val (.int (0 : Int32)), .val (.int lx), .val (.int (0 : Int32)), .val (.ref wDIGITS), .val (.int (0 : Int32))] []))
              refine Go.by (fun _ => XS.iconst X28.here hx rfl (hb hby at_150)) ?_
              show Go p e below P (T28.setTop (mkF m 151 #[.val (.int p0), .val (.int p1), .val (.int (0 : Int32)), .val (.int c), .val (.int dx), .val (.int (0 : Int32)), .val (.int lx), .val (.int (0 : Int32)), .val (.ref wDIGITS), .val (.int (0 : Int32))] [(.int (1 : Int32))]))
              refine Go.by (fun _ => XS.goto X28.here hx rfl (pc0 := 151) (pc' := 155) rfl (hb hby at_151) (by decide) (by decide)) ?_
              show Go p e below P (T28.setTop (mkF m 155 #[.val (.int p0), .val (.int p1), .val (.int (0 : Int32)), .val (.int c), .val (.int dx), .val (.int (0 : Int32)), .val (.int lx), .val (.int (0 : Int32)), .val (.ref wDIGITS), .val (.int (0 : Int32))] [(.int (1 : Int32))]))
              subst hP
              refine Go.retZ X28 hx (t := .boolean) Bd.returns (by simp) hlk (hb hby at_155) (Nat.le_of_ble_eq_true rfl) (Nat.le_of_ble_eq_true rfl) ?_
              rw [eq28]
              exact ⟨rfl, N28⟩
          · refine Go.by (fun _ => XS.ifNo X0.here hx rfl (hb hby at_42) rfl ((if0 _ _).trans (flt hc42).1)) ?_
            show Go p e below P (s₁.setTop (mkF m 45 #[.val (.int p0), .val (.int p1), .val (.int (0 : Int32)), .val (.int c), .val (.int dx), .unset, .unset, .unset, .unset, .unset] []))
            refine Go.by (fun _ => XS.iload X0.here hx rfl (hb hby at_45) rfl) ?_
            show Go p e below P (s₁.setTop (mkF m 47 #[.val (.int p0), .val (.int p1), .val (.int (0 : Int32)), .val (.int c), .val (.int dx), .unset, .unset, .unset, .unset, .unset] [(.int dx)]))
            refine Go.by (fun _ => XS.bipush X0.here hx rfl (hb hby at_47)) ?_
            show Go p e below P (s₁.setTop (mkF m 49 #[.val (.int p0), .val (.int p1), .val (.int (0 : Int32)), .val (.int c), .val (.int dx), .unset, .unset, .unset, .unset, .unset] [(.int (10 : Int32)), (.int dx)]))
            have hc49 : ¬ (dx < (10 : Int32)) := (fun q => by have q0 := own_sub c 48 hj (by decide); have q1 := congrArg Int32.toInt hv_dx; have k48 : (48 : Int32).toInt = 48 := rfl; have q3 := hc42; rw [Int32.lt_iff_toInt_lt] at q3; have k0 : (0 : Int32).toInt = 0 := rfl; have l_10 : (10 : Int32).toInt = 10 := rfl; rw [Int32.lt_iff_toInt_lt] at q; omega)
            refine Go.by (fun _ => XS.icmpYes X0.here hx rfl (pc0 := 49) (pc' := 56) rfl (hb hby at_49) rfl (flt hc49).2.1 (by decide) (by decide)) ?_
            show Go p e below P (s₁.setTop (mkF m 56 #[.val (.int p0), .val (.int p1), .val (.int (0 : Int32)), .val (.int c), .val (.int dx), .unset, .unset, .unset, .unset, .unset] []))
            refine Go.by (fun _ => XS.iconst X0.here hx rfl (hb hby at_56)) ?_
            show Go p e below P (s₁.setTop (mkF m 57 #[.val (.int p0), .val (.int p1), .val (.int (0 : Int32)), .val (.int c), .val (.int dx), .unset, .unset, .unset, .unset, .unset] [(.int (0 : Int32))]))
            refine Go.by (fun _ => XS.istore X0.here hx rfl (hb hby at_57) rfl (l' := #[.val (.int p0), .val (.int p1), .val (.int (0 : Int32)), .val (.int c), .val (.int dx), .val (.int (0 : Int32)), .unset, .unset, .unset, .unset]) rfl) ?_
            show Go p e below P (s₁.setTop (mkF m 59 #[.val (.int p0), .val (.int p1), .val (.int (0 : Int32)), .val (.int c), .val (.int dx), .val (.int (0 : Int32)), .unset, .unset, .unset, .unset] []))
            refine Go.by (fun _ => XS.iloadN X0.here hx rfl (hb hby at_59) rfl) ?_
            show Go p e below P (s₁.setTop (mkF m 60 #[.val (.int p0), .val (.int p1), .val (.int (0 : Int32)), .val (.int c), .val (.int dx), .val (.int (0 : Int32)), .unset, .unset, .unset, .unset] [(.int c)]))
            refine Go.by (fun _ => XS.bipush X0.here hx rfl (hb hby at_60)) ?_
            show Go p e below P (s₁.setTop (mkF m 62 #[.val (.int p0), .val (.int p1), .val (.int (0 : Int32)), .val (.int c), .val (.int dx), .val (.int (0 : Int32)), .unset, .unset, .unset, .unset] [(.int (65 : Int32)), (.int c)]))
            refine Go.by (fun _ => XS.isub X0.here hx rfl (hb hby at_62) rfl) ?_
            show Go p e below P (s₁.setTop (mkF m 63 #[.val (.int p0), .val (.int p1), .val (.int (0 : Int32)), .val (.int c), .val (.int dx), .val (.int (0 : Int32)), .unset, .unset, .unset, .unset] [(.int (c - (65 : Int32)))]))
            generalize hv_lx : (c - (65 : Int32)) = lx
            refine Go.by (fun _ => XS.istore X0.here hx rfl (hb hby at_63) rfl (l' := #[.val (.int p0), .val (.int p1), .val (.int (0 : Int32)), .val (.int c), .val (.int dx), .val (.int (0 : Int32)), .val (.int lx), .unset, .unset, .unset]) rfl) ?_
            show Go p e below P (s₁.setTop (mkF m 65 #[.val (.int p0), .val (.int p1), .val (.int (0 : Int32)), .val (.int c), .val (.int dx), .val (.int (0 : Int32)), .val (.int lx), .unset, .unset, .unset] []))
            refine Go.by (fun _ => XS.iload X0.here hx rfl (hb hby at_65) rfl) ?_
            show Go p e below P (s₁.setTop (mkF m 67 #[.val (.int p0), .val (.int p1), .val (.int (0 : Int32)), .val (.int c), .val (.int dx), .val (.int (0 : Int32)), .val (.int lx), .unset, .unset, .unset] [(.int lx)]))
            by_cases hc67 : lx < (0 : Int32)
            · refine Go.by (fun _ => XS.ifYes X0.here hx rfl (pc0 := 67) (pc' := 81) rfl (hb hby at_67) rfl ((if0 _ _).trans (tlt hc67).1) (by decide) (by decide)) ?_
              show Go p e below P (s₁.setTop (mkF m 81 #[.val (.int p0), .val (.int p1), .val (.int (0 : Int32)), .val (.int c), .val (.int dx), .val (.int (0 : Int32)), .val (.int lx), .unset, .unset, .unset] []))
              refine Go.by (fun _ => XS.iconst X0.here hx rfl (hb hby at_81)) ?_
              show Go p e below P (s₁.setTop (mkF m 82 #[.val (.int p0), .val (.int p1), .val (.int (0 : Int32)), .val (.int c), .val (.int dx), .val (.int (0 : Int32)), .val (.int lx), .unset, .unset, .unset] [(.int (0 : Int32))]))
              refine Go.by (fun _ => XS.istore X0.here hx rfl (hb hby at_82) rfl (l' := #[.val (.int p0), .val (.int p1), .val (.int (0 : Int32)), .val (.int c), .val (.int dx), .val (.int (0 : Int32)), .val (.int lx), .val (.int (0 : Int32)), .unset, .unset]) rfl) ?_
              show Go p e below P (s₁.setTop (mkF m 84 #[.val (.int p0), .val (.int p1), .val (.int (0 : Int32)), .val (.int c), .val (.int dx), .val (.int (0 : Int32)), .val (.int lx), .val (.int (0 : Int32)), .unset, .unset] []))
              refine Go.by (fun _ => XS.iloadN X0.here hx rfl (hb hby at_84) rfl) ?_
              show Go p e below P (s₁.setTop (mkF m 85 #[.val (.int p0), .val (.int p1), .val (.int (0 : Int32)), .val (.int c), .val (.int dx), .val (.int (0 : Int32)), .val (.int lx), .val (.int (0 : Int32)), .unset, .unset] [(.int (0 : Int32))]))
              have hc85 : (0 : Int32) = (0 : Int32) := by decide
              refine Go.by (fun _ => XS.ifNo X0.here hx rfl (hb hby at_85) rfl ((if0 _ _).trans (teq hc85).2)) ?_
              show Go p e below P (s₁.setTop (mkF m 88 #[.val (.int p0), .val (.int p1), .val (.int (0 : Int32)), .val (.int c), .val (.int dx), .val (.int (0 : Int32)), .val (.int lx), .val (.int (0 : Int32)), .unset, .unset] []))
              obtain ⟨T29, X29, e29, st29⟩ := getS2 X0 hx hZ hown (host := "") (Or.inl (hw _ (List.mem_of_getElem? (i := 2) rfl))) Via.refl e0 (G0.ext O0.2) (g := (mkF m 88 #[.val (.int p0), .val (.int p1), .val (.int (0 : Int32)), .val (.int c), .val (.int dx), .val (.int (0 : Int32)), .val (.int lx), .val (.int (0 : Int32)), .unset, .unset] [])) rfl (hb hby at_88)
              refine Go.by (fun _ => st29 _) ?_
              show Go p e below P (T29.setTop (mkF m 91 #[.val (.int p0), .val (.int p1), .val (.int (0 : Int32)), .val (.int c), .val (.int dx), .val (.int (0 : Int32)), .val (.int lx), .val (.int (0 : Int32)), .unset, .unset] [(.ref wDIGITS)]))
              refine Go.by (fun _ => XS.astore X29.here hx rfl (hb hby at_91) rfl rfl (l' := #[.val (.int p0), .val (.int p1), .val (.int (0 : Int32)), .val (.int c), .val (.int dx), .val (.int (0 : Int32)), .val (.int lx), .val (.int (0 : Int32)), .val (.ref wDIGITS), .unset]) rfl) ?_
              show Go p e below P (T29.setTop (mkF m 93 #[.val (.int p0), .val (.int p1), .val (.int (0 : Int32)), .val (.int c), .val (.int dx), .val (.int (0 : Int32)), .val (.int lx), .val (.int (0 : Int32)), .val (.ref wDIGITS), .unset] []))
              refine Go.by (fun _ => XS.iload X29.here hx rfl (hb hby at_93) rfl) ?_
              show Go p e below P (T29.setTop (mkF m 95 #[.val (.int p0), .val (.int p1), .val (.int (0 : Int32)), .val (.int c), .val (.int dx), .val (.int (0 : Int32)), .val (.int lx), .val (.int (0 : Int32)), .val (.ref wDIGITS), .unset] [(.int (0 : Int32))]))
              refine Go.by (fun _ => XS.istore X29.here hx rfl (hb hby at_95) rfl (l' := #[.val (.int p0), .val (.int p1), .val (.int (0 : Int32)), .val (.int c), .val (.int dx), .val (.int (0 : Int32)), .val (.int lx), .val (.int (0 : Int32)), .val (.ref wDIGITS), .val (.int (0 : Int32))]) rfl) ?_
              show Go p e below P (T29.setTop (mkF m 97 #[.val (.int p0), .val (.int p1), .val (.int (0 : Int32)), .val (.int c), .val (.int dx), .val (.int (0 : Int32)), .val (.int lx), .val (.int (0 : Int32)), .val (.ref wDIGITS), .val (.int (0 : Int32))] []))
              refine Go.by (fun _ => XS.goto X29.here hx rfl (pc0 := 97) (pc' := 139) rfl (hb hby at_97) (by decide) (by decide)) ?_
              show Go p e below P (T29.setTop (mkF m 139 #[.val (.int p0), .val (.int p1), .val (.int (0 : Int32)), .val (.int c), .val (.int dx), .val (.int (0 : Int32)), .val (.int lx), .val (.int (0 : Int32)), .val (.ref wDIGITS), .val (.int (0 : Int32))] []))
              refine Go.by (fun _ => XS.aload X29.here hx rfl (hb hby at_139) rfl rfl) ?_
              show Go p e below P (T29.setTop (mkF m 141 #[.val (.int p0), .val (.int p1), .val (.int (0 : Int32)), .val (.int c), .val (.int dx), .val (.int (0 : Int32)), .val (.int lx), .val (.int (0 : Int32)), .val (.ref wDIGITS), .val (.int (0 : Int32))] [(.ref wDIGITS)]))
              refine Go.by (fun _ => XS.iloadN X29.here hx rfl (hb hby at_141) rfl) ?_
              show Go p e below P (T29.setTop (mkF m 142 #[.val (.int p0), .val (.int p1), .val (.int (0 : Int32)), .val (.int c), .val (.int dx), .val (.int (0 : Int32)), .val (.int lx), .val (.int (0 : Int32)), .val (.ref wDIGITS), .val (.int (0 : Int32))] [(.int c), (.ref wDIGITS)]))
              obtain ⟨cq30, kq30, qa30, qb30, qc30⟩ := isOf hZ e29 (G1.ext O0.2)
              obtain ⟨_, _, ⟨T30, L30, k30, n30⟩, -, X30, ⟨Lc30, hQ30, l30, y30, z30⟩, st30⟩ := X29.virtualBack hx (y := (⟨"com/example/kontoform/kontoform/CharacterClass", "admits", "(C)Z"⟩ : MethodName)) (z := (⟨"com/example/kontoform/kontoform/CharacterClass", "admits", "(C)Z"⟩ : MethodName)) hown (mvT hZ (hw _ (List.mem_of_getElem? (i := 5) rfl))) (mvT hZ (hw _ (List.mem_of_getElem? (i := 6) rfl))) (notFace_of_selects (args := #[]) (mvT hZ (hw _ (List.mem_of_getElem? (i := 8) rfl)))) (mvT hZ (hw _ (List.mem_of_getElem? (i := 8) rfl))) (mvT hZ (hw _ (List.mem_of_getElem? (i := 7) rfl))) (by decide) (backOf (W := 0) (rm_adm0 l Z a0 hw [] wDIGITS wALPHANUMERIC wLETTERS hG c ((0 : Int32)) h0 n0 Z0 O0  (own_out48 c hd)) hZ (hw _ (List.mem_of_getElem? (i := 9) rfl)) (hw _ (List.mem_of_getElem? (i := 3) rfl)) (Nat.le_of_ble_eq_true rfl) (Nat.le_of_ble_eq_true rfl)) qa30 qc30 (g := (mkF m 142 #[.val (.int p0), .val (.int p1), .val (.int (0 : Int32)), .val (.int c), .val (.int dx), .val (.int (0 : Int32)), .val (.int lx), .val (.int (0 : Int32)), .val (.ref wDIGITS), .val (.int (0 : Int32))] [(.int c), (.ref wDIGITS)])) rfl (by rw [hml]; rfl) (Steps.refl _) (argsL := [(.int c)]) (rest := []) (lenOf pd_1 rfl) rfl (by show 2 * 0 + _ ≤ _; exact Nat.le_of_eq rfl) (hb hby at_142) (fun _ _ => ⟨rfl, e29, (Nat.le_of_ble_eq_true rfl : 0 + 0 ≤ _), (Nat.le_of_ble_eq_true rfl : 0 + 0 ≤ _)⟩)
              dsimp only [Pt.U, Pt.locs, Pt.cells, Pt.slots] at X30 l30 y30 z30 st30 hQ30
              subst l30 y30 z30
              obtain ⟨rfl, Nq30, eq30⟩ := hQ30
              have N30 := Fr.app N0 Nq30
              refine Go.by (fun _ k => st30.trans k) ?_
              show Go p e below P (T30.setTop (mkF m 145 #[.val (.int p0), .val (.int p1), .val (.int (0 : Int32)), .val (.int c), .val (.int dx), .val (.int (0 : Int32)), .val (.int lx), .val (.int (0 : Int32)), .val (.ref wDIGITS), .val (.int (0 : Int32))] [(.int (0 : Int32))]))
              refine Go.by (fun _ => XS.iload X30.here hx rfl (hb hby at_145) rfl) ?_
              show Go p e below P (T30.setTop (mkF m 147 #[.val (.int p0), .val (.int p1), .val (.int (0 : Int32)), .val (.int c), .val (.int dx), .val (.int (0 : Int32)), .val (.int lx), .val (.int (0 : Int32)), .val (.ref wDIGITS), .val (.int (0 : Int32))] [(.int (0 : Int32)), (.int (0 : Int32))]))
              have hc147 : (0 : Int32) = (0 : Int32) := by decide
              refine Go.by (fun _ => XS.icmpNo X30.here hx rfl (hb hby at_147) rfl (teq hc147).2) ?_
              show Go p e below P (T30.setTop (mkF m 150 #[.val (.int p0), .val (.int p1), .val (.int (0 : Int32)), .val (.int c), .val (.int dx), .val (.int (0 : Int32)), .val (.int lx), .val (.int (0 : Int32)), .val (.ref wDIGITS), .val (.int (0 : Int32))] []))
              refine Go.by (fun _ => XS.iconst X30.here hx rfl (hb hby at_150)) ?_
              show Go p e below P (T30.setTop (mkF m 151 #[.val (.int p0), .val (.int p1), .val (.int (0 : Int32)), .val (.int c), .val (.int dx), .val (.int (0 : Int32)), .val (.int lx), .val (.int (0 : Int32)), .val (.ref wDIGITS), .val (.int (0 : Int32))] [(.int (1 : Int32))]))
              refine Go.by (fun _ => XS.goto X30.here hx rfl (pc0 := 151) (pc' := 155) rfl (hb hby at_151) (by decide) (by decide)) ?_
              show Go p e below P (T30.setTop (mkF m 155 #[.val (.int p0), .val (.int p1), .val (.int (0 : Int32)), .val (.int c), .val (.int dx), .val (.int (0 : Int32)), .val (.int lx), .val (.int (0 : Int32)), .val (.ref wDIGITS), .val (.int (0 : Int32))] [(.int (1 : Int32))]))
              subst hP
              refine Go.retZ X30 hx (t := .boolean) Bd.returns (by simp) hlk (hb hby at_155) (Nat.le_of_ble_eq_true rfl) (Nat.le_of_ble_eq_true rfl) ?_
              rw [eq30]
              exact ⟨rfl, N30⟩
            · refine Go.by (fun _ => XS.ifNo X0.here hx rfl (hb hby at_67) rfl ((if0 _ _).trans (flt hc67).1)) ?_
              show Go p e below P (s₁.setTop (mkF m 70 #[.val (.int p0), .val (.int p1), .val (.int (0 : Int32)), .val (.int c), .val (.int dx), .val (.int (0 : Int32)), .val (.int lx), .unset, .unset, .unset] []))
              refine Go.by (fun _ => XS.iload X0.here hx rfl (hb hby at_70) rfl) ?_
              show Go p e below P (s₁.setTop (mkF m 72 #[.val (.int p0), .val (.int p1), .val (.int (0 : Int32)), .val (.int c), .val (.int dx), .val (.int (0 : Int32)), .val (.int lx), .unset, .unset, .unset] [(.int lx)]))
              refine Go.by (fun _ => XS.bipush X0.here hx rfl (hb hby at_72)) ?_
              show Go p e below P (s₁.setTop (mkF m 74 #[.val (.int p0), .val (.int p1), .val (.int (0 : Int32)), .val (.int c), .val (.int dx), .val (.int (0 : Int32)), .val (.int lx), .unset, .unset, .unset] [(.int (26 : Int32)), (.int lx)]))
              have hc74 : ¬ (lx < (26 : Int32)) := (fun q => by have q0 := own_sub c 65 hj (by decide); have q1 := congrArg Int32.toInt hv_lx; have k65 : (65 : Int32).toInt = 65 := rfl; have q3 := hc67; rw [Int32.lt_iff_toInt_lt] at q3; have k0 : (0 : Int32).toInt = 0 := rfl; have l_26 : (26 : Int32).toInt = 26 := rfl; rw [Int32.lt_iff_toInt_lt] at q; omega)
              refine Go.by (fun _ => XS.icmpYes X0.here hx rfl (pc0 := 74) (pc' := 81) rfl (hb hby at_74) rfl (flt hc74).2.1 (by decide) (by decide)) ?_
              show Go p e below P (s₁.setTop (mkF m 81 #[.val (.int p0), .val (.int p1), .val (.int (0 : Int32)), .val (.int c), .val (.int dx), .val (.int (0 : Int32)), .val (.int lx), .unset, .unset, .unset] []))
              refine Go.by (fun _ => XS.iconst X0.here hx rfl (hb hby at_81)) ?_
              show Go p e below P (s₁.setTop (mkF m 82 #[.val (.int p0), .val (.int p1), .val (.int (0 : Int32)), .val (.int c), .val (.int dx), .val (.int (0 : Int32)), .val (.int lx), .unset, .unset, .unset] [(.int (0 : Int32))]))
              refine Go.by (fun _ => XS.istore X0.here hx rfl (hb hby at_82) rfl (l' := #[.val (.int p0), .val (.int p1), .val (.int (0 : Int32)), .val (.int c), .val (.int dx), .val (.int (0 : Int32)), .val (.int lx), .val (.int (0 : Int32)), .unset, .unset]) rfl) ?_
              show Go p e below P (s₁.setTop (mkF m 84 #[.val (.int p0), .val (.int p1), .val (.int (0 : Int32)), .val (.int c), .val (.int dx), .val (.int (0 : Int32)), .val (.int lx), .val (.int (0 : Int32)), .unset, .unset] []))
              refine Go.by (fun _ => XS.iloadN X0.here hx rfl (hb hby at_84) rfl) ?_
              show Go p e below P (s₁.setTop (mkF m 85 #[.val (.int p0), .val (.int p1), .val (.int (0 : Int32)), .val (.int c), .val (.int dx), .val (.int (0 : Int32)), .val (.int lx), .val (.int (0 : Int32)), .unset, .unset] [(.int (0 : Int32))]))
              have hc85 : (0 : Int32) = (0 : Int32) := by decide
              refine Go.by (fun _ => XS.ifNo X0.here hx rfl (hb hby at_85) rfl ((if0 _ _).trans (teq hc85).2)) ?_
              show Go p e below P (s₁.setTop (mkF m 88 #[.val (.int p0), .val (.int p1), .val (.int (0 : Int32)), .val (.int c), .val (.int dx), .val (.int (0 : Int32)), .val (.int lx), .val (.int (0 : Int32)), .unset, .unset] []))
              obtain ⟨T31, X31, e31, st31⟩ := getS2 X0 hx hZ hown (host := "") (Or.inl (hw _ (List.mem_of_getElem? (i := 2) rfl))) Via.refl e0 (G0.ext O0.2) (g := (mkF m 88 #[.val (.int p0), .val (.int p1), .val (.int (0 : Int32)), .val (.int c), .val (.int dx), .val (.int (0 : Int32)), .val (.int lx), .val (.int (0 : Int32)), .unset, .unset] [])) rfl (hb hby at_88)
              refine Go.by (fun _ => st31 _) ?_
              show Go p e below P (T31.setTop (mkF m 91 #[.val (.int p0), .val (.int p1), .val (.int (0 : Int32)), .val (.int c), .val (.int dx), .val (.int (0 : Int32)), .val (.int lx), .val (.int (0 : Int32)), .unset, .unset] [(.ref wDIGITS)]))
              refine Go.by (fun _ => XS.astore X31.here hx rfl (hb hby at_91) rfl rfl (l' := #[.val (.int p0), .val (.int p1), .val (.int (0 : Int32)), .val (.int c), .val (.int dx), .val (.int (0 : Int32)), .val (.int lx), .val (.int (0 : Int32)), .val (.ref wDIGITS), .unset]) rfl) ?_
              show Go p e below P (T31.setTop (mkF m 93 #[.val (.int p0), .val (.int p1), .val (.int (0 : Int32)), .val (.int c), .val (.int dx), .val (.int (0 : Int32)), .val (.int lx), .val (.int (0 : Int32)), .val (.ref wDIGITS), .unset] []))
              refine Go.by (fun _ => XS.iload X31.here hx rfl (hb hby at_93) rfl) ?_
              show Go p e below P (T31.setTop (mkF m 95 #[.val (.int p0), .val (.int p1), .val (.int (0 : Int32)), .val (.int c), .val (.int dx), .val (.int (0 : Int32)), .val (.int lx), .val (.int (0 : Int32)), .val (.ref wDIGITS), .unset] [(.int (0 : Int32))]))
              refine Go.by (fun _ => XS.istore X31.here hx rfl (hb hby at_95) rfl (l' := #[.val (.int p0), .val (.int p1), .val (.int (0 : Int32)), .val (.int c), .val (.int dx), .val (.int (0 : Int32)), .val (.int lx), .val (.int (0 : Int32)), .val (.ref wDIGITS), .val (.int (0 : Int32))]) rfl) ?_
              show Go p e below P (T31.setTop (mkF m 97 #[.val (.int p0), .val (.int p1), .val (.int (0 : Int32)), .val (.int c), .val (.int dx), .val (.int (0 : Int32)), .val (.int lx), .val (.int (0 : Int32)), .val (.ref wDIGITS), .val (.int (0 : Int32))] []))
              refine Go.by (fun _ => XS.goto X31.here hx rfl (pc0 := 97) (pc' := 139) rfl (hb hby at_97) (by decide) (by decide)) ?_
              show Go p e below P (T31.setTop (mkF m 139 #[.val (.int p0), .val (.int p1), .val (.int (0 : Int32)), .val (.int c), .val (.int dx), .val (.int (0 : Int32)), .val (.int lx), .val (.int (0 : Int32)), .val (.ref wDIGITS), .val (.int (0 : Int32))] []))
              refine Go.by (fun _ => XS.aload X31.here hx rfl (hb hby at_139) rfl rfl) ?_
              show Go p e below P (T31.setTop (mkF m 141 #[.val (.int p0), .val (.int p1), .val (.int (0 : Int32)), .val (.int c), .val (.int dx), .val (.int (0 : Int32)), .val (.int lx), .val (.int (0 : Int32)), .val (.ref wDIGITS), .val (.int (0 : Int32))] [(.ref wDIGITS)]))
              refine Go.by (fun _ => XS.iloadN X31.here hx rfl (hb hby at_141) rfl) ?_
              show Go p e below P (T31.setTop (mkF m 142 #[.val (.int p0), .val (.int p1), .val (.int (0 : Int32)), .val (.int c), .val (.int dx), .val (.int (0 : Int32)), .val (.int lx), .val (.int (0 : Int32)), .val (.ref wDIGITS), .val (.int (0 : Int32))] [(.int c), (.ref wDIGITS)]))
              obtain ⟨cq32, kq32, qa32, qb32, qc32⟩ := isOf hZ e31 (G1.ext O0.2)
              obtain ⟨_, _, ⟨T32, L32, k32, n32⟩, -, X32, ⟨Lc32, hQ32, l32, y32, z32⟩, st32⟩ := X31.virtualBack hx (y := (⟨"com/example/kontoform/kontoform/CharacterClass", "admits", "(C)Z"⟩ : MethodName)) (z := (⟨"com/example/kontoform/kontoform/CharacterClass", "admits", "(C)Z"⟩ : MethodName)) hown (mvT hZ (hw _ (List.mem_of_getElem? (i := 5) rfl))) (mvT hZ (hw _ (List.mem_of_getElem? (i := 6) rfl))) (notFace_of_selects (args := #[]) (mvT hZ (hw _ (List.mem_of_getElem? (i := 8) rfl)))) (mvT hZ (hw _ (List.mem_of_getElem? (i := 8) rfl))) (mvT hZ (hw _ (List.mem_of_getElem? (i := 7) rfl))) (by decide) (backOf (W := 0) (rm_adm0 l Z a0 hw [] wDIGITS wALPHANUMERIC wLETTERS hG c ((0 : Int32)) h0 n0 Z0 O0  (own_out48 c hd)) hZ (hw _ (List.mem_of_getElem? (i := 9) rfl)) (hw _ (List.mem_of_getElem? (i := 3) rfl)) (Nat.le_of_ble_eq_true rfl) (Nat.le_of_ble_eq_true rfl)) qa32 qc32 (g := (mkF m 142 #[.val (.int p0), .val (.int p1), .val (.int (0 : Int32)), .val (.int c), .val (.int dx), .val (.int (0 : Int32)), .val (.int lx), .val (.int (0 : Int32)), .val (.ref wDIGITS), .val (.int (0 : Int32))] [(.int c), (.ref wDIGITS)])) rfl (by rw [hml]; rfl) (Steps.refl _) (argsL := [(.int c)]) (rest := []) (lenOf pd_1 rfl) rfl (by show 2 * 0 + _ ≤ _; exact Nat.le_of_eq rfl) (hb hby at_142) (fun _ _ => ⟨rfl, e31, (Nat.le_of_ble_eq_true rfl : 0 + 0 ≤ _), (Nat.le_of_ble_eq_true rfl : 0 + 0 ≤ _)⟩)
              dsimp only [Pt.U, Pt.locs, Pt.cells, Pt.slots] at X32 l32 y32 z32 st32 hQ32
              subst l32 y32 z32
              obtain ⟨rfl, Nq32, eq32⟩ := hQ32
              have N32 := Fr.app N0 Nq32
              refine Go.by (fun _ k => st32.trans k) ?_
              show Go p e below P (T32.setTop (mkF m 145 #[.val (.int p0), .val (.int p1), .val (.int (0 : Int32)), .val (.int c), .val (.int dx), .val (.int (0 : Int32)), .val (.int lx), .val (.int (0 : Int32)), .val (.ref wDIGITS), .val (.int (0 : Int32))] [(.int (0 : Int32))]))
              refine Go.by (fun _ => XS.iload X32.here hx rfl (hb hby at_145) rfl) ?_
              show Go p e below P (T32.setTop (mkF m 147 #[.val (.int p0), .val (.int p1), .val (.int (0 : Int32)), .val (.int c), .val (.int dx), .val (.int (0 : Int32)), .val (.int lx), .val (.int (0 : Int32)), .val (.ref wDIGITS), .val (.int (0 : Int32))] [(.int (0 : Int32)), (.int (0 : Int32))]))
              have hc147 : (0 : Int32) = (0 : Int32) := by decide
              refine Go.by (fun _ => XS.icmpNo X32.here hx rfl (hb hby at_147) rfl (teq hc147).2) ?_
              show Go p e below P (T32.setTop (mkF m 150 #[.val (.int p0), .val (.int p1), .val (.int (0 : Int32)), .val (.int c), .val (.int dx), .val (.int (0 : Int32)), .val (.int lx), .val (.int (0 : Int32)), .val (.ref wDIGITS), .val (.int (0 : Int32))] []))
              refine Go.by (fun _ => XS.iconst X32.here hx rfl (hb hby at_150)) ?_
              show Go p e below P (T32.setTop (mkF m 151 #[.val (.int p0), .val (.int p1), .val (.int (0 : Int32)), .val (.int c), .val (.int dx), .val (.int (0 : Int32)), .val (.int lx), .val (.int (0 : Int32)), .val (.ref wDIGITS), .val (.int (0 : Int32))] [(.int (1 : Int32))]))
              refine Go.by (fun _ => XS.goto X32.here hx rfl (pc0 := 151) (pc' := 155) rfl (hb hby at_151) (by decide) (by decide)) ?_
              show Go p e below P (T32.setTop (mkF m 155 #[.val (.int p0), .val (.int p1), .val (.int (0 : Int32)), .val (.int c), .val (.int dx), .val (.int (0 : Int32)), .val (.int lx), .val (.int (0 : Int32)), .val (.ref wDIGITS), .val (.int (0 : Int32))] [(.int (1 : Int32))]))
              subst hP
              refine Go.retZ X32 hx (t := .boolean) Bd.returns (by simp) hlk (hb hby at_155) (Nat.le_of_ble_eq_true rfl) (Nat.le_of_ble_eq_true rfl) ?_
              rw [eq32]
              exact ⟨rfl, N32⟩
        · show Go p e below P (s₁.setTop (mkF m 34 #[.val (.int p0), .val (.int p1), .val (.int (1 : Int32)), .val (.int c), .unset, .unset, .unset, .unset, .unset, .unset] []))
          refine Go.by (fun _ => XS.iloadN X0.here hx rfl (hb hby at_34) rfl) ?_
          show Go p e below P (s₁.setTop (mkF m 35 #[.val (.int p0), .val (.int p1), .val (.int (1 : Int32)), .val (.int c), .unset, .unset, .unset, .unset, .unset, .unset] [(.int c)]))
          refine Go.by (fun _ => XS.bipush X0.here hx rfl (hb hby at_35)) ?_
          show Go p e below P (s₁.setTop (mkF m 37 #[.val (.int p0), .val (.int p1), .val (.int (1 : Int32)), .val (.int c), .unset, .unset, .unset, .unset, .unset, .unset] [(.int (48 : Int32)), (.int c)]))
          refine Go.by (fun _ => XS.isub X0.here hx rfl (hb hby at_37) rfl) ?_
          show Go p e below P (s₁.setTop (mkF m 38 #[.val (.int p0), .val (.int p1), .val (.int (1 : Int32)), .val (.int c), .unset, .unset, .unset, .unset, .unset, .unset] [(.int (c - (48 : Int32)))]))
          generalize hv_dx : (c - (48 : Int32)) = dx
          refine Go.by (fun _ => XS.istore X0.here hx rfl (hb hby at_38) rfl (l' := #[.val (.int p0), .val (.int p1), .val (.int (1 : Int32)), .val (.int c), .val (.int dx), .unset, .unset, .unset, .unset, .unset]) rfl) ?_
          show Go p e below P (s₁.setTop (mkF m 40 #[.val (.int p0), .val (.int p1), .val (.int (1 : Int32)), .val (.int c), .val (.int dx), .unset, .unset, .unset, .unset, .unset] []))
          refine Go.by (fun _ => XS.iload X0.here hx rfl (hb hby at_40) rfl) ?_
          show Go p e below P (s₁.setTop (mkF m 42 #[.val (.int p0), .val (.int p1), .val (.int (1 : Int32)), .val (.int c), .val (.int dx), .unset, .unset, .unset, .unset, .unset] [(.int dx)]))
          by_cases hc42 : dx < (0 : Int32)
          · refine Go.by (fun _ => XS.ifYes X0.here hx rfl (pc0 := 42) (pc' := 56) rfl (hb hby at_42) rfl ((if0 _ _).trans (tlt hc42).1) (by decide) (by decide)) ?_
            show Go p e below P (s₁.setTop (mkF m 56 #[.val (.int p0), .val (.int p1), .val (.int (1 : Int32)), .val (.int c), .val (.int dx), .unset, .unset, .unset, .unset, .unset] []))
            refine Go.by (fun _ => XS.iconst X0.here hx rfl (hb hby at_56)) ?_
            show Go p e below P (s₁.setTop (mkF m 57 #[.val (.int p0), .val (.int p1), .val (.int (1 : Int32)), .val (.int c), .val (.int dx), .unset, .unset, .unset, .unset, .unset] [(.int (0 : Int32))]))
            refine Go.by (fun _ => XS.istore X0.here hx rfl (hb hby at_57) rfl (l' := #[.val (.int p0), .val (.int p1), .val (.int (1 : Int32)), .val (.int c), .val (.int dx), .val (.int (0 : Int32)), .unset, .unset, .unset, .unset]) rfl) ?_
            show Go p e below P (s₁.setTop (mkF m 59 #[.val (.int p0), .val (.int p1), .val (.int (1 : Int32)), .val (.int c), .val (.int dx), .val (.int (0 : Int32)), .unset, .unset, .unset, .unset] []))
            refine Go.by (fun _ => XS.iloadN X0.here hx rfl (hb hby at_59) rfl) ?_
            show Go p e below P (s₁.setTop (mkF m 60 #[.val (.int p0), .val (.int p1), .val (.int (1 : Int32)), .val (.int c), .val (.int dx), .val (.int (0 : Int32)), .unset, .unset, .unset, .unset] [(.int c)]))
            refine Go.by (fun _ => XS.bipush X0.here hx rfl (hb hby at_60)) ?_
            show Go p e below P (s₁.setTop (mkF m 62 #[.val (.int p0), .val (.int p1), .val (.int (1 : Int32)), .val (.int c), .val (.int dx), .val (.int (0 : Int32)), .unset, .unset, .unset, .unset] [(.int (65 : Int32)), (.int c)]))
            refine Go.by (fun _ => XS.isub X0.here hx rfl (hb hby at_62) rfl) ?_
            show Go p e below P (s₁.setTop (mkF m 63 #[.val (.int p0), .val (.int p1), .val (.int (1 : Int32)), .val (.int c), .val (.int dx), .val (.int (0 : Int32)), .unset, .unset, .unset, .unset] [(.int (c - (65 : Int32)))]))
            generalize hv_lx : (c - (65 : Int32)) = lx
            refine Go.by (fun _ => XS.istore X0.here hx rfl (hb hby at_63) rfl (l' := #[.val (.int p0), .val (.int p1), .val (.int (1 : Int32)), .val (.int c), .val (.int dx), .val (.int (0 : Int32)), .val (.int lx), .unset, .unset, .unset]) rfl) ?_
            show Go p e below P (s₁.setTop (mkF m 65 #[.val (.int p0), .val (.int p1), .val (.int (1 : Int32)), .val (.int c), .val (.int dx), .val (.int (0 : Int32)), .val (.int lx), .unset, .unset, .unset] []))
            refine Go.by (fun _ => XS.iload X0.here hx rfl (hb hby at_65) rfl) ?_
            show Go p e below P (s₁.setTop (mkF m 67 #[.val (.int p0), .val (.int p1), .val (.int (1 : Int32)), .val (.int c), .val (.int dx), .val (.int (0 : Int32)), .val (.int lx), .unset, .unset, .unset] [(.int lx)]))
            by_cases hc67 : lx < (0 : Int32)
            · refine Go.by (fun _ => XS.ifYes X0.here hx rfl (pc0 := 67) (pc' := 81) rfl (hb hby at_67) rfl ((if0 _ _).trans (tlt hc67).1) (by decide) (by decide)) ?_
              show Go p e below P (s₁.setTop (mkF m 81 #[.val (.int p0), .val (.int p1), .val (.int (1 : Int32)), .val (.int c), .val (.int dx), .val (.int (0 : Int32)), .val (.int lx), .unset, .unset, .unset] []))
              refine Go.by (fun _ => XS.iconst X0.here hx rfl (hb hby at_81)) ?_
              show Go p e below P (s₁.setTop (mkF m 82 #[.val (.int p0), .val (.int p1), .val (.int (1 : Int32)), .val (.int c), .val (.int dx), .val (.int (0 : Int32)), .val (.int lx), .unset, .unset, .unset] [(.int (0 : Int32))]))
              refine Go.by (fun _ => XS.istore X0.here hx rfl (hb hby at_82) rfl (l' := #[.val (.int p0), .val (.int p1), .val (.int (1 : Int32)), .val (.int c), .val (.int dx), .val (.int (0 : Int32)), .val (.int lx), .val (.int (0 : Int32)), .unset, .unset]) rfl) ?_
              show Go p e below P (s₁.setTop (mkF m 84 #[.val (.int p0), .val (.int p1), .val (.int (1 : Int32)), .val (.int c), .val (.int dx), .val (.int (0 : Int32)), .val (.int lx), .val (.int (0 : Int32)), .unset, .unset] []))
              refine Go.by (fun _ => XS.iloadN X0.here hx rfl (hb hby at_84) rfl) ?_
              show Go p e below P (s₁.setTop (mkF m 85 #[.val (.int p0), .val (.int p1), .val (.int (1 : Int32)), .val (.int c), .val (.int dx), .val (.int (0 : Int32)), .val (.int lx), .val (.int (0 : Int32)), .unset, .unset] [(.int (1 : Int32))]))
              have hc85 : ¬ ((1 : Int32) = (0 : Int32)) := by decide
              refine Go.by (fun _ => XS.ifYes X0.here hx rfl (pc0 := 85) (pc' := 100) rfl (hb hby at_85) rfl ((if0 _ _).trans (feq hc85).2) (by decide) (by decide)) ?_
              show Go p e below P (s₁.setTop (mkF m 100 #[.val (.int p0), .val (.int p1), .val (.int (1 : Int32)), .val (.int c), .val (.int dx), .val (.int (0 : Int32)), .val (.int lx), .val (.int (0 : Int32)), .unset, .unset] []))
              refine Go.by (fun _ => XS.iloadN X0.here hx rfl (hb hby at_100) rfl) ?_
              show Go p e below P (s₁.setTop (mkF m 101 #[.val (.int p0), .val (.int p1), .val (.int (1 : Int32)), .val (.int c), .val (.int dx), .val (.int (0 : Int32)), .val (.int lx), .val (.int (0 : Int32)), .unset, .unset] [(.int (1 : Int32))]))
              refine Go.by (fun _ => XS.iconst X0.here hx rfl (hb hby at_101)) ?_
              show Go p e below P (s₁.setTop (mkF m 102 #[.val (.int p0), .val (.int p1), .val (.int (1 : Int32)), .val (.int c), .val (.int dx), .val (.int (0 : Int32)), .val (.int lx), .val (.int (0 : Int32)), .unset, .unset] [(.int (1 : Int32)), (.int (1 : Int32))]))
              have hc102 : (1 : Int32) = (1 : Int32) := by decide
              refine Go.by (fun _ => XS.icmpNo X0.here hx rfl (hb hby at_102) rfl (teq hc102).2) ?_
              show Go p e below P (s₁.setTop (mkF m 105 #[.val (.int p0), .val (.int p1), .val (.int (1 : Int32)), .val (.int c), .val (.int dx), .val (.int (0 : Int32)), .val (.int lx), .val (.int (0 : Int32)), .unset, .unset] []))
              obtain ⟨T33, X33, e33, st33⟩ := getS2 X0 hx hZ hown (host := "") (Or.inl (hw _ (List.mem_of_getElem? (i := 25) rfl))) Via.refl e0 (G6.ext O0.2) (g := (mkF m 105 #[.val (.int p0), .val (.int p1), .val (.int (1 : Int32)), .val (.int c), .val (.int dx), .val (.int (0 : Int32)), .val (.int lx), .val (.int (0 : Int32)), .unset, .unset] [])) rfl (hb hby at_105)
              refine Go.by (fun _ => st33 _) ?_
              show Go p e below P (T33.setTop (mkF m 108 #[.val (.int p0), .val (.int p1), .val (.int (1 : Int32)), .val (.int c), .val (.int dx), .val (.int (0 : Int32)), .val (.int lx), .val (.int (0 : Int32)), .unset, .unset] [(.ref wLETTERS)]))
              refine Go.by (fun _ => XS.astore X33.here hx rfl (hb hby at_108) rfl rfl (l' := #[.val (.int p0), .val (.int p1), .val (.int (1 : Int32)), .val (.int c), .val (.int dx), .val (.int (0 : Int32)), .val (.int lx), .val (.int (0 : Int32)), .val (.ref wLETTERS), .unset]) rfl) ?_
              show Go p e below P (T33.setTop (mkF m 110 #[.val (.int p0), .val (.int p1), .val (.int (1 : Int32)), .val (.int c), .val (.int dx), .val (.int (0 : Int32)), .val (.int lx), .val (.int (0 : Int32)), .val (.ref wLETTERS), .unset] []))
              refine Go.by (fun _ => XS.iload X33.here hx rfl (hb hby at_110) rfl) ?_
              show Go p e below P (T33.setTop (mkF m 112 #[.val (.int p0), .val (.int p1), .val (.int (1 : Int32)), .val (.int c), .val (.int dx), .val (.int (0 : Int32)), .val (.int lx), .val (.int (0 : Int32)), .val (.ref wLETTERS), .unset] [(.int (0 : Int32))]))
              refine Go.by (fun _ => XS.istore X33.here hx rfl (hb hby at_112) rfl (l' := #[.val (.int p0), .val (.int p1), .val (.int (1 : Int32)), .val (.int c), .val (.int dx), .val (.int (0 : Int32)), .val (.int lx), .val (.int (0 : Int32)), .val (.ref wLETTERS), .val (.int (0 : Int32))]) rfl) ?_
              show Go p e below P (T33.setTop (mkF m 114 #[.val (.int p0), .val (.int p1), .val (.int (1 : Int32)), .val (.int c), .val (.int dx), .val (.int (0 : Int32)), .val (.int lx), .val (.int (0 : Int32)), .val (.ref wLETTERS), .val (.int (0 : Int32))] []))
              refine Go.by (fun _ => XS.goto X33.here hx rfl (pc0 := 114) (pc' := 139) rfl (hb hby at_114) (by decide) (by decide)) ?_
              show Go p e below P (T33.setTop (mkF m 139 #[.val (.int p0), .val (.int p1), .val (.int (1 : Int32)), .val (.int c), .val (.int dx), .val (.int (0 : Int32)), .val (.int lx), .val (.int (0 : Int32)), .val (.ref wLETTERS), .val (.int (0 : Int32))] []))
              refine Go.by (fun _ => XS.aload X33.here hx rfl (hb hby at_139) rfl rfl) ?_
              show Go p e below P (T33.setTop (mkF m 141 #[.val (.int p0), .val (.int p1), .val (.int (1 : Int32)), .val (.int c), .val (.int dx), .val (.int (0 : Int32)), .val (.int lx), .val (.int (0 : Int32)), .val (.ref wLETTERS), .val (.int (0 : Int32))] [(.ref wLETTERS)]))
              refine Go.by (fun _ => XS.iloadN X33.here hx rfl (hb hby at_141) rfl) ?_
              show Go p e below P (T33.setTop (mkF m 142 #[.val (.int p0), .val (.int p1), .val (.int (1 : Int32)), .val (.int c), .val (.int dx), .val (.int (0 : Int32)), .val (.int lx), .val (.int (0 : Int32)), .val (.ref wLETTERS), .val (.int (0 : Int32))] [(.int c), (.ref wLETTERS)]))
              obtain ⟨cq34, kq34, qa34, qb34, qc34⟩ := isOf hZ e33 (G7.ext O0.2)
              obtain ⟨_, _, ⟨T34, L34, k34, n34⟩, -, X34, ⟨Lc34, hQ34, l34, y34, z34⟩, st34⟩ := X33.virtualBack hx (y := (⟨"com/example/kontoform/kontoform/CharacterClass", "admits", "(C)Z"⟩ : MethodName)) (z := (⟨"com/example/kontoform/kontoform/CharacterClass", "admits", "(C)Z"⟩ : MethodName)) hown (mvT hZ (hw _ (List.mem_of_getElem? (i := 5) rfl))) (mvT hZ (hw _ (List.mem_of_getElem? (i := 6) rfl))) (notFace_of_selects (args := #[]) (mvT hZ (hw _ (List.mem_of_getElem? (i := 8) rfl)))) (mvT hZ (hw _ (List.mem_of_getElem? (i := 8) rfl))) (mvT hZ (hw _ (List.mem_of_getElem? (i := 7) rfl))) (by decide) (backOf (W := 0) (rm_adm1 l Z a0 hw [] wDIGITS wALPHANUMERIC wLETTERS hG c ((0 : Int32)) h0 n0 Z0 O0  (own_out65 c hl)) hZ (hw _ (List.mem_of_getElem? (i := 9) rfl)) (hw _ (List.mem_of_getElem? (i := 3) rfl)) (Nat.le_of_ble_eq_true rfl) (Nat.le_of_ble_eq_true rfl)) qa34 qc34 (g := (mkF m 142 #[.val (.int p0), .val (.int p1), .val (.int (1 : Int32)), .val (.int c), .val (.int dx), .val (.int (0 : Int32)), .val (.int lx), .val (.int (0 : Int32)), .val (.ref wLETTERS), .val (.int (0 : Int32))] [(.int c), (.ref wLETTERS)])) rfl (by rw [hml]; rfl) (Steps.refl _) (argsL := [(.int c)]) (rest := []) (lenOf pd_1 rfl) rfl (by show 2 * 0 + _ ≤ _; exact Nat.le_of_eq rfl) (hb hby at_142) (fun _ _ => ⟨rfl, e33, (Nat.le_of_ble_eq_true rfl : 0 + 0 ≤ _), (Nat.le_of_ble_eq_true rfl : 0 + 0 ≤ _)⟩)
              dsimp only [Pt.U, Pt.locs, Pt.cells, Pt.slots] at X34 l34 y34 z34 st34 hQ34
              subst l34 y34 z34
              obtain ⟨rfl, Nq34, eq34⟩ := hQ34
              have N34 := Fr.app N0 Nq34
              refine Go.by (fun _ k => st34.trans k) ?_
              show Go p e below P (T34.setTop (mkF m 145 #[.val (.int p0), .val (.int p1), .val (.int (1 : Int32)), .val (.int c), .val (.int dx), .val (.int (0 : Int32)), .val (.int lx), .val (.int (0 : Int32)), .val (.ref wLETTERS), .val (.int (0 : Int32))] [(.int (0 : Int32))]))
              refine Go.by (fun _ => XS.iload X34.here hx rfl (hb hby at_145) rfl) ?_
              show Go p e below P (T34.setTop (mkF m 147 #[.val (.int p0), .val (.int p1), .val (.int (1 : Int32)), .val (.int c), .val (.int dx), .val (.int (0 : Int32)), .val (.int lx), .val (.int (0 : Int32)), .val (.ref wLETTERS), .val (.int (0 : Int32))] [(.int (0 : Int32)), (.int (0 : Int32))]))
              have hc147 : (0 : Int32) = (0 : Int32) := by decide
              refine Go.by (fun _ => XS.icmpNo X34.here hx rfl (hb hby at_147) rfl (teq hc147).2) ?_
              show Go p e below P (T34.setTop (mkF m 150 #[.val (.int p0), .val (.int p1), .val (.int (1 : Int32)), .val (.int c), .val (.int dx), .val (.int (0 : Int32)), .val (.int lx), .val (.int (0 : Int32)), .val (.ref wLETTERS), .val (.int (0 : Int32))] []))
              refine Go.by (fun _ => XS.iconst X34.here hx rfl (hb hby at_150)) ?_
              show Go p e below P (T34.setTop (mkF m 151 #[.val (.int p0), .val (.int p1), .val (.int (1 : Int32)), .val (.int c), .val (.int dx), .val (.int (0 : Int32)), .val (.int lx), .val (.int (0 : Int32)), .val (.ref wLETTERS), .val (.int (0 : Int32))] [(.int (1 : Int32))]))
              refine Go.by (fun _ => XS.goto X34.here hx rfl (pc0 := 151) (pc' := 155) rfl (hb hby at_151) (by decide) (by decide)) ?_
              show Go p e below P (T34.setTop (mkF m 155 #[.val (.int p0), .val (.int p1), .val (.int (1 : Int32)), .val (.int c), .val (.int dx), .val (.int (0 : Int32)), .val (.int lx), .val (.int (0 : Int32)), .val (.ref wLETTERS), .val (.int (0 : Int32))] [(.int (1 : Int32))]))
              subst hP
              refine Go.retZ X34 hx (t := .boolean) Bd.returns (by simp) hlk (hb hby at_155) (Nat.le_of_ble_eq_true rfl) (Nat.le_of_ble_eq_true rfl) ?_
              rw [eq34]
              exact ⟨rfl, N34⟩
            · refine Go.by (fun _ => XS.ifNo X0.here hx rfl (hb hby at_67) rfl ((if0 _ _).trans (flt hc67).1)) ?_
              show Go p e below P (s₁.setTop (mkF m 70 #[.val (.int p0), .val (.int p1), .val (.int (1 : Int32)), .val (.int c), .val (.int dx), .val (.int (0 : Int32)), .val (.int lx), .unset, .unset, .unset] []))
              refine Go.by (fun _ => XS.iload X0.here hx rfl (hb hby at_70) rfl) ?_
              show Go p e below P (s₁.setTop (mkF m 72 #[.val (.int p0), .val (.int p1), .val (.int (1 : Int32)), .val (.int c), .val (.int dx), .val (.int (0 : Int32)), .val (.int lx), .unset, .unset, .unset] [(.int lx)]))
              refine Go.by (fun _ => XS.bipush X0.here hx rfl (hb hby at_72)) ?_
              show Go p e below P (s₁.setTop (mkF m 74 #[.val (.int p0), .val (.int p1), .val (.int (1 : Int32)), .val (.int c), .val (.int dx), .val (.int (0 : Int32)), .val (.int lx), .unset, .unset, .unset] [(.int (26 : Int32)), (.int lx)]))
              have hc74 : ¬ (lx < (26 : Int32)) := (fun q => by have q0 := own_sub c 65 hj (by decide); have q1 := congrArg Int32.toInt hv_lx; have k65 : (65 : Int32).toInt = 65 := rfl; have q3 := hc67; rw [Int32.lt_iff_toInt_lt] at q3; have k0 : (0 : Int32).toInt = 0 := rfl; have l_26 : (26 : Int32).toInt = 26 := rfl; rw [Int32.lt_iff_toInt_lt] at q; omega)
              refine Go.by (fun _ => XS.icmpYes X0.here hx rfl (pc0 := 74) (pc' := 81) rfl (hb hby at_74) rfl (flt hc74).2.1 (by decide) (by decide)) ?_
              show Go p e below P (s₁.setTop (mkF m 81 #[.val (.int p0), .val (.int p1), .val (.int (1 : Int32)), .val (.int c), .val (.int dx), .val (.int (0 : Int32)), .val (.int lx), .unset, .unset, .unset] []))
              refine Go.by (fun _ => XS.iconst X0.here hx rfl (hb hby at_81)) ?_
              show Go p e below P (s₁.setTop (mkF m 82 #[.val (.int p0), .val (.int p1), .val (.int (1 : Int32)), .val (.int c), .val (.int dx), .val (.int (0 : Int32)), .val (.int lx), .unset, .unset, .unset] [(.int (0 : Int32))]))
              refine Go.by (fun _ => XS.istore X0.here hx rfl (hb hby at_82) rfl (l' := #[.val (.int p0), .val (.int p1), .val (.int (1 : Int32)), .val (.int c), .val (.int dx), .val (.int (0 : Int32)), .val (.int lx), .val (.int (0 : Int32)), .unset, .unset]) rfl) ?_
              show Go p e below P (s₁.setTop (mkF m 84 #[.val (.int p0), .val (.int p1), .val (.int (1 : Int32)), .val (.int c), .val (.int dx), .val (.int (0 : Int32)), .val (.int lx), .val (.int (0 : Int32)), .unset, .unset] []))
              refine Go.by (fun _ => XS.iloadN X0.here hx rfl (hb hby at_84) rfl) ?_
              show Go p e below P (s₁.setTop (mkF m 85 #[.val (.int p0), .val (.int p1), .val (.int (1 : Int32)), .val (.int c), .val (.int dx), .val (.int (0 : Int32)), .val (.int lx), .val (.int (0 : Int32)), .unset, .unset] [(.int (1 : Int32))]))
              have hc85 : ¬ ((1 : Int32) = (0 : Int32)) := by decide
              refine Go.by (fun _ => XS.ifYes X0.here hx rfl (pc0 := 85) (pc' := 100) rfl (hb hby at_85) rfl ((if0 _ _).trans (feq hc85).2) (by decide) (by decide)) ?_
              show Go p e below P (s₁.setTop (mkF m 100 #[.val (.int p0), .val (.int p1), .val (.int (1 : Int32)), .val (.int c), .val (.int dx), .val (.int (0 : Int32)), .val (.int lx), .val (.int (0 : Int32)), .unset, .unset] []))
              refine Go.by (fun _ => XS.iloadN X0.here hx rfl (hb hby at_100) rfl) ?_
              show Go p e below P (s₁.setTop (mkF m 101 #[.val (.int p0), .val (.int p1), .val (.int (1 : Int32)), .val (.int c), .val (.int dx), .val (.int (0 : Int32)), .val (.int lx), .val (.int (0 : Int32)), .unset, .unset] [(.int (1 : Int32))]))
              refine Go.by (fun _ => XS.iconst X0.here hx rfl (hb hby at_101)) ?_
              show Go p e below P (s₁.setTop (mkF m 102 #[.val (.int p0), .val (.int p1), .val (.int (1 : Int32)), .val (.int c), .val (.int dx), .val (.int (0 : Int32)), .val (.int lx), .val (.int (0 : Int32)), .unset, .unset] [(.int (1 : Int32)), (.int (1 : Int32))]))
              have hc102 : (1 : Int32) = (1 : Int32) := by decide
              refine Go.by (fun _ => XS.icmpNo X0.here hx rfl (hb hby at_102) rfl (teq hc102).2) ?_
              show Go p e below P (s₁.setTop (mkF m 105 #[.val (.int p0), .val (.int p1), .val (.int (1 : Int32)), .val (.int c), .val (.int dx), .val (.int (0 : Int32)), .val (.int lx), .val (.int (0 : Int32)), .unset, .unset] []))
              obtain ⟨T35, X35, e35, st35⟩ := getS2 X0 hx hZ hown (host := "") (Or.inl (hw _ (List.mem_of_getElem? (i := 25) rfl))) Via.refl e0 (G6.ext O0.2) (g := (mkF m 105 #[.val (.int p0), .val (.int p1), .val (.int (1 : Int32)), .val (.int c), .val (.int dx), .val (.int (0 : Int32)), .val (.int lx), .val (.int (0 : Int32)), .unset, .unset] [])) rfl (hb hby at_105)
              refine Go.by (fun _ => st35 _) ?_
              show Go p e below P (T35.setTop (mkF m 108 #[.val (.int p0), .val (.int p1), .val (.int (1 : Int32)), .val (.int c), .val (.int dx), .val (.int (0 : Int32)), .val (.int lx), .val (.int (0 : Int32)), .unset, .unset] [(.ref wLETTERS)]))
              refine Go.by (fun _ => XS.astore X35.here hx rfl (hb hby at_108) rfl rfl (l' := #[.val (.int p0), .val (.int p1), .val (.int (1 : Int32)), .val (.int c), .val (.int dx), .val (.int (0 : Int32)), .val (.int lx), .val (.int (0 : Int32)), .val (.ref wLETTERS), .unset]) rfl) ?_
              show Go p e below P (T35.setTop (mkF m 110 #[.val (.int p0), .val (.int p1), .val (.int (1 : Int32)), .val (.int c), .val (.int dx), .val (.int (0 : Int32)), .val (.int lx), .val (.int (0 : Int32)), .val (.ref wLETTERS), .unset] []))
              refine Go.by (fun _ => XS.iload X35.here hx rfl (hb hby at_110) rfl) ?_
              show Go p e below P (T35.setTop (mkF m 112 #[.val (.int p0), .val (.int p1), .val (.int (1 : Int32)), .val (.int c), .val (.int dx), .val (.int (0 : Int32)), .val (.int lx), .val (.int (0 : Int32)), .val (.ref wLETTERS), .unset] [(.int (0 : Int32))]))
              refine Go.by (fun _ => XS.istore X35.here hx rfl (hb hby at_112) rfl (l' := #[.val (.int p0), .val (.int p1), .val (.int (1 : Int32)), .val (.int c), .val (.int dx), .val (.int (0 : Int32)), .val (.int lx), .val (.int (0 : Int32)), .val (.ref wLETTERS), .val (.int (0 : Int32))]) rfl) ?_
              show Go p e below P (T35.setTop (mkF m 114 #[.val (.int p0), .val (.int p1), .val (.int (1 : Int32)), .val (.int c), .val (.int dx), .val (.int (0 : Int32)), .val (.int lx), .val (.int (0 : Int32)), .val (.ref wLETTERS), .val (.int (0 : Int32))] []))
              refine Go.by (fun _ => XS.goto X35.here hx rfl (pc0 := 114) (pc' := 139) rfl (hb hby at_114) (by decide) (by decide)) ?_
              show Go p e below P (T35.setTop (mkF m 139 #[.val (.int p0), .val (.int p1), .val (.int (1 : Int32)), .val (.int c), .val (.int dx), .val (.int (0 : Int32)), .val (.int lx), .val (.int (0 : Int32)), .val (.ref wLETTERS), .val (.int (0 : Int32))] []))
              refine Go.by (fun _ => XS.aload X35.here hx rfl (hb hby at_139) rfl rfl) ?_
              show Go p e below P (T35.setTop (mkF m 141 #[.val (.int p0), .val (.int p1), .val (.int (1 : Int32)), .val (.int c), .val (.int dx), .val (.int (0 : Int32)), .val (.int lx), .val (.int (0 : Int32)), .val (.ref wLETTERS), .val (.int (0 : Int32))] [(.ref wLETTERS)]))
              refine Go.by (fun _ => XS.iloadN X35.here hx rfl (hb hby at_141) rfl) ?_
              show Go p e below P (T35.setTop (mkF m 142 #[.val (.int p0), .val (.int p1), .val (.int (1 : Int32)), .val (.int c), .val (.int dx), .val (.int (0 : Int32)), .val (.int lx), .val (.int (0 : Int32)), .val (.ref wLETTERS), .val (.int (0 : Int32))] [(.int c), (.ref wLETTERS)]))
              obtain ⟨cq36, kq36, qa36, qb36, qc36⟩ := isOf hZ e35 (G7.ext O0.2)
              obtain ⟨_, _, ⟨T36, L36, k36, n36⟩, -, X36, ⟨Lc36, hQ36, l36, y36, z36⟩, st36⟩ := X35.virtualBack hx (y := (⟨"com/example/kontoform/kontoform/CharacterClass", "admits", "(C)Z"⟩ : MethodName)) (z := (⟨"com/example/kontoform/kontoform/CharacterClass", "admits", "(C)Z"⟩ : MethodName)) hown (mvT hZ (hw _ (List.mem_of_getElem? (i := 5) rfl))) (mvT hZ (hw _ (List.mem_of_getElem? (i := 6) rfl))) (notFace_of_selects (args := #[]) (mvT hZ (hw _ (List.mem_of_getElem? (i := 8) rfl)))) (mvT hZ (hw _ (List.mem_of_getElem? (i := 8) rfl))) (mvT hZ (hw _ (List.mem_of_getElem? (i := 7) rfl))) (by decide) (backOf (W := 0) (rm_adm1 l Z a0 hw [] wDIGITS wALPHANUMERIC wLETTERS hG c ((0 : Int32)) h0 n0 Z0 O0  (own_out65 c hl)) hZ (hw _ (List.mem_of_getElem? (i := 9) rfl)) (hw _ (List.mem_of_getElem? (i := 3) rfl)) (Nat.le_of_ble_eq_true rfl) (Nat.le_of_ble_eq_true rfl)) qa36 qc36 (g := (mkF m 142 #[.val (.int p0), .val (.int p1), .val (.int (1 : Int32)), .val (.int c), .val (.int dx), .val (.int (0 : Int32)), .val (.int lx), .val (.int (0 : Int32)), .val (.ref wLETTERS), .val (.int (0 : Int32))] [(.int c), (.ref wLETTERS)])) rfl (by rw [hml]; rfl) (Steps.refl _) (argsL := [(.int c)]) (rest := []) (lenOf pd_1 rfl) rfl (by show 2 * 0 + _ ≤ _; exact Nat.le_of_eq rfl) (hb hby at_142) (fun _ _ => ⟨rfl, e35, (Nat.le_of_ble_eq_true rfl : 0 + 0 ≤ _), (Nat.le_of_ble_eq_true rfl : 0 + 0 ≤ _)⟩)
              dsimp only [Pt.U, Pt.locs, Pt.cells, Pt.slots] at X36 l36 y36 z36 st36 hQ36
              subst l36 y36 z36
              obtain ⟨rfl, Nq36, eq36⟩ := hQ36
              have N36 := Fr.app N0 Nq36
              refine Go.by (fun _ k => st36.trans k) ?_
              show Go p e below P (T36.setTop (mkF m 145 #[.val (.int p0), .val (.int p1), .val (.int (1 : Int32)), .val (.int c), .val (.int dx), .val (.int (0 : Int32)), .val (.int lx), .val (.int (0 : Int32)), .val (.ref wLETTERS), .val (.int (0 : Int32))] [(.int (0 : Int32))]))
              refine Go.by (fun _ => XS.iload X36.here hx rfl (hb hby at_145) rfl) ?_
              show Go p e below P (T36.setTop (mkF m 147 #[.val (.int p0), .val (.int p1), .val (.int (1 : Int32)), .val (.int c), .val (.int dx), .val (.int (0 : Int32)), .val (.int lx), .val (.int (0 : Int32)), .val (.ref wLETTERS), .val (.int (0 : Int32))] [(.int (0 : Int32)), (.int (0 : Int32))]))
              have hc147 : (0 : Int32) = (0 : Int32) := by decide
              refine Go.by (fun _ => XS.icmpNo X36.here hx rfl (hb hby at_147) rfl (teq hc147).2) ?_
              show Go p e below P (T36.setTop (mkF m 150 #[.val (.int p0), .val (.int p1), .val (.int (1 : Int32)), .val (.int c), .val (.int dx), .val (.int (0 : Int32)), .val (.int lx), .val (.int (0 : Int32)), .val (.ref wLETTERS), .val (.int (0 : Int32))] []))
              refine Go.by (fun _ => XS.iconst X36.here hx rfl (hb hby at_150)) ?_
              show Go p e below P (T36.setTop (mkF m 151 #[.val (.int p0), .val (.int p1), .val (.int (1 : Int32)), .val (.int c), .val (.int dx), .val (.int (0 : Int32)), .val (.int lx), .val (.int (0 : Int32)), .val (.ref wLETTERS), .val (.int (0 : Int32))] [(.int (1 : Int32))]))
              refine Go.by (fun _ => XS.goto X36.here hx rfl (pc0 := 151) (pc' := 155) rfl (hb hby at_151) (by decide) (by decide)) ?_
              show Go p e below P (T36.setTop (mkF m 155 #[.val (.int p0), .val (.int p1), .val (.int (1 : Int32)), .val (.int c), .val (.int dx), .val (.int (0 : Int32)), .val (.int lx), .val (.int (0 : Int32)), .val (.ref wLETTERS), .val (.int (0 : Int32))] [(.int (1 : Int32))]))
              subst hP
              refine Go.retZ X36 hx (t := .boolean) Bd.returns (by simp) hlk (hb hby at_155) (Nat.le_of_ble_eq_true rfl) (Nat.le_of_ble_eq_true rfl) ?_
              rw [eq36]
              exact ⟨rfl, N36⟩
          · refine Go.by (fun _ => XS.ifNo X0.here hx rfl (hb hby at_42) rfl ((if0 _ _).trans (flt hc42).1)) ?_
            show Go p e below P (s₁.setTop (mkF m 45 #[.val (.int p0), .val (.int p1), .val (.int (1 : Int32)), .val (.int c), .val (.int dx), .unset, .unset, .unset, .unset, .unset] []))
            refine Go.by (fun _ => XS.iload X0.here hx rfl (hb hby at_45) rfl) ?_
            show Go p e below P (s₁.setTop (mkF m 47 #[.val (.int p0), .val (.int p1), .val (.int (1 : Int32)), .val (.int c), .val (.int dx), .unset, .unset, .unset, .unset, .unset] [(.int dx)]))
            refine Go.by (fun _ => XS.bipush X0.here hx rfl (hb hby at_47)) ?_
            show Go p e below P (s₁.setTop (mkF m 49 #[.val (.int p0), .val (.int p1), .val (.int (1 : Int32)), .val (.int c), .val (.int dx), .unset, .unset, .unset, .unset, .unset] [(.int (10 : Int32)), (.int dx)]))
            have hc49 : ¬ (dx < (10 : Int32)) := (fun q => by have q0 := own_sub c 48 hj (by decide); have q1 := congrArg Int32.toInt hv_dx; have k48 : (48 : Int32).toInt = 48 := rfl; have q3 := hc42; rw [Int32.lt_iff_toInt_lt] at q3; have k0 : (0 : Int32).toInt = 0 := rfl; have l_10 : (10 : Int32).toInt = 10 := rfl; rw [Int32.lt_iff_toInt_lt] at q; omega)
            refine Go.by (fun _ => XS.icmpYes X0.here hx rfl (pc0 := 49) (pc' := 56) rfl (hb hby at_49) rfl (flt hc49).2.1 (by decide) (by decide)) ?_
            show Go p e below P (s₁.setTop (mkF m 56 #[.val (.int p0), .val (.int p1), .val (.int (1 : Int32)), .val (.int c), .val (.int dx), .unset, .unset, .unset, .unset, .unset] []))
            refine Go.by (fun _ => XS.iconst X0.here hx rfl (hb hby at_56)) ?_
            show Go p e below P (s₁.setTop (mkF m 57 #[.val (.int p0), .val (.int p1), .val (.int (1 : Int32)), .val (.int c), .val (.int dx), .unset, .unset, .unset, .unset, .unset] [(.int (0 : Int32))]))
            refine Go.by (fun _ => XS.istore X0.here hx rfl (hb hby at_57) rfl (l' := #[.val (.int p0), .val (.int p1), .val (.int (1 : Int32)), .val (.int c), .val (.int dx), .val (.int (0 : Int32)), .unset, .unset, .unset, .unset]) rfl) ?_
            show Go p e below P (s₁.setTop (mkF m 59 #[.val (.int p0), .val (.int p1), .val (.int (1 : Int32)), .val (.int c), .val (.int dx), .val (.int (0 : Int32)), .unset, .unset, .unset, .unset] []))
            refine Go.by (fun _ => XS.iloadN X0.here hx rfl (hb hby at_59) rfl) ?_
            show Go p e below P (s₁.setTop (mkF m 60 #[.val (.int p0), .val (.int p1), .val (.int (1 : Int32)), .val (.int c), .val (.int dx), .val (.int (0 : Int32)), .unset, .unset, .unset, .unset] [(.int c)]))
            refine Go.by (fun _ => XS.bipush X0.here hx rfl (hb hby at_60)) ?_
            show Go p e below P (s₁.setTop (mkF m 62 #[.val (.int p0), .val (.int p1), .val (.int (1 : Int32)), .val (.int c), .val (.int dx), .val (.int (0 : Int32)), .unset, .unset, .unset, .unset] [(.int (65 : Int32)), (.int c)]))
            refine Go.by (fun _ => XS.isub X0.here hx rfl (hb hby at_62) rfl) ?_
            show Go p e below P (s₁.setTop (mkF m 63 #[.val (.int p0), .val (.int p1), .val (.int (1 : Int32)), .val (.int c), .val (.int dx), .val (.int (0 : Int32)), .unset, .unset, .unset, .unset] [(.int (c - (65 : Int32)))]))
            generalize hv_lx : (c - (65 : Int32)) = lx
            refine Go.by (fun _ => XS.istore X0.here hx rfl (hb hby at_63) rfl (l' := #[.val (.int p0), .val (.int p1), .val (.int (1 : Int32)), .val (.int c), .val (.int dx), .val (.int (0 : Int32)), .val (.int lx), .unset, .unset, .unset]) rfl) ?_
            show Go p e below P (s₁.setTop (mkF m 65 #[.val (.int p0), .val (.int p1), .val (.int (1 : Int32)), .val (.int c), .val (.int dx), .val (.int (0 : Int32)), .val (.int lx), .unset, .unset, .unset] []))
            refine Go.by (fun _ => XS.iload X0.here hx rfl (hb hby at_65) rfl) ?_
            show Go p e below P (s₁.setTop (mkF m 67 #[.val (.int p0), .val (.int p1), .val (.int (1 : Int32)), .val (.int c), .val (.int dx), .val (.int (0 : Int32)), .val (.int lx), .unset, .unset, .unset] [(.int lx)]))
            by_cases hc67 : lx < (0 : Int32)
            · refine Go.by (fun _ => XS.ifYes X0.here hx rfl (pc0 := 67) (pc' := 81) rfl (hb hby at_67) rfl ((if0 _ _).trans (tlt hc67).1) (by decide) (by decide)) ?_
              show Go p e below P (s₁.setTop (mkF m 81 #[.val (.int p0), .val (.int p1), .val (.int (1 : Int32)), .val (.int c), .val (.int dx), .val (.int (0 : Int32)), .val (.int lx), .unset, .unset, .unset] []))
              refine Go.by (fun _ => XS.iconst X0.here hx rfl (hb hby at_81)) ?_
              show Go p e below P (s₁.setTop (mkF m 82 #[.val (.int p0), .val (.int p1), .val (.int (1 : Int32)), .val (.int c), .val (.int dx), .val (.int (0 : Int32)), .val (.int lx), .unset, .unset, .unset] [(.int (0 : Int32))]))
              refine Go.by (fun _ => XS.istore X0.here hx rfl (hb hby at_82) rfl (l' := #[.val (.int p0), .val (.int p1), .val (.int (1 : Int32)), .val (.int c), .val (.int dx), .val (.int (0 : Int32)), .val (.int lx), .val (.int (0 : Int32)), .unset, .unset]) rfl) ?_
              show Go p e below P (s₁.setTop (mkF m 84 #[.val (.int p0), .val (.int p1), .val (.int (1 : Int32)), .val (.int c), .val (.int dx), .val (.int (0 : Int32)), .val (.int lx), .val (.int (0 : Int32)), .unset, .unset] []))
              refine Go.by (fun _ => XS.iloadN X0.here hx rfl (hb hby at_84) rfl) ?_
              show Go p e below P (s₁.setTop (mkF m 85 #[.val (.int p0), .val (.int p1), .val (.int (1 : Int32)), .val (.int c), .val (.int dx), .val (.int (0 : Int32)), .val (.int lx), .val (.int (0 : Int32)), .unset, .unset] [(.int (1 : Int32))]))
              have hc85 : ¬ ((1 : Int32) = (0 : Int32)) := by decide
              refine Go.by (fun _ => XS.ifYes X0.here hx rfl (pc0 := 85) (pc' := 100) rfl (hb hby at_85) rfl ((if0 _ _).trans (feq hc85).2) (by decide) (by decide)) ?_
              show Go p e below P (s₁.setTop (mkF m 100 #[.val (.int p0), .val (.int p1), .val (.int (1 : Int32)), .val (.int c), .val (.int dx), .val (.int (0 : Int32)), .val (.int lx), .val (.int (0 : Int32)), .unset, .unset] []))
              refine Go.by (fun _ => XS.iloadN X0.here hx rfl (hb hby at_100) rfl) ?_
              show Go p e below P (s₁.setTop (mkF m 101 #[.val (.int p0), .val (.int p1), .val (.int (1 : Int32)), .val (.int c), .val (.int dx), .val (.int (0 : Int32)), .val (.int lx), .val (.int (0 : Int32)), .unset, .unset] [(.int (1 : Int32))]))
              refine Go.by (fun _ => XS.iconst X0.here hx rfl (hb hby at_101)) ?_
              show Go p e below P (s₁.setTop (mkF m 102 #[.val (.int p0), .val (.int p1), .val (.int (1 : Int32)), .val (.int c), .val (.int dx), .val (.int (0 : Int32)), .val (.int lx), .val (.int (0 : Int32)), .unset, .unset] [(.int (1 : Int32)), (.int (1 : Int32))]))
              have hc102 : (1 : Int32) = (1 : Int32) := by decide
              refine Go.by (fun _ => XS.icmpNo X0.here hx rfl (hb hby at_102) rfl (teq hc102).2) ?_
              show Go p e below P (s₁.setTop (mkF m 105 #[.val (.int p0), .val (.int p1), .val (.int (1 : Int32)), .val (.int c), .val (.int dx), .val (.int (0 : Int32)), .val (.int lx), .val (.int (0 : Int32)), .unset, .unset] []))
              obtain ⟨T37, X37, e37, st37⟩ := getS2 X0 hx hZ hown (host := "") (Or.inl (hw _ (List.mem_of_getElem? (i := 25) rfl))) Via.refl e0 (G6.ext O0.2) (g := (mkF m 105 #[.val (.int p0), .val (.int p1), .val (.int (1 : Int32)), .val (.int c), .val (.int dx), .val (.int (0 : Int32)), .val (.int lx), .val (.int (0 : Int32)), .unset, .unset] [])) rfl (hb hby at_105)
              refine Go.by (fun _ => st37 _) ?_
              show Go p e below P (T37.setTop (mkF m 108 #[.val (.int p0), .val (.int p1), .val (.int (1 : Int32)), .val (.int c), .val (.int dx), .val (.int (0 : Int32)), .val (.int lx), .val (.int (0 : Int32)), .unset, .unset] [(.ref wLETTERS)]))
              refine Go.by (fun _ => XS.astore X37.here hx rfl (hb hby at_108) rfl rfl (l' := #[.val (.int p0), .val (.int p1), .val (.int (1 : Int32)), .val (.int c), .val (.int dx), .val (.int (0 : Int32)), .val (.int lx), .val (.int (0 : Int32)), .val (.ref wLETTERS), .unset]) rfl) ?_
              show Go p e below P (T37.setTop (mkF m 110 #[.val (.int p0), .val (.int p1), .val (.int (1 : Int32)), .val (.int c), .val (.int dx), .val (.int (0 : Int32)), .val (.int lx), .val (.int (0 : Int32)), .val (.ref wLETTERS), .unset] []))
              refine Go.by (fun _ => XS.iload X37.here hx rfl (hb hby at_110) rfl) ?_
              show Go p e below P (T37.setTop (mkF m 112 #[.val (.int p0), .val (.int p1), .val (.int (1 : Int32)), .val (.int c), .val (.int dx), .val (.int (0 : Int32)), .val (.int lx), .val (.int (0 : Int32)), .val (.ref wLETTERS), .unset] [(.int (0 : Int32))]))
              refine Go.by (fun _ => XS.istore X37.here hx rfl (hb hby at_112) rfl (l' := #[.val (.int p0), .val (.int p1), .val (.int (1 : Int32)), .val (.int c), .val (.int dx), .val (.int (0 : Int32)), .val (.int lx), .val (.int (0 : Int32)), .val (.ref wLETTERS), .val (.int (0 : Int32))]) rfl) ?_
              show Go p e below P (T37.setTop (mkF m 114 #[.val (.int p0), .val (.int p1), .val (.int (1 : Int32)), .val (.int c), .val (.int dx), .val (.int (0 : Int32)), .val (.int lx), .val (.int (0 : Int32)), .val (.ref wLETTERS), .val (.int (0 : Int32))] []))
              refine Go.by (fun _ => XS.goto X37.here hx rfl (pc0 := 114) (pc' := 139) rfl (hb hby at_114) (by decide) (by decide)) ?_
              show Go p e below P (T37.setTop (mkF m 139 #[.val (.int p0), .val (.int p1), .val (.int (1 : Int32)), .val (.int c), .val (.int dx), .val (.int (0 : Int32)), .val (.int lx), .val (.int (0 : Int32)), .val (.ref wLETTERS), .val (.int (0 : Int32))] []))
              refine Go.by (fun _ => XS.aload X37.here hx rfl (hb hby at_139) rfl rfl) ?_
              show Go p e below P (T37.setTop (mkF m 141 #[.val (.int p0), .val (.int p1), .val (.int (1 : Int32)), .val (.int c), .val (.int dx), .val (.int (0 : Int32)), .val (.int lx), .val (.int (0 : Int32)), .val (.ref wLETTERS), .val (.int (0 : Int32))] [(.ref wLETTERS)]))
              refine Go.by (fun _ => XS.iloadN X37.here hx rfl (hb hby at_141) rfl) ?_
              show Go p e below P (T37.setTop (mkF m 142 #[.val (.int p0), .val (.int p1), .val (.int (1 : Int32)), .val (.int c), .val (.int dx), .val (.int (0 : Int32)), .val (.int lx), .val (.int (0 : Int32)), .val (.ref wLETTERS), .val (.int (0 : Int32))] [(.int c), (.ref wLETTERS)]))
              obtain ⟨cq38, kq38, qa38, qb38, qc38⟩ := isOf hZ e37 (G7.ext O0.2)
              obtain ⟨_, _, ⟨T38, L38, k38, n38⟩, -, X38, ⟨Lc38, hQ38, l38, y38, z38⟩, st38⟩ := X37.virtualBack hx (y := (⟨"com/example/kontoform/kontoform/CharacterClass", "admits", "(C)Z"⟩ : MethodName)) (z := (⟨"com/example/kontoform/kontoform/CharacterClass", "admits", "(C)Z"⟩ : MethodName)) hown (mvT hZ (hw _ (List.mem_of_getElem? (i := 5) rfl))) (mvT hZ (hw _ (List.mem_of_getElem? (i := 6) rfl))) (notFace_of_selects (args := #[]) (mvT hZ (hw _ (List.mem_of_getElem? (i := 8) rfl)))) (mvT hZ (hw _ (List.mem_of_getElem? (i := 8) rfl))) (mvT hZ (hw _ (List.mem_of_getElem? (i := 7) rfl))) (by decide) (backOf (W := 0) (rm_adm1 l Z a0 hw [] wDIGITS wALPHANUMERIC wLETTERS hG c ((0 : Int32)) h0 n0 Z0 O0  (own_out65 c hl)) hZ (hw _ (List.mem_of_getElem? (i := 9) rfl)) (hw _ (List.mem_of_getElem? (i := 3) rfl)) (Nat.le_of_ble_eq_true rfl) (Nat.le_of_ble_eq_true rfl)) qa38 qc38 (g := (mkF m 142 #[.val (.int p0), .val (.int p1), .val (.int (1 : Int32)), .val (.int c), .val (.int dx), .val (.int (0 : Int32)), .val (.int lx), .val (.int (0 : Int32)), .val (.ref wLETTERS), .val (.int (0 : Int32))] [(.int c), (.ref wLETTERS)])) rfl (by rw [hml]; rfl) (Steps.refl _) (argsL := [(.int c)]) (rest := []) (lenOf pd_1 rfl) rfl (by show 2 * 0 + _ ≤ _; exact Nat.le_of_eq rfl) (hb hby at_142) (fun _ _ => ⟨rfl, e37, (Nat.le_of_ble_eq_true rfl : 0 + 0 ≤ _), (Nat.le_of_ble_eq_true rfl : 0 + 0 ≤ _)⟩)
              dsimp only [Pt.U, Pt.locs, Pt.cells, Pt.slots] at X38 l38 y38 z38 st38 hQ38
              subst l38 y38 z38
              obtain ⟨rfl, Nq38, eq38⟩ := hQ38
              have N38 := Fr.app N0 Nq38
              refine Go.by (fun _ k => st38.trans k) ?_
              show Go p e below P (T38.setTop (mkF m 145 #[.val (.int p0), .val (.int p1), .val (.int (1 : Int32)), .val (.int c), .val (.int dx), .val (.int (0 : Int32)), .val (.int lx), .val (.int (0 : Int32)), .val (.ref wLETTERS), .val (.int (0 : Int32))] [(.int (0 : Int32))]))
              refine Go.by (fun _ => XS.iload X38.here hx rfl (hb hby at_145) rfl) ?_
              show Go p e below P (T38.setTop (mkF m 147 #[.val (.int p0), .val (.int p1), .val (.int (1 : Int32)), .val (.int c), .val (.int dx), .val (.int (0 : Int32)), .val (.int lx), .val (.int (0 : Int32)), .val (.ref wLETTERS), .val (.int (0 : Int32))] [(.int (0 : Int32)), (.int (0 : Int32))]))
              have hc147 : (0 : Int32) = (0 : Int32) := by decide
              refine Go.by (fun _ => XS.icmpNo X38.here hx rfl (hb hby at_147) rfl (teq hc147).2) ?_
              show Go p e below P (T38.setTop (mkF m 150 #[.val (.int p0), .val (.int p1), .val (.int (1 : Int32)), .val (.int c), .val (.int dx), .val (.int (0 : Int32)), .val (.int lx), .val (.int (0 : Int32)), .val (.ref wLETTERS), .val (.int (0 : Int32))] []))
              refine Go.by (fun _ => XS.iconst X38.here hx rfl (hb hby at_150)) ?_
              show Go p e below P (T38.setTop (mkF m 151 #[.val (.int p0), .val (.int p1), .val (.int (1 : Int32)), .val (.int c), .val (.int dx), .val (.int (0 : Int32)), .val (.int lx), .val (.int (0 : Int32)), .val (.ref wLETTERS), .val (.int (0 : Int32))] [(.int (1 : Int32))]))
              refine Go.by (fun _ => XS.goto X38.here hx rfl (pc0 := 151) (pc' := 155) rfl (hb hby at_151) (by decide) (by decide)) ?_
              show Go p e below P (T38.setTop (mkF m 155 #[.val (.int p0), .val (.int p1), .val (.int (1 : Int32)), .val (.int c), .val (.int dx), .val (.int (0 : Int32)), .val (.int lx), .val (.int (0 : Int32)), .val (.ref wLETTERS), .val (.int (0 : Int32))] [(.int (1 : Int32))]))
              subst hP
              refine Go.retZ X38 hx (t := .boolean) Bd.returns (by simp) hlk (hb hby at_155) (Nat.le_of_ble_eq_true rfl) (Nat.le_of_ble_eq_true rfl) ?_
              rw [eq38]
              exact ⟨rfl, N38⟩
            · refine Go.by (fun _ => XS.ifNo X0.here hx rfl (hb hby at_67) rfl ((if0 _ _).trans (flt hc67).1)) ?_
              show Go p e below P (s₁.setTop (mkF m 70 #[.val (.int p0), .val (.int p1), .val (.int (1 : Int32)), .val (.int c), .val (.int dx), .val (.int (0 : Int32)), .val (.int lx), .unset, .unset, .unset] []))
              refine Go.by (fun _ => XS.iload X0.here hx rfl (hb hby at_70) rfl) ?_
              show Go p e below P (s₁.setTop (mkF m 72 #[.val (.int p0), .val (.int p1), .val (.int (1 : Int32)), .val (.int c), .val (.int dx), .val (.int (0 : Int32)), .val (.int lx), .unset, .unset, .unset] [(.int lx)]))
              refine Go.by (fun _ => XS.bipush X0.here hx rfl (hb hby at_72)) ?_
              show Go p e below P (s₁.setTop (mkF m 74 #[.val (.int p0), .val (.int p1), .val (.int (1 : Int32)), .val (.int c), .val (.int dx), .val (.int (0 : Int32)), .val (.int lx), .unset, .unset, .unset] [(.int (26 : Int32)), (.int lx)]))
              have hc74 : ¬ (lx < (26 : Int32)) := (fun q => by have q0 := own_sub c 65 hj (by decide); have q1 := congrArg Int32.toInt hv_lx; have k65 : (65 : Int32).toInt = 65 := rfl; have q3 := hc67; rw [Int32.lt_iff_toInt_lt] at q3; have k0 : (0 : Int32).toInt = 0 := rfl; have l_26 : (26 : Int32).toInt = 26 := rfl; rw [Int32.lt_iff_toInt_lt] at q; omega)
              refine Go.by (fun _ => XS.icmpYes X0.here hx rfl (pc0 := 74) (pc' := 81) rfl (hb hby at_74) rfl (flt hc74).2.1 (by decide) (by decide)) ?_
              show Go p e below P (s₁.setTop (mkF m 81 #[.val (.int p0), .val (.int p1), .val (.int (1 : Int32)), .val (.int c), .val (.int dx), .val (.int (0 : Int32)), .val (.int lx), .unset, .unset, .unset] []))
              refine Go.by (fun _ => XS.iconst X0.here hx rfl (hb hby at_81)) ?_
              show Go p e below P (s₁.setTop (mkF m 82 #[.val (.int p0), .val (.int p1), .val (.int (1 : Int32)), .val (.int c), .val (.int dx), .val (.int (0 : Int32)), .val (.int lx), .unset, .unset, .unset] [(.int (0 : Int32))]))
              refine Go.by (fun _ => XS.istore X0.here hx rfl (hb hby at_82) rfl (l' := #[.val (.int p0), .val (.int p1), .val (.int (1 : Int32)), .val (.int c), .val (.int dx), .val (.int (0 : Int32)), .val (.int lx), .val (.int (0 : Int32)), .unset, .unset]) rfl) ?_
              show Go p e below P (s₁.setTop (mkF m 84 #[.val (.int p0), .val (.int p1), .val (.int (1 : Int32)), .val (.int c), .val (.int dx), .val (.int (0 : Int32)), .val (.int lx), .val (.int (0 : Int32)), .unset, .unset] []))
              refine Go.by (fun _ => XS.iloadN X0.here hx rfl (hb hby at_84) rfl) ?_
              show Go p e below P (s₁.setTop (mkF m 85 #[.val (.int p0), .val (.int p1), .val (.int (1 : Int32)), .val (.int c), .val (.int dx), .val (.int (0 : Int32)), .val (.int lx), .val (.int (0 : Int32)), .unset, .unset] [(.int (1 : Int32))]))
              have hc85 : ¬ ((1 : Int32) = (0 : Int32)) := by decide
              refine Go.by (fun _ => XS.ifYes X0.here hx rfl (pc0 := 85) (pc' := 100) rfl (hb hby at_85) rfl ((if0 _ _).trans (feq hc85).2) (by decide) (by decide)) ?_
              show Go p e below P (s₁.setTop (mkF m 100 #[.val (.int p0), .val (.int p1), .val (.int (1 : Int32)), .val (.int c), .val (.int dx), .val (.int (0 : Int32)), .val (.int lx), .val (.int (0 : Int32)), .unset, .unset] []))
              refine Go.by (fun _ => XS.iloadN X0.here hx rfl (hb hby at_100) rfl) ?_
              show Go p e below P (s₁.setTop (mkF m 101 #[.val (.int p0), .val (.int p1), .val (.int (1 : Int32)), .val (.int c), .val (.int dx), .val (.int (0 : Int32)), .val (.int lx), .val (.int (0 : Int32)), .unset, .unset] [(.int (1 : Int32))]))
              refine Go.by (fun _ => XS.iconst X0.here hx rfl (hb hby at_101)) ?_
              show Go p e below P (s₁.setTop (mkF m 102 #[.val (.int p0), .val (.int p1), .val (.int (1 : Int32)), .val (.int c), .val (.int dx), .val (.int (0 : Int32)), .val (.int lx), .val (.int (0 : Int32)), .unset, .unset] [(.int (1 : Int32)), (.int (1 : Int32))]))
              have hc102 : (1 : Int32) = (1 : Int32) := by decide
              refine Go.by (fun _ => XS.icmpNo X0.here hx rfl (hb hby at_102) rfl (teq hc102).2) ?_
              show Go p e below P (s₁.setTop (mkF m 105 #[.val (.int p0), .val (.int p1), .val (.int (1 : Int32)), .val (.int c), .val (.int dx), .val (.int (0 : Int32)), .val (.int lx), .val (.int (0 : Int32)), .unset, .unset] []))
              obtain ⟨T39, X39, e39, st39⟩ := getS2 X0 hx hZ hown (host := "") (Or.inl (hw _ (List.mem_of_getElem? (i := 25) rfl))) Via.refl e0 (G6.ext O0.2) (g := (mkF m 105 #[.val (.int p0), .val (.int p1), .val (.int (1 : Int32)), .val (.int c), .val (.int dx), .val (.int (0 : Int32)), .val (.int lx), .val (.int (0 : Int32)), .unset, .unset] [])) rfl (hb hby at_105)
              refine Go.by (fun _ => st39 _) ?_
              show Go p e below P (T39.setTop (mkF m 108 #[.val (.int p0), .val (.int p1), .val (.int (1 : Int32)), .val (.int c), .val (.int dx), .val (.int (0 : Int32)), .val (.int lx), .val (.int (0 : Int32)), .unset, .unset] [(.ref wLETTERS)]))
              refine Go.by (fun _ => XS.astore X39.here hx rfl (hb hby at_108) rfl rfl (l' := #[.val (.int p0), .val (.int p1), .val (.int (1 : Int32)), .val (.int c), .val (.int dx), .val (.int (0 : Int32)), .val (.int lx), .val (.int (0 : Int32)), .val (.ref wLETTERS), .unset]) rfl) ?_
              show Go p e below P (T39.setTop (mkF m 110 #[.val (.int p0), .val (.int p1), .val (.int (1 : Int32)), .val (.int c), .val (.int dx), .val (.int (0 : Int32)), .val (.int lx), .val (.int (0 : Int32)), .val (.ref wLETTERS), .unset] []))
              refine Go.by (fun _ => XS.iload X39.here hx rfl (hb hby at_110) rfl) ?_
              show Go p e below P (T39.setTop (mkF m 112 #[.val (.int p0), .val (.int p1), .val (.int (1 : Int32)), .val (.int c), .val (.int dx), .val (.int (0 : Int32)), .val (.int lx), .val (.int (0 : Int32)), .val (.ref wLETTERS), .unset] [(.int (0 : Int32))]))
              refine Go.by (fun _ => XS.istore X39.here hx rfl (hb hby at_112) rfl (l' := #[.val (.int p0), .val (.int p1), .val (.int (1 : Int32)), .val (.int c), .val (.int dx), .val (.int (0 : Int32)), .val (.int lx), .val (.int (0 : Int32)), .val (.ref wLETTERS), .val (.int (0 : Int32))]) rfl) ?_
              show Go p e below P (T39.setTop (mkF m 114 #[.val (.int p0), .val (.int p1), .val (.int (1 : Int32)), .val (.int c), .val (.int dx), .val (.int (0 : Int32)), .val (.int lx), .val (.int (0 : Int32)), .val (.ref wLETTERS), .val (.int (0 : Int32))] []))
              refine Go.by (fun _ => XS.goto X39.here hx rfl (pc0 := 114) (pc' := 139) rfl (hb hby at_114) (by decide) (by decide)) ?_
              show Go p e below P (T39.setTop (mkF m 139 #[.val (.int p0), .val (.int p1), .val (.int (1 : Int32)), .val (.int c), .val (.int dx), .val (.int (0 : Int32)), .val (.int lx), .val (.int (0 : Int32)), .val (.ref wLETTERS), .val (.int (0 : Int32))] []))
              refine Go.by (fun _ => XS.aload X39.here hx rfl (hb hby at_139) rfl rfl) ?_
              show Go p e below P (T39.setTop (mkF m 141 #[.val (.int p0), .val (.int p1), .val (.int (1 : Int32)), .val (.int c), .val (.int dx), .val (.int (0 : Int32)), .val (.int lx), .val (.int (0 : Int32)), .val (.ref wLETTERS), .val (.int (0 : Int32))] [(.ref wLETTERS)]))
              refine Go.by (fun _ => XS.iloadN X39.here hx rfl (hb hby at_141) rfl) ?_
              show Go p e below P (T39.setTop (mkF m 142 #[.val (.int p0), .val (.int p1), .val (.int (1 : Int32)), .val (.int c), .val (.int dx), .val (.int (0 : Int32)), .val (.int lx), .val (.int (0 : Int32)), .val (.ref wLETTERS), .val (.int (0 : Int32))] [(.int c), (.ref wLETTERS)]))
              obtain ⟨cq40, kq40, qa40, qb40, qc40⟩ := isOf hZ e39 (G7.ext O0.2)
              obtain ⟨_, _, ⟨T40, L40, k40, n40⟩, -, X40, ⟨Lc40, hQ40, l40, y40, z40⟩, st40⟩ := X39.virtualBack hx (y := (⟨"com/example/kontoform/kontoform/CharacterClass", "admits", "(C)Z"⟩ : MethodName)) (z := (⟨"com/example/kontoform/kontoform/CharacterClass", "admits", "(C)Z"⟩ : MethodName)) hown (mvT hZ (hw _ (List.mem_of_getElem? (i := 5) rfl))) (mvT hZ (hw _ (List.mem_of_getElem? (i := 6) rfl))) (notFace_of_selects (args := #[]) (mvT hZ (hw _ (List.mem_of_getElem? (i := 8) rfl)))) (mvT hZ (hw _ (List.mem_of_getElem? (i := 8) rfl))) (mvT hZ (hw _ (List.mem_of_getElem? (i := 7) rfl))) (by decide) (backOf (W := 0) (rm_adm1 l Z a0 hw [] wDIGITS wALPHANUMERIC wLETTERS hG c ((0 : Int32)) h0 n0 Z0 O0  (own_out65 c hl)) hZ (hw _ (List.mem_of_getElem? (i := 9) rfl)) (hw _ (List.mem_of_getElem? (i := 3) rfl)) (Nat.le_of_ble_eq_true rfl) (Nat.le_of_ble_eq_true rfl)) qa40 qc40 (g := (mkF m 142 #[.val (.int p0), .val (.int p1), .val (.int (1 : Int32)), .val (.int c), .val (.int dx), .val (.int (0 : Int32)), .val (.int lx), .val (.int (0 : Int32)), .val (.ref wLETTERS), .val (.int (0 : Int32))] [(.int c), (.ref wLETTERS)])) rfl (by rw [hml]; rfl) (Steps.refl _) (argsL := [(.int c)]) (rest := []) (lenOf pd_1 rfl) rfl (by show 2 * 0 + _ ≤ _; exact Nat.le_of_eq rfl) (hb hby at_142) (fun _ _ => ⟨rfl, e39, (Nat.le_of_ble_eq_true rfl : 0 + 0 ≤ _), (Nat.le_of_ble_eq_true rfl : 0 + 0 ≤ _)⟩)
              dsimp only [Pt.U, Pt.locs, Pt.cells, Pt.slots] at X40 l40 y40 z40 st40 hQ40
              subst l40 y40 z40
              obtain ⟨rfl, Nq40, eq40⟩ := hQ40
              have N40 := Fr.app N0 Nq40
              refine Go.by (fun _ k => st40.trans k) ?_
              show Go p e below P (T40.setTop (mkF m 145 #[.val (.int p0), .val (.int p1), .val (.int (1 : Int32)), .val (.int c), .val (.int dx), .val (.int (0 : Int32)), .val (.int lx), .val (.int (0 : Int32)), .val (.ref wLETTERS), .val (.int (0 : Int32))] [(.int (0 : Int32))]))
              refine Go.by (fun _ => XS.iload X40.here hx rfl (hb hby at_145) rfl) ?_
              show Go p e below P (T40.setTop (mkF m 147 #[.val (.int p0), .val (.int p1), .val (.int (1 : Int32)), .val (.int c), .val (.int dx), .val (.int (0 : Int32)), .val (.int lx), .val (.int (0 : Int32)), .val (.ref wLETTERS), .val (.int (0 : Int32))] [(.int (0 : Int32)), (.int (0 : Int32))]))
              have hc147 : (0 : Int32) = (0 : Int32) := by decide
              refine Go.by (fun _ => XS.icmpNo X40.here hx rfl (hb hby at_147) rfl (teq hc147).2) ?_
              show Go p e below P (T40.setTop (mkF m 150 #[.val (.int p0), .val (.int p1), .val (.int (1 : Int32)), .val (.int c), .val (.int dx), .val (.int (0 : Int32)), .val (.int lx), .val (.int (0 : Int32)), .val (.ref wLETTERS), .val (.int (0 : Int32))] []))
              refine Go.by (fun _ => XS.iconst X40.here hx rfl (hb hby at_150)) ?_
              show Go p e below P (T40.setTop (mkF m 151 #[.val (.int p0), .val (.int p1), .val (.int (1 : Int32)), .val (.int c), .val (.int dx), .val (.int (0 : Int32)), .val (.int lx), .val (.int (0 : Int32)), .val (.ref wLETTERS), .val (.int (0 : Int32))] [(.int (1 : Int32))]))
              refine Go.by (fun _ => XS.goto X40.here hx rfl (pc0 := 151) (pc' := 155) rfl (hb hby at_151) (by decide) (by decide)) ?_
              show Go p e below P (T40.setTop (mkF m 155 #[.val (.int p0), .val (.int p1), .val (.int (1 : Int32)), .val (.int c), .val (.int dx), .val (.int (0 : Int32)), .val (.int lx), .val (.int (0 : Int32)), .val (.ref wLETTERS), .val (.int (0 : Int32))] [(.int (1 : Int32))]))
              subst hP
              refine Go.retZ X40 hx (t := .boolean) Bd.returns (by simp) hlk (hb hby at_155) (Nat.le_of_ble_eq_true rfl) (Nat.le_of_ble_eq_true rfl) ?_
              rw [eq40]
              exact ⟨rfl, N40⟩
        · show Go p e below P (s₁.setTop (mkF m 34 #[.val (.int p0), .val (.int p1), .val (.int (2 : Int32)), .val (.int c), .unset, .unset, .unset, .unset, .unset, .unset] []))
          refine Go.by (fun _ => XS.iloadN X0.here hx rfl (hb hby at_34) rfl) ?_
          show Go p e below P (s₁.setTop (mkF m 35 #[.val (.int p0), .val (.int p1), .val (.int (2 : Int32)), .val (.int c), .unset, .unset, .unset, .unset, .unset, .unset] [(.int c)]))
          refine Go.by (fun _ => XS.bipush X0.here hx rfl (hb hby at_35)) ?_
          show Go p e below P (s₁.setTop (mkF m 37 #[.val (.int p0), .val (.int p1), .val (.int (2 : Int32)), .val (.int c), .unset, .unset, .unset, .unset, .unset, .unset] [(.int (48 : Int32)), (.int c)]))
          refine Go.by (fun _ => XS.isub X0.here hx rfl (hb hby at_37) rfl) ?_
          show Go p e below P (s₁.setTop (mkF m 38 #[.val (.int p0), .val (.int p1), .val (.int (2 : Int32)), .val (.int c), .unset, .unset, .unset, .unset, .unset, .unset] [(.int (c - (48 : Int32)))]))
          generalize hv_dx : (c - (48 : Int32)) = dx
          refine Go.by (fun _ => XS.istore X0.here hx rfl (hb hby at_38) rfl (l' := #[.val (.int p0), .val (.int p1), .val (.int (2 : Int32)), .val (.int c), .val (.int dx), .unset, .unset, .unset, .unset, .unset]) rfl) ?_
          show Go p e below P (s₁.setTop (mkF m 40 #[.val (.int p0), .val (.int p1), .val (.int (2 : Int32)), .val (.int c), .val (.int dx), .unset, .unset, .unset, .unset, .unset] []))
          refine Go.by (fun _ => XS.iload X0.here hx rfl (hb hby at_40) rfl) ?_
          show Go p e below P (s₁.setTop (mkF m 42 #[.val (.int p0), .val (.int p1), .val (.int (2 : Int32)), .val (.int c), .val (.int dx), .unset, .unset, .unset, .unset, .unset] [(.int dx)]))
          by_cases hc42 : dx < (0 : Int32)
          · refine Go.by (fun _ => XS.ifYes X0.here hx rfl (pc0 := 42) (pc' := 56) rfl (hb hby at_42) rfl ((if0 _ _).trans (tlt hc42).1) (by decide) (by decide)) ?_
            show Go p e below P (s₁.setTop (mkF m 56 #[.val (.int p0), .val (.int p1), .val (.int (2 : Int32)), .val (.int c), .val (.int dx), .unset, .unset, .unset, .unset, .unset] []))
            refine Go.by (fun _ => XS.iconst X0.here hx rfl (hb hby at_56)) ?_
            show Go p e below P (s₁.setTop (mkF m 57 #[.val (.int p0), .val (.int p1), .val (.int (2 : Int32)), .val (.int c), .val (.int dx), .unset, .unset, .unset, .unset, .unset] [(.int (0 : Int32))]))
            refine Go.by (fun _ => XS.istore X0.here hx rfl (hb hby at_57) rfl (l' := #[.val (.int p0), .val (.int p1), .val (.int (2 : Int32)), .val (.int c), .val (.int dx), .val (.int (0 : Int32)), .unset, .unset, .unset, .unset]) rfl) ?_
            show Go p e below P (s₁.setTop (mkF m 59 #[.val (.int p0), .val (.int p1), .val (.int (2 : Int32)), .val (.int c), .val (.int dx), .val (.int (0 : Int32)), .unset, .unset, .unset, .unset] []))
            refine Go.by (fun _ => XS.iloadN X0.here hx rfl (hb hby at_59) rfl) ?_
            show Go p e below P (s₁.setTop (mkF m 60 #[.val (.int p0), .val (.int p1), .val (.int (2 : Int32)), .val (.int c), .val (.int dx), .val (.int (0 : Int32)), .unset, .unset, .unset, .unset] [(.int c)]))
            refine Go.by (fun _ => XS.bipush X0.here hx rfl (hb hby at_60)) ?_
            show Go p e below P (s₁.setTop (mkF m 62 #[.val (.int p0), .val (.int p1), .val (.int (2 : Int32)), .val (.int c), .val (.int dx), .val (.int (0 : Int32)), .unset, .unset, .unset, .unset] [(.int (65 : Int32)), (.int c)]))
            refine Go.by (fun _ => XS.isub X0.here hx rfl (hb hby at_62) rfl) ?_
            show Go p e below P (s₁.setTop (mkF m 63 #[.val (.int p0), .val (.int p1), .val (.int (2 : Int32)), .val (.int c), .val (.int dx), .val (.int (0 : Int32)), .unset, .unset, .unset, .unset] [(.int (c - (65 : Int32)))]))
            generalize hv_lx : (c - (65 : Int32)) = lx
            refine Go.by (fun _ => XS.istore X0.here hx rfl (hb hby at_63) rfl (l' := #[.val (.int p0), .val (.int p1), .val (.int (2 : Int32)), .val (.int c), .val (.int dx), .val (.int (0 : Int32)), .val (.int lx), .unset, .unset, .unset]) rfl) ?_
            show Go p e below P (s₁.setTop (mkF m 65 #[.val (.int p0), .val (.int p1), .val (.int (2 : Int32)), .val (.int c), .val (.int dx), .val (.int (0 : Int32)), .val (.int lx), .unset, .unset, .unset] []))
            refine Go.by (fun _ => XS.iload X0.here hx rfl (hb hby at_65) rfl) ?_
            show Go p e below P (s₁.setTop (mkF m 67 #[.val (.int p0), .val (.int p1), .val (.int (2 : Int32)), .val (.int c), .val (.int dx), .val (.int (0 : Int32)), .val (.int lx), .unset, .unset, .unset] [(.int lx)]))
            by_cases hc67 : lx < (0 : Int32)
            · refine Go.by (fun _ => XS.ifYes X0.here hx rfl (pc0 := 67) (pc' := 81) rfl (hb hby at_67) rfl ((if0 _ _).trans (tlt hc67).1) (by decide) (by decide)) ?_
              show Go p e below P (s₁.setTop (mkF m 81 #[.val (.int p0), .val (.int p1), .val (.int (2 : Int32)), .val (.int c), .val (.int dx), .val (.int (0 : Int32)), .val (.int lx), .unset, .unset, .unset] []))
              refine Go.by (fun _ => XS.iconst X0.here hx rfl (hb hby at_81)) ?_
              show Go p e below P (s₁.setTop (mkF m 82 #[.val (.int p0), .val (.int p1), .val (.int (2 : Int32)), .val (.int c), .val (.int dx), .val (.int (0 : Int32)), .val (.int lx), .unset, .unset, .unset] [(.int (0 : Int32))]))
              refine Go.by (fun _ => XS.istore X0.here hx rfl (hb hby at_82) rfl (l' := #[.val (.int p0), .val (.int p1), .val (.int (2 : Int32)), .val (.int c), .val (.int dx), .val (.int (0 : Int32)), .val (.int lx), .val (.int (0 : Int32)), .unset, .unset]) rfl) ?_
              show Go p e below P (s₁.setTop (mkF m 84 #[.val (.int p0), .val (.int p1), .val (.int (2 : Int32)), .val (.int c), .val (.int dx), .val (.int (0 : Int32)), .val (.int lx), .val (.int (0 : Int32)), .unset, .unset] []))
              refine Go.by (fun _ => XS.iloadN X0.here hx rfl (hb hby at_84) rfl) ?_
              show Go p e below P (s₁.setTop (mkF m 85 #[.val (.int p0), .val (.int p1), .val (.int (2 : Int32)), .val (.int c), .val (.int dx), .val (.int (0 : Int32)), .val (.int lx), .val (.int (0 : Int32)), .unset, .unset] [(.int (2 : Int32))]))
              have hc85 : ¬ ((2 : Int32) = (0 : Int32)) := by decide
              refine Go.by (fun _ => XS.ifYes X0.here hx rfl (pc0 := 85) (pc' := 100) rfl (hb hby at_85) rfl ((if0 _ _).trans (feq hc85).2) (by decide) (by decide)) ?_
              show Go p e below P (s₁.setTop (mkF m 100 #[.val (.int p0), .val (.int p1), .val (.int (2 : Int32)), .val (.int c), .val (.int dx), .val (.int (0 : Int32)), .val (.int lx), .val (.int (0 : Int32)), .unset, .unset] []))
              refine Go.by (fun _ => XS.iloadN X0.here hx rfl (hb hby at_100) rfl) ?_
              show Go p e below P (s₁.setTop (mkF m 101 #[.val (.int p0), .val (.int p1), .val (.int (2 : Int32)), .val (.int c), .val (.int dx), .val (.int (0 : Int32)), .val (.int lx), .val (.int (0 : Int32)), .unset, .unset] [(.int (2 : Int32))]))
              refine Go.by (fun _ => XS.iconst X0.here hx rfl (hb hby at_101)) ?_
              show Go p e below P (s₁.setTop (mkF m 102 #[.val (.int p0), .val (.int p1), .val (.int (2 : Int32)), .val (.int c), .val (.int dx), .val (.int (0 : Int32)), .val (.int lx), .val (.int (0 : Int32)), .unset, .unset] [(.int (1 : Int32)), (.int (2 : Int32))]))
              have hc102 : ¬ ((2 : Int32) = (1 : Int32)) := by decide
              refine Go.by (fun _ => XS.icmpYes X0.here hx rfl (pc0 := 102) (pc' := 117) rfl (hb hby at_102) rfl (feq hc102).2 (by decide) (by decide)) ?_
              show Go p e below P (s₁.setTop (mkF m 117 #[.val (.int p0), .val (.int p1), .val (.int (2 : Int32)), .val (.int c), .val (.int dx), .val (.int (0 : Int32)), .val (.int lx), .val (.int (0 : Int32)), .unset, .unset] []))
              obtain ⟨T41, X41, e41, st41⟩ := getS2 X0 hx hZ hown (host := "") (Or.inl (hw _ (List.mem_of_getElem? (i := 19) rfl))) Via.refl e0 (G3.ext O0.2) (g := (mkF m 117 #[.val (.int p0), .val (.int p1), .val (.int (2 : Int32)), .val (.int c), .val (.int dx), .val (.int (0 : Int32)), .val (.int lx), .val (.int (0 : Int32)), .unset, .unset] [])) rfl (hb hby at_117)
              refine Go.by (fun _ => st41 _) ?_
              show Go p e below P (T41.setTop (mkF m 120 #[.val (.int p0), .val (.int p1), .val (.int (2 : Int32)), .val (.int c), .val (.int dx), .val (.int (0 : Int32)), .val (.int lx), .val (.int (0 : Int32)), .unset, .unset] [(.ref wALPHANUMERIC)]))
              refine Go.by (fun _ => XS.astore X41.here hx rfl (hb hby at_120) rfl rfl (l' := #[.val (.int p0), .val (.int p1), .val (.int (2 : Int32)), .val (.int c), .val (.int dx), .val (.int (0 : Int32)), .val (.int lx), .val (.int (0 : Int32)), .val (.ref wALPHANUMERIC), .unset]) rfl) ?_
              show Go p e below P (T41.setTop (mkF m 122 #[.val (.int p0), .val (.int p1), .val (.int (2 : Int32)), .val (.int c), .val (.int dx), .val (.int (0 : Int32)), .val (.int lx), .val (.int (0 : Int32)), .val (.ref wALPHANUMERIC), .unset] []))
              refine Go.by (fun _ => XS.iload X41.here hx rfl (hb hby at_122) rfl) ?_
              show Go p e below P (T41.setTop (mkF m 124 #[.val (.int p0), .val (.int p1), .val (.int (2 : Int32)), .val (.int c), .val (.int dx), .val (.int (0 : Int32)), .val (.int lx), .val (.int (0 : Int32)), .val (.ref wALPHANUMERIC), .unset] [(.int (0 : Int32))]))
              have hc124 : (0 : Int32) = (0 : Int32) := by decide
              refine Go.by (fun _ => XS.ifNo X41.here hx rfl (hb hby at_124) rfl ((if0 _ _).trans (teq hc124).2)) ?_
              show Go p e below P (T41.setTop (mkF m 127 #[.val (.int p0), .val (.int p1), .val (.int (2 : Int32)), .val (.int c), .val (.int dx), .val (.int (0 : Int32)), .val (.int lx), .val (.int (0 : Int32)), .val (.ref wALPHANUMERIC), .unset] []))
              refine Go.by (fun _ => XS.iload X41.here hx rfl (hb hby at_127) rfl) ?_
              show Go p e below P (T41.setTop (mkF m 129 #[.val (.int p0), .val (.int p1), .val (.int (2 : Int32)), .val (.int c), .val (.int dx), .val (.int (0 : Int32)), .val (.int lx), .val (.int (0 : Int32)), .val (.ref wALPHANUMERIC), .unset] [(.int (0 : Int32))]))
              have hc129 : (0 : Int32) = (0 : Int32) := by decide
              refine Go.by (fun _ => XS.ifYes X41.here hx rfl (pc0 := 129) (pc' := 136) rfl (hb hby at_129) rfl ((if0 _ _).trans (teq hc129).1) (by decide) (by decide)) ?_
              show Go p e below P (T41.setTop (mkF m 136 #[.val (.int p0), .val (.int p1), .val (.int (2 : Int32)), .val (.int c), .val (.int dx), .val (.int (0 : Int32)), .val (.int lx), .val (.int (0 : Int32)), .val (.ref wALPHANUMERIC), .unset] []))
              refine Go.by (fun _ => XS.iconst X41.here hx rfl (hb hby at_136)) ?_
              show Go p e below P (T41.setTop (mkF m 137 #[.val (.int p0), .val (.int p1), .val (.int (2 : Int32)), .val (.int c), .val (.int dx), .val (.int (0 : Int32)), .val (.int lx), .val (.int (0 : Int32)), .val (.ref wALPHANUMERIC), .unset] [(.int (0 : Int32))]))
              refine Go.by (fun _ => XS.istore X41.here hx rfl (hb hby at_137) rfl (l' := #[.val (.int p0), .val (.int p1), .val (.int (2 : Int32)), .val (.int c), .val (.int dx), .val (.int (0 : Int32)), .val (.int lx), .val (.int (0 : Int32)), .val (.ref wALPHANUMERIC), .val (.int (0 : Int32))]) rfl) ?_
              show Go p e below P (T41.setTop (mkF m 139 #[.val (.int p0), .val (.int p1), .val (.int (2 : Int32)), .val (.int c), .val (.int dx), .val (.int (0 : Int32)), .val (.int lx), .val (.int (0 : Int32)), .val (.ref wALPHANUMERIC), .val (.int (0 : Int32))] []))
              refine Go.by (fun _ => XS.aload X41.here hx rfl (hb hby at_139) rfl rfl) ?_
              show Go p e below P (T41.setTop (mkF m 141 #[.val (.int p0), .val (.int p1), .val (.int (2 : Int32)), .val (.int c), .val (.int dx), .val (.int (0 : Int32)), .val (.int lx), .val (.int (0 : Int32)), .val (.ref wALPHANUMERIC), .val (.int (0 : Int32))] [(.ref wALPHANUMERIC)]))
              refine Go.by (fun _ => XS.iloadN X41.here hx rfl (hb hby at_141) rfl) ?_
              show Go p e below P (T41.setTop (mkF m 142 #[.val (.int p0), .val (.int p1), .val (.int (2 : Int32)), .val (.int c), .val (.int dx), .val (.int (0 : Int32)), .val (.int lx), .val (.int (0 : Int32)), .val (.ref wALPHANUMERIC), .val (.int (0 : Int32))] [(.int c), (.ref wALPHANUMERIC)]))
              obtain ⟨cq42, kq42, qa42, qb42, qc42⟩ := isOf hZ e41 (G4.ext O0.2)
              obtain ⟨_, _, ⟨T42, L42, k42, n42⟩, -, X42, ⟨Lc42, hQ42, l42, y42, z42⟩, st42⟩ := X41.virtualBack hx (y := (⟨"com/example/kontoform/kontoform/CharacterClass", "admits", "(C)Z"⟩ : MethodName)) (z := (⟨"com/example/kontoform/kontoform/CharacterClass", "admits", "(C)Z"⟩ : MethodName)) hown (mvT hZ (hw _ (List.mem_of_getElem? (i := 5) rfl))) (mvT hZ (hw _ (List.mem_of_getElem? (i := 6) rfl))) (notFace_of_selects (args := #[]) (mvT hZ (hw _ (List.mem_of_getElem? (i := 8) rfl)))) (mvT hZ (hw _ (List.mem_of_getElem? (i := 8) rfl))) (mvT hZ (hw _ (List.mem_of_getElem? (i := 7) rfl))) (by decide) (backOf (W := 0) (rm_adm2 l Z a0 hw [] wDIGITS wALPHANUMERIC wLETTERS hG c ((0 : Int32)) h0 n0 Z0 O0  (own_alphaN c hd hl)) hZ (hw _ (List.mem_of_getElem? (i := 9) rfl)) (hw _ (List.mem_of_getElem? (i := 3) rfl)) (Nat.le_of_ble_eq_true rfl) (Nat.le_of_ble_eq_true rfl)) qa42 qc42 (g := (mkF m 142 #[.val (.int p0), .val (.int p1), .val (.int (2 : Int32)), .val (.int c), .val (.int dx), .val (.int (0 : Int32)), .val (.int lx), .val (.int (0 : Int32)), .val (.ref wALPHANUMERIC), .val (.int (0 : Int32))] [(.int c), (.ref wALPHANUMERIC)])) rfl (by rw [hml]; rfl) (Steps.refl _) (argsL := [(.int c)]) (rest := []) (lenOf pd_1 rfl) rfl (by show 2 * 0 + _ ≤ _; exact Nat.le_of_eq rfl) (hb hby at_142) (fun _ _ => ⟨rfl, e41, (Nat.le_of_ble_eq_true rfl : 0 + 0 ≤ _), (Nat.le_of_ble_eq_true rfl : 0 + 0 ≤ _)⟩)
              dsimp only [Pt.U, Pt.locs, Pt.cells, Pt.slots] at X42 l42 y42 z42 st42 hQ42
              subst l42 y42 z42
              obtain ⟨rfl, Nq42, eq42⟩ := hQ42
              have N42 := Fr.app N0 Nq42
              refine Go.by (fun _ k => st42.trans k) ?_
              show Go p e below P (T42.setTop (mkF m 145 #[.val (.int p0), .val (.int p1), .val (.int (2 : Int32)), .val (.int c), .val (.int dx), .val (.int (0 : Int32)), .val (.int lx), .val (.int (0 : Int32)), .val (.ref wALPHANUMERIC), .val (.int (0 : Int32))] [(.int (0 : Int32))]))
              refine Go.by (fun _ => XS.iload X42.here hx rfl (hb hby at_145) rfl) ?_
              show Go p e below P (T42.setTop (mkF m 147 #[.val (.int p0), .val (.int p1), .val (.int (2 : Int32)), .val (.int c), .val (.int dx), .val (.int (0 : Int32)), .val (.int lx), .val (.int (0 : Int32)), .val (.ref wALPHANUMERIC), .val (.int (0 : Int32))] [(.int (0 : Int32)), (.int (0 : Int32))]))
              have hc147 : (0 : Int32) = (0 : Int32) := by decide
              refine Go.by (fun _ => XS.icmpNo X42.here hx rfl (hb hby at_147) rfl (teq hc147).2) ?_
              show Go p e below P (T42.setTop (mkF m 150 #[.val (.int p0), .val (.int p1), .val (.int (2 : Int32)), .val (.int c), .val (.int dx), .val (.int (0 : Int32)), .val (.int lx), .val (.int (0 : Int32)), .val (.ref wALPHANUMERIC), .val (.int (0 : Int32))] []))
              refine Go.by (fun _ => XS.iconst X42.here hx rfl (hb hby at_150)) ?_
              show Go p e below P (T42.setTop (mkF m 151 #[.val (.int p0), .val (.int p1), .val (.int (2 : Int32)), .val (.int c), .val (.int dx), .val (.int (0 : Int32)), .val (.int lx), .val (.int (0 : Int32)), .val (.ref wALPHANUMERIC), .val (.int (0 : Int32))] [(.int (1 : Int32))]))
              refine Go.by (fun _ => XS.goto X42.here hx rfl (pc0 := 151) (pc' := 155) rfl (hb hby at_151) (by decide) (by decide)) ?_
              show Go p e below P (T42.setTop (mkF m 155 #[.val (.int p0), .val (.int p1), .val (.int (2 : Int32)), .val (.int c), .val (.int dx), .val (.int (0 : Int32)), .val (.int lx), .val (.int (0 : Int32)), .val (.ref wALPHANUMERIC), .val (.int (0 : Int32))] [(.int (1 : Int32))]))
              subst hP
              refine Go.retZ X42 hx (t := .boolean) Bd.returns (by simp) hlk (hb hby at_155) (Nat.le_of_ble_eq_true rfl) (Nat.le_of_ble_eq_true rfl) ?_
              rw [eq42]
              exact ⟨rfl, N42⟩
            · refine Go.by (fun _ => XS.ifNo X0.here hx rfl (hb hby at_67) rfl ((if0 _ _).trans (flt hc67).1)) ?_
              show Go p e below P (s₁.setTop (mkF m 70 #[.val (.int p0), .val (.int p1), .val (.int (2 : Int32)), .val (.int c), .val (.int dx), .val (.int (0 : Int32)), .val (.int lx), .unset, .unset, .unset] []))
              refine Go.by (fun _ => XS.iload X0.here hx rfl (hb hby at_70) rfl) ?_
              show Go p e below P (s₁.setTop (mkF m 72 #[.val (.int p0), .val (.int p1), .val (.int (2 : Int32)), .val (.int c), .val (.int dx), .val (.int (0 : Int32)), .val (.int lx), .unset, .unset, .unset] [(.int lx)]))
              refine Go.by (fun _ => XS.bipush X0.here hx rfl (hb hby at_72)) ?_
              show Go p e below P (s₁.setTop (mkF m 74 #[.val (.int p0), .val (.int p1), .val (.int (2 : Int32)), .val (.int c), .val (.int dx), .val (.int (0 : Int32)), .val (.int lx), .unset, .unset, .unset] [(.int (26 : Int32)), (.int lx)]))
              have hc74 : ¬ (lx < (26 : Int32)) := (fun q => by have q0 := own_sub c 65 hj (by decide); have q1 := congrArg Int32.toInt hv_lx; have k65 : (65 : Int32).toInt = 65 := rfl; have q3 := hc67; rw [Int32.lt_iff_toInt_lt] at q3; have k0 : (0 : Int32).toInt = 0 := rfl; have l_26 : (26 : Int32).toInt = 26 := rfl; rw [Int32.lt_iff_toInt_lt] at q; omega)
              refine Go.by (fun _ => XS.icmpYes X0.here hx rfl (pc0 := 74) (pc' := 81) rfl (hb hby at_74) rfl (flt hc74).2.1 (by decide) (by decide)) ?_
              show Go p e below P (s₁.setTop (mkF m 81 #[.val (.int p0), .val (.int p1), .val (.int (2 : Int32)), .val (.int c), .val (.int dx), .val (.int (0 : Int32)), .val (.int lx), .unset, .unset, .unset] []))
              refine Go.by (fun _ => XS.iconst X0.here hx rfl (hb hby at_81)) ?_
              show Go p e below P (s₁.setTop (mkF m 82 #[.val (.int p0), .val (.int p1), .val (.int (2 : Int32)), .val (.int c), .val (.int dx), .val (.int (0 : Int32)), .val (.int lx), .unset, .unset, .unset] [(.int (0 : Int32))]))
              refine Go.by (fun _ => XS.istore X0.here hx rfl (hb hby at_82) rfl (l' := #[.val (.int p0), .val (.int p1), .val (.int (2 : Int32)), .val (.int c), .val (.int dx), .val (.int (0 : Int32)), .val (.int lx), .val (.int (0 : Int32)), .unset, .unset]) rfl) ?_
              show Go p e below P (s₁.setTop (mkF m 84 #[.val (.int p0), .val (.int p1), .val (.int (2 : Int32)), .val (.int c), .val (.int dx), .val (.int (0 : Int32)), .val (.int lx), .val (.int (0 : Int32)), .unset, .unset] []))
              refine Go.by (fun _ => XS.iloadN X0.here hx rfl (hb hby at_84) rfl) ?_
              show Go p e below P (s₁.setTop (mkF m 85 #[.val (.int p0), .val (.int p1), .val (.int (2 : Int32)), .val (.int c), .val (.int dx), .val (.int (0 : Int32)), .val (.int lx), .val (.int (0 : Int32)), .unset, .unset] [(.int (2 : Int32))]))
              have hc85 : ¬ ((2 : Int32) = (0 : Int32)) := by decide
              refine Go.by (fun _ => XS.ifYes X0.here hx rfl (pc0 := 85) (pc' := 100) rfl (hb hby at_85) rfl ((if0 _ _).trans (feq hc85).2) (by decide) (by decide)) ?_
              show Go p e below P (s₁.setTop (mkF m 100 #[.val (.int p0), .val (.int p1), .val (.int (2 : Int32)), .val (.int c), .val (.int dx), .val (.int (0 : Int32)), .val (.int lx), .val (.int (0 : Int32)), .unset, .unset] []))
              refine Go.by (fun _ => XS.iloadN X0.here hx rfl (hb hby at_100) rfl) ?_
              show Go p e below P (s₁.setTop (mkF m 101 #[.val (.int p0), .val (.int p1), .val (.int (2 : Int32)), .val (.int c), .val (.int dx), .val (.int (0 : Int32)), .val (.int lx), .val (.int (0 : Int32)), .unset, .unset] [(.int (2 : Int32))]))
              refine Go.by (fun _ => XS.iconst X0.here hx rfl (hb hby at_101)) ?_
              show Go p e below P (s₁.setTop (mkF m 102 #[.val (.int p0), .val (.int p1), .val (.int (2 : Int32)), .val (.int c), .val (.int dx), .val (.int (0 : Int32)), .val (.int lx), .val (.int (0 : Int32)), .unset, .unset] [(.int (1 : Int32)), (.int (2 : Int32))]))
              have hc102 : ¬ ((2 : Int32) = (1 : Int32)) := by decide
              refine Go.by (fun _ => XS.icmpYes X0.here hx rfl (pc0 := 102) (pc' := 117) rfl (hb hby at_102) rfl (feq hc102).2 (by decide) (by decide)) ?_
              show Go p e below P (s₁.setTop (mkF m 117 #[.val (.int p0), .val (.int p1), .val (.int (2 : Int32)), .val (.int c), .val (.int dx), .val (.int (0 : Int32)), .val (.int lx), .val (.int (0 : Int32)), .unset, .unset] []))
              obtain ⟨T43, X43, e43, st43⟩ := getS2 X0 hx hZ hown (host := "") (Or.inl (hw _ (List.mem_of_getElem? (i := 19) rfl))) Via.refl e0 (G3.ext O0.2) (g := (mkF m 117 #[.val (.int p0), .val (.int p1), .val (.int (2 : Int32)), .val (.int c), .val (.int dx), .val (.int (0 : Int32)), .val (.int lx), .val (.int (0 : Int32)), .unset, .unset] [])) rfl (hb hby at_117)
              refine Go.by (fun _ => st43 _) ?_
              show Go p e below P (T43.setTop (mkF m 120 #[.val (.int p0), .val (.int p1), .val (.int (2 : Int32)), .val (.int c), .val (.int dx), .val (.int (0 : Int32)), .val (.int lx), .val (.int (0 : Int32)), .unset, .unset] [(.ref wALPHANUMERIC)]))
              refine Go.by (fun _ => XS.astore X43.here hx rfl (hb hby at_120) rfl rfl (l' := #[.val (.int p0), .val (.int p1), .val (.int (2 : Int32)), .val (.int c), .val (.int dx), .val (.int (0 : Int32)), .val (.int lx), .val (.int (0 : Int32)), .val (.ref wALPHANUMERIC), .unset]) rfl) ?_
              show Go p e below P (T43.setTop (mkF m 122 #[.val (.int p0), .val (.int p1), .val (.int (2 : Int32)), .val (.int c), .val (.int dx), .val (.int (0 : Int32)), .val (.int lx), .val (.int (0 : Int32)), .val (.ref wALPHANUMERIC), .unset] []))
              refine Go.by (fun _ => XS.iload X43.here hx rfl (hb hby at_122) rfl) ?_
              show Go p e below P (T43.setTop (mkF m 124 #[.val (.int p0), .val (.int p1), .val (.int (2 : Int32)), .val (.int c), .val (.int dx), .val (.int (0 : Int32)), .val (.int lx), .val (.int (0 : Int32)), .val (.ref wALPHANUMERIC), .unset] [(.int (0 : Int32))]))
              have hc124 : (0 : Int32) = (0 : Int32) := by decide
              refine Go.by (fun _ => XS.ifNo X43.here hx rfl (hb hby at_124) rfl ((if0 _ _).trans (teq hc124).2)) ?_
              show Go p e below P (T43.setTop (mkF m 127 #[.val (.int p0), .val (.int p1), .val (.int (2 : Int32)), .val (.int c), .val (.int dx), .val (.int (0 : Int32)), .val (.int lx), .val (.int (0 : Int32)), .val (.ref wALPHANUMERIC), .unset] []))
              refine Go.by (fun _ => XS.iload X43.here hx rfl (hb hby at_127) rfl) ?_
              show Go p e below P (T43.setTop (mkF m 129 #[.val (.int p0), .val (.int p1), .val (.int (2 : Int32)), .val (.int c), .val (.int dx), .val (.int (0 : Int32)), .val (.int lx), .val (.int (0 : Int32)), .val (.ref wALPHANUMERIC), .unset] [(.int (0 : Int32))]))
              have hc129 : (0 : Int32) = (0 : Int32) := by decide
              refine Go.by (fun _ => XS.ifYes X43.here hx rfl (pc0 := 129) (pc' := 136) rfl (hb hby at_129) rfl ((if0 _ _).trans (teq hc129).1) (by decide) (by decide)) ?_
              show Go p e below P (T43.setTop (mkF m 136 #[.val (.int p0), .val (.int p1), .val (.int (2 : Int32)), .val (.int c), .val (.int dx), .val (.int (0 : Int32)), .val (.int lx), .val (.int (0 : Int32)), .val (.ref wALPHANUMERIC), .unset] []))
              refine Go.by (fun _ => XS.iconst X43.here hx rfl (hb hby at_136)) ?_
              show Go p e below P (T43.setTop (mkF m 137 #[.val (.int p0), .val (.int p1), .val (.int (2 : Int32)), .val (.int c), .val (.int dx), .val (.int (0 : Int32)), .val (.int lx), .val (.int (0 : Int32)), .val (.ref wALPHANUMERIC), .unset] [(.int (0 : Int32))]))
              refine Go.by (fun _ => XS.istore X43.here hx rfl (hb hby at_137) rfl (l' := #[.val (.int p0), .val (.int p1), .val (.int (2 : Int32)), .val (.int c), .val (.int dx), .val (.int (0 : Int32)), .val (.int lx), .val (.int (0 : Int32)), .val (.ref wALPHANUMERIC), .val (.int (0 : Int32))]) rfl) ?_
              show Go p e below P (T43.setTop (mkF m 139 #[.val (.int p0), .val (.int p1), .val (.int (2 : Int32)), .val (.int c), .val (.int dx), .val (.int (0 : Int32)), .val (.int lx), .val (.int (0 : Int32)), .val (.ref wALPHANUMERIC), .val (.int (0 : Int32))] []))
              refine Go.by (fun _ => XS.aload X43.here hx rfl (hb hby at_139) rfl rfl) ?_
              show Go p e below P (T43.setTop (mkF m 141 #[.val (.int p0), .val (.int p1), .val (.int (2 : Int32)), .val (.int c), .val (.int dx), .val (.int (0 : Int32)), .val (.int lx), .val (.int (0 : Int32)), .val (.ref wALPHANUMERIC), .val (.int (0 : Int32))] [(.ref wALPHANUMERIC)]))
              refine Go.by (fun _ => XS.iloadN X43.here hx rfl (hb hby at_141) rfl) ?_
              show Go p e below P (T43.setTop (mkF m 142 #[.val (.int p0), .val (.int p1), .val (.int (2 : Int32)), .val (.int c), .val (.int dx), .val (.int (0 : Int32)), .val (.int lx), .val (.int (0 : Int32)), .val (.ref wALPHANUMERIC), .val (.int (0 : Int32))] [(.int c), (.ref wALPHANUMERIC)]))
              obtain ⟨cq44, kq44, qa44, qb44, qc44⟩ := isOf hZ e43 (G4.ext O0.2)
              obtain ⟨_, _, ⟨T44, L44, k44, n44⟩, -, X44, ⟨Lc44, hQ44, l44, y44, z44⟩, st44⟩ := X43.virtualBack hx (y := (⟨"com/example/kontoform/kontoform/CharacterClass", "admits", "(C)Z"⟩ : MethodName)) (z := (⟨"com/example/kontoform/kontoform/CharacterClass", "admits", "(C)Z"⟩ : MethodName)) hown (mvT hZ (hw _ (List.mem_of_getElem? (i := 5) rfl))) (mvT hZ (hw _ (List.mem_of_getElem? (i := 6) rfl))) (notFace_of_selects (args := #[]) (mvT hZ (hw _ (List.mem_of_getElem? (i := 8) rfl)))) (mvT hZ (hw _ (List.mem_of_getElem? (i := 8) rfl))) (mvT hZ (hw _ (List.mem_of_getElem? (i := 7) rfl))) (by decide) (backOf (W := 0) (rm_adm2 l Z a0 hw [] wDIGITS wALPHANUMERIC wLETTERS hG c ((0 : Int32)) h0 n0 Z0 O0  (own_alphaN c hd hl)) hZ (hw _ (List.mem_of_getElem? (i := 9) rfl)) (hw _ (List.mem_of_getElem? (i := 3) rfl)) (Nat.le_of_ble_eq_true rfl) (Nat.le_of_ble_eq_true rfl)) qa44 qc44 (g := (mkF m 142 #[.val (.int p0), .val (.int p1), .val (.int (2 : Int32)), .val (.int c), .val (.int dx), .val (.int (0 : Int32)), .val (.int lx), .val (.int (0 : Int32)), .val (.ref wALPHANUMERIC), .val (.int (0 : Int32))] [(.int c), (.ref wALPHANUMERIC)])) rfl (by rw [hml]; rfl) (Steps.refl _) (argsL := [(.int c)]) (rest := []) (lenOf pd_1 rfl) rfl (by show 2 * 0 + _ ≤ _; exact Nat.le_of_eq rfl) (hb hby at_142) (fun _ _ => ⟨rfl, e43, (Nat.le_of_ble_eq_true rfl : 0 + 0 ≤ _), (Nat.le_of_ble_eq_true rfl : 0 + 0 ≤ _)⟩)
              dsimp only [Pt.U, Pt.locs, Pt.cells, Pt.slots] at X44 l44 y44 z44 st44 hQ44
              subst l44 y44 z44
              obtain ⟨rfl, Nq44, eq44⟩ := hQ44
              have N44 := Fr.app N0 Nq44
              refine Go.by (fun _ k => st44.trans k) ?_
              show Go p e below P (T44.setTop (mkF m 145 #[.val (.int p0), .val (.int p1), .val (.int (2 : Int32)), .val (.int c), .val (.int dx), .val (.int (0 : Int32)), .val (.int lx), .val (.int (0 : Int32)), .val (.ref wALPHANUMERIC), .val (.int (0 : Int32))] [(.int (0 : Int32))]))
              refine Go.by (fun _ => XS.iload X44.here hx rfl (hb hby at_145) rfl) ?_
              show Go p e below P (T44.setTop (mkF m 147 #[.val (.int p0), .val (.int p1), .val (.int (2 : Int32)), .val (.int c), .val (.int dx), .val (.int (0 : Int32)), .val (.int lx), .val (.int (0 : Int32)), .val (.ref wALPHANUMERIC), .val (.int (0 : Int32))] [(.int (0 : Int32)), (.int (0 : Int32))]))
              have hc147 : (0 : Int32) = (0 : Int32) := by decide
              refine Go.by (fun _ => XS.icmpNo X44.here hx rfl (hb hby at_147) rfl (teq hc147).2) ?_
              show Go p e below P (T44.setTop (mkF m 150 #[.val (.int p0), .val (.int p1), .val (.int (2 : Int32)), .val (.int c), .val (.int dx), .val (.int (0 : Int32)), .val (.int lx), .val (.int (0 : Int32)), .val (.ref wALPHANUMERIC), .val (.int (0 : Int32))] []))
              refine Go.by (fun _ => XS.iconst X44.here hx rfl (hb hby at_150)) ?_
              show Go p e below P (T44.setTop (mkF m 151 #[.val (.int p0), .val (.int p1), .val (.int (2 : Int32)), .val (.int c), .val (.int dx), .val (.int (0 : Int32)), .val (.int lx), .val (.int (0 : Int32)), .val (.ref wALPHANUMERIC), .val (.int (0 : Int32))] [(.int (1 : Int32))]))
              refine Go.by (fun _ => XS.goto X44.here hx rfl (pc0 := 151) (pc' := 155) rfl (hb hby at_151) (by decide) (by decide)) ?_
              show Go p e below P (T44.setTop (mkF m 155 #[.val (.int p0), .val (.int p1), .val (.int (2 : Int32)), .val (.int c), .val (.int dx), .val (.int (0 : Int32)), .val (.int lx), .val (.int (0 : Int32)), .val (.ref wALPHANUMERIC), .val (.int (0 : Int32))] [(.int (1 : Int32))]))
              subst hP
              refine Go.retZ X44 hx (t := .boolean) Bd.returns (by simp) hlk (hb hby at_155) (Nat.le_of_ble_eq_true rfl) (Nat.le_of_ble_eq_true rfl) ?_
              rw [eq44]
              exact ⟨rfl, N44⟩
          · refine Go.by (fun _ => XS.ifNo X0.here hx rfl (hb hby at_42) rfl ((if0 _ _).trans (flt hc42).1)) ?_
            show Go p e below P (s₁.setTop (mkF m 45 #[.val (.int p0), .val (.int p1), .val (.int (2 : Int32)), .val (.int c), .val (.int dx), .unset, .unset, .unset, .unset, .unset] []))
            refine Go.by (fun _ => XS.iload X0.here hx rfl (hb hby at_45) rfl) ?_
            show Go p e below P (s₁.setTop (mkF m 47 #[.val (.int p0), .val (.int p1), .val (.int (2 : Int32)), .val (.int c), .val (.int dx), .unset, .unset, .unset, .unset, .unset] [(.int dx)]))
            refine Go.by (fun _ => XS.bipush X0.here hx rfl (hb hby at_47)) ?_
            show Go p e below P (s₁.setTop (mkF m 49 #[.val (.int p0), .val (.int p1), .val (.int (2 : Int32)), .val (.int c), .val (.int dx), .unset, .unset, .unset, .unset, .unset] [(.int (10 : Int32)), (.int dx)]))
            have hc49 : ¬ (dx < (10 : Int32)) := (fun q => by have q0 := own_sub c 48 hj (by decide); have q1 := congrArg Int32.toInt hv_dx; have k48 : (48 : Int32).toInt = 48 := rfl; have q3 := hc42; rw [Int32.lt_iff_toInt_lt] at q3; have k0 : (0 : Int32).toInt = 0 := rfl; have l_10 : (10 : Int32).toInt = 10 := rfl; rw [Int32.lt_iff_toInt_lt] at q; omega)
            refine Go.by (fun _ => XS.icmpYes X0.here hx rfl (pc0 := 49) (pc' := 56) rfl (hb hby at_49) rfl (flt hc49).2.1 (by decide) (by decide)) ?_
            show Go p e below P (s₁.setTop (mkF m 56 #[.val (.int p0), .val (.int p1), .val (.int (2 : Int32)), .val (.int c), .val (.int dx), .unset, .unset, .unset, .unset, .unset] []))
            refine Go.by (fun _ => XS.iconst X0.here hx rfl (hb hby at_56)) ?_
            show Go p e below P (s₁.setTop (mkF m 57 #[.val (.int p0), .val (.int p1), .val (.int (2 : Int32)), .val (.int c), .val (.int dx), .unset, .unset, .unset, .unset, .unset] [(.int (0 : Int32))]))
            refine Go.by (fun _ => XS.istore X0.here hx rfl (hb hby at_57) rfl (l' := #[.val (.int p0), .val (.int p1), .val (.int (2 : Int32)), .val (.int c), .val (.int dx), .val (.int (0 : Int32)), .unset, .unset, .unset, .unset]) rfl) ?_
            show Go p e below P (s₁.setTop (mkF m 59 #[.val (.int p0), .val (.int p1), .val (.int (2 : Int32)), .val (.int c), .val (.int dx), .val (.int (0 : Int32)), .unset, .unset, .unset, .unset] []))
            refine Go.by (fun _ => XS.iloadN X0.here hx rfl (hb hby at_59) rfl) ?_
            show Go p e below P (s₁.setTop (mkF m 60 #[.val (.int p0), .val (.int p1), .val (.int (2 : Int32)), .val (.int c), .val (.int dx), .val (.int (0 : Int32)), .unset, .unset, .unset, .unset] [(.int c)]))
            refine Go.by (fun _ => XS.bipush X0.here hx rfl (hb hby at_60)) ?_
            show Go p e below P (s₁.setTop (mkF m 62 #[.val (.int p0), .val (.int p1), .val (.int (2 : Int32)), .val (.int c), .val (.int dx), .val (.int (0 : Int32)), .unset, .unset, .unset, .unset] [(.int (65 : Int32)), (.int c)]))
            refine Go.by (fun _ => XS.isub X0.here hx rfl (hb hby at_62) rfl) ?_
            show Go p e below P (s₁.setTop (mkF m 63 #[.val (.int p0), .val (.int p1), .val (.int (2 : Int32)), .val (.int c), .val (.int dx), .val (.int (0 : Int32)), .unset, .unset, .unset, .unset] [(.int (c - (65 : Int32)))]))
            generalize hv_lx : (c - (65 : Int32)) = lx
            refine Go.by (fun _ => XS.istore X0.here hx rfl (hb hby at_63) rfl (l' := #[.val (.int p0), .val (.int p1), .val (.int (2 : Int32)), .val (.int c), .val (.int dx), .val (.int (0 : Int32)), .val (.int lx), .unset, .unset, .unset]) rfl) ?_
            show Go p e below P (s₁.setTop (mkF m 65 #[.val (.int p0), .val (.int p1), .val (.int (2 : Int32)), .val (.int c), .val (.int dx), .val (.int (0 : Int32)), .val (.int lx), .unset, .unset, .unset] []))
            refine Go.by (fun _ => XS.iload X0.here hx rfl (hb hby at_65) rfl) ?_
            show Go p e below P (s₁.setTop (mkF m 67 #[.val (.int p0), .val (.int p1), .val (.int (2 : Int32)), .val (.int c), .val (.int dx), .val (.int (0 : Int32)), .val (.int lx), .unset, .unset, .unset] [(.int lx)]))
            by_cases hc67 : lx < (0 : Int32)
            · refine Go.by (fun _ => XS.ifYes X0.here hx rfl (pc0 := 67) (pc' := 81) rfl (hb hby at_67) rfl ((if0 _ _).trans (tlt hc67).1) (by decide) (by decide)) ?_
              show Go p e below P (s₁.setTop (mkF m 81 #[.val (.int p0), .val (.int p1), .val (.int (2 : Int32)), .val (.int c), .val (.int dx), .val (.int (0 : Int32)), .val (.int lx), .unset, .unset, .unset] []))
              refine Go.by (fun _ => XS.iconst X0.here hx rfl (hb hby at_81)) ?_
              show Go p e below P (s₁.setTop (mkF m 82 #[.val (.int p0), .val (.int p1), .val (.int (2 : Int32)), .val (.int c), .val (.int dx), .val (.int (0 : Int32)), .val (.int lx), .unset, .unset, .unset] [(.int (0 : Int32))]))
              refine Go.by (fun _ => XS.istore X0.here hx rfl (hb hby at_82) rfl (l' := #[.val (.int p0), .val (.int p1), .val (.int (2 : Int32)), .val (.int c), .val (.int dx), .val (.int (0 : Int32)), .val (.int lx), .val (.int (0 : Int32)), .unset, .unset]) rfl) ?_
              show Go p e below P (s₁.setTop (mkF m 84 #[.val (.int p0), .val (.int p1), .val (.int (2 : Int32)), .val (.int c), .val (.int dx), .val (.int (0 : Int32)), .val (.int lx), .val (.int (0 : Int32)), .unset, .unset] []))
              refine Go.by (fun _ => XS.iloadN X0.here hx rfl (hb hby at_84) rfl) ?_
              show Go p e below P (s₁.setTop (mkF m 85 #[.val (.int p0), .val (.int p1), .val (.int (2 : Int32)), .val (.int c), .val (.int dx), .val (.int (0 : Int32)), .val (.int lx), .val (.int (0 : Int32)), .unset, .unset] [(.int (2 : Int32))]))
              have hc85 : ¬ ((2 : Int32) = (0 : Int32)) := by decide
              refine Go.by (fun _ => XS.ifYes X0.here hx rfl (pc0 := 85) (pc' := 100) rfl (hb hby at_85) rfl ((if0 _ _).trans (feq hc85).2) (by decide) (by decide)) ?_
              show Go p e below P (s₁.setTop (mkF m 100 #[.val (.int p0), .val (.int p1), .val (.int (2 : Int32)), .val (.int c), .val (.int dx), .val (.int (0 : Int32)), .val (.int lx), .val (.int (0 : Int32)), .unset, .unset] []))
              refine Go.by (fun _ => XS.iloadN X0.here hx rfl (hb hby at_100) rfl) ?_
              show Go p e below P (s₁.setTop (mkF m 101 #[.val (.int p0), .val (.int p1), .val (.int (2 : Int32)), .val (.int c), .val (.int dx), .val (.int (0 : Int32)), .val (.int lx), .val (.int (0 : Int32)), .unset, .unset] [(.int (2 : Int32))]))
              refine Go.by (fun _ => XS.iconst X0.here hx rfl (hb hby at_101)) ?_
              show Go p e below P (s₁.setTop (mkF m 102 #[.val (.int p0), .val (.int p1), .val (.int (2 : Int32)), .val (.int c), .val (.int dx), .val (.int (0 : Int32)), .val (.int lx), .val (.int (0 : Int32)), .unset, .unset] [(.int (1 : Int32)), (.int (2 : Int32))]))
              have hc102 : ¬ ((2 : Int32) = (1 : Int32)) := by decide
              refine Go.by (fun _ => XS.icmpYes X0.here hx rfl (pc0 := 102) (pc' := 117) rfl (hb hby at_102) rfl (feq hc102).2 (by decide) (by decide)) ?_
              show Go p e below P (s₁.setTop (mkF m 117 #[.val (.int p0), .val (.int p1), .val (.int (2 : Int32)), .val (.int c), .val (.int dx), .val (.int (0 : Int32)), .val (.int lx), .val (.int (0 : Int32)), .unset, .unset] []))
              obtain ⟨T45, X45, e45, st45⟩ := getS2 X0 hx hZ hown (host := "") (Or.inl (hw _ (List.mem_of_getElem? (i := 19) rfl))) Via.refl e0 (G3.ext O0.2) (g := (mkF m 117 #[.val (.int p0), .val (.int p1), .val (.int (2 : Int32)), .val (.int c), .val (.int dx), .val (.int (0 : Int32)), .val (.int lx), .val (.int (0 : Int32)), .unset, .unset] [])) rfl (hb hby at_117)
              refine Go.by (fun _ => st45 _) ?_
              show Go p e below P (T45.setTop (mkF m 120 #[.val (.int p0), .val (.int p1), .val (.int (2 : Int32)), .val (.int c), .val (.int dx), .val (.int (0 : Int32)), .val (.int lx), .val (.int (0 : Int32)), .unset, .unset] [(.ref wALPHANUMERIC)]))
              refine Go.by (fun _ => XS.astore X45.here hx rfl (hb hby at_120) rfl rfl (l' := #[.val (.int p0), .val (.int p1), .val (.int (2 : Int32)), .val (.int c), .val (.int dx), .val (.int (0 : Int32)), .val (.int lx), .val (.int (0 : Int32)), .val (.ref wALPHANUMERIC), .unset]) rfl) ?_
              show Go p e below P (T45.setTop (mkF m 122 #[.val (.int p0), .val (.int p1), .val (.int (2 : Int32)), .val (.int c), .val (.int dx), .val (.int (0 : Int32)), .val (.int lx), .val (.int (0 : Int32)), .val (.ref wALPHANUMERIC), .unset] []))
              refine Go.by (fun _ => XS.iload X45.here hx rfl (hb hby at_122) rfl) ?_
              show Go p e below P (T45.setTop (mkF m 124 #[.val (.int p0), .val (.int p1), .val (.int (2 : Int32)), .val (.int c), .val (.int dx), .val (.int (0 : Int32)), .val (.int lx), .val (.int (0 : Int32)), .val (.ref wALPHANUMERIC), .unset] [(.int (0 : Int32))]))
              have hc124 : (0 : Int32) = (0 : Int32) := by decide
              refine Go.by (fun _ => XS.ifNo X45.here hx rfl (hb hby at_124) rfl ((if0 _ _).trans (teq hc124).2)) ?_
              show Go p e below P (T45.setTop (mkF m 127 #[.val (.int p0), .val (.int p1), .val (.int (2 : Int32)), .val (.int c), .val (.int dx), .val (.int (0 : Int32)), .val (.int lx), .val (.int (0 : Int32)), .val (.ref wALPHANUMERIC), .unset] []))
              refine Go.by (fun _ => XS.iload X45.here hx rfl (hb hby at_127) rfl) ?_
              show Go p e below P (T45.setTop (mkF m 129 #[.val (.int p0), .val (.int p1), .val (.int (2 : Int32)), .val (.int c), .val (.int dx), .val (.int (0 : Int32)), .val (.int lx), .val (.int (0 : Int32)), .val (.ref wALPHANUMERIC), .unset] [(.int (0 : Int32))]))
              have hc129 : (0 : Int32) = (0 : Int32) := by decide
              refine Go.by (fun _ => XS.ifYes X45.here hx rfl (pc0 := 129) (pc' := 136) rfl (hb hby at_129) rfl ((if0 _ _).trans (teq hc129).1) (by decide) (by decide)) ?_
              show Go p e below P (T45.setTop (mkF m 136 #[.val (.int p0), .val (.int p1), .val (.int (2 : Int32)), .val (.int c), .val (.int dx), .val (.int (0 : Int32)), .val (.int lx), .val (.int (0 : Int32)), .val (.ref wALPHANUMERIC), .unset] []))
              refine Go.by (fun _ => XS.iconst X45.here hx rfl (hb hby at_136)) ?_
              show Go p e below P (T45.setTop (mkF m 137 #[.val (.int p0), .val (.int p1), .val (.int (2 : Int32)), .val (.int c), .val (.int dx), .val (.int (0 : Int32)), .val (.int lx), .val (.int (0 : Int32)), .val (.ref wALPHANUMERIC), .unset] [(.int (0 : Int32))]))
              refine Go.by (fun _ => XS.istore X45.here hx rfl (hb hby at_137) rfl (l' := #[.val (.int p0), .val (.int p1), .val (.int (2 : Int32)), .val (.int c), .val (.int dx), .val (.int (0 : Int32)), .val (.int lx), .val (.int (0 : Int32)), .val (.ref wALPHANUMERIC), .val (.int (0 : Int32))]) rfl) ?_
              show Go p e below P (T45.setTop (mkF m 139 #[.val (.int p0), .val (.int p1), .val (.int (2 : Int32)), .val (.int c), .val (.int dx), .val (.int (0 : Int32)), .val (.int lx), .val (.int (0 : Int32)), .val (.ref wALPHANUMERIC), .val (.int (0 : Int32))] []))
              refine Go.by (fun _ => XS.aload X45.here hx rfl (hb hby at_139) rfl rfl) ?_
              show Go p e below P (T45.setTop (mkF m 141 #[.val (.int p0), .val (.int p1), .val (.int (2 : Int32)), .val (.int c), .val (.int dx), .val (.int (0 : Int32)), .val (.int lx), .val (.int (0 : Int32)), .val (.ref wALPHANUMERIC), .val (.int (0 : Int32))] [(.ref wALPHANUMERIC)]))
              refine Go.by (fun _ => XS.iloadN X45.here hx rfl (hb hby at_141) rfl) ?_
              show Go p e below P (T45.setTop (mkF m 142 #[.val (.int p0), .val (.int p1), .val (.int (2 : Int32)), .val (.int c), .val (.int dx), .val (.int (0 : Int32)), .val (.int lx), .val (.int (0 : Int32)), .val (.ref wALPHANUMERIC), .val (.int (0 : Int32))] [(.int c), (.ref wALPHANUMERIC)]))
              obtain ⟨cq46, kq46, qa46, qb46, qc46⟩ := isOf hZ e45 (G4.ext O0.2)
              obtain ⟨_, _, ⟨T46, L46, k46, n46⟩, -, X46, ⟨Lc46, hQ46, l46, y46, z46⟩, st46⟩ := X45.virtualBack hx (y := (⟨"com/example/kontoform/kontoform/CharacterClass", "admits", "(C)Z"⟩ : MethodName)) (z := (⟨"com/example/kontoform/kontoform/CharacterClass", "admits", "(C)Z"⟩ : MethodName)) hown (mvT hZ (hw _ (List.mem_of_getElem? (i := 5) rfl))) (mvT hZ (hw _ (List.mem_of_getElem? (i := 6) rfl))) (notFace_of_selects (args := #[]) (mvT hZ (hw _ (List.mem_of_getElem? (i := 8) rfl)))) (mvT hZ (hw _ (List.mem_of_getElem? (i := 8) rfl))) (mvT hZ (hw _ (List.mem_of_getElem? (i := 7) rfl))) (by decide) (backOf (W := 0) (rm_adm2 l Z a0 hw [] wDIGITS wALPHANUMERIC wLETTERS hG c ((0 : Int32)) h0 n0 Z0 O0  (own_alphaN c hd hl)) hZ (hw _ (List.mem_of_getElem? (i := 9) rfl)) (hw _ (List.mem_of_getElem? (i := 3) rfl)) (Nat.le_of_ble_eq_true rfl) (Nat.le_of_ble_eq_true rfl)) qa46 qc46 (g := (mkF m 142 #[.val (.int p0), .val (.int p1), .val (.int (2 : Int32)), .val (.int c), .val (.int dx), .val (.int (0 : Int32)), .val (.int lx), .val (.int (0 : Int32)), .val (.ref wALPHANUMERIC), .val (.int (0 : Int32))] [(.int c), (.ref wALPHANUMERIC)])) rfl (by rw [hml]; rfl) (Steps.refl _) (argsL := [(.int c)]) (rest := []) (lenOf pd_1 rfl) rfl (by show 2 * 0 + _ ≤ _; exact Nat.le_of_eq rfl) (hb hby at_142) (fun _ _ => ⟨rfl, e45, (Nat.le_of_ble_eq_true rfl : 0 + 0 ≤ _), (Nat.le_of_ble_eq_true rfl : 0 + 0 ≤ _)⟩)
              dsimp only [Pt.U, Pt.locs, Pt.cells, Pt.slots] at X46 l46 y46 z46 st46 hQ46
              subst l46 y46 z46
              obtain ⟨rfl, Nq46, eq46⟩ := hQ46
              have N46 := Fr.app N0 Nq46
              refine Go.by (fun _ k => st46.trans k) ?_
              show Go p e below P (T46.setTop (mkF m 145 #[.val (.int p0), .val (.int p1), .val (.int (2 : Int32)), .val (.int c), .val (.int dx), .val (.int (0 : Int32)), .val (.int lx), .val (.int (0 : Int32)), .val (.ref wALPHANUMERIC), .val (.int (0 : Int32))] [(.int (0 : Int32))]))
              refine Go.by (fun _ => XS.iload X46.here hx rfl (hb hby at_145) rfl) ?_
              show Go p e below P (T46.setTop (mkF m 147 #[.val (.int p0), .val (.int p1), .val (.int (2 : Int32)), .val (.int c), .val (.int dx), .val (.int (0 : Int32)), .val (.int lx), .val (.int (0 : Int32)), .val (.ref wALPHANUMERIC), .val (.int (0 : Int32))] [(.int (0 : Int32)), (.int (0 : Int32))]))
              have hc147 : (0 : Int32) = (0 : Int32) := by decide
              refine Go.by (fun _ => XS.icmpNo X46.here hx rfl (hb hby at_147) rfl (teq hc147).2) ?_
              show Go p e below P (T46.setTop (mkF m 150 #[.val (.int p0), .val (.int p1), .val (.int (2 : Int32)), .val (.int c), .val (.int dx), .val (.int (0 : Int32)), .val (.int lx), .val (.int (0 : Int32)), .val (.ref wALPHANUMERIC), .val (.int (0 : Int32))] []))
              refine Go.by (fun _ => XS.iconst X46.here hx rfl (hb hby at_150)) ?_
              show Go p e below P (T46.setTop (mkF m 151 #[.val (.int p0), .val (.int p1), .val (.int (2 : Int32)), .val (.int c), .val (.int dx), .val (.int (0 : Int32)), .val (.int lx), .val (.int (0 : Int32)), .val (.ref wALPHANUMERIC), .val (.int (0 : Int32))] [(.int (1 : Int32))]))
              refine Go.by (fun _ => XS.goto X46.here hx rfl (pc0 := 151) (pc' := 155) rfl (hb hby at_151) (by decide) (by decide)) ?_
              show Go p e below P (T46.setTop (mkF m 155 #[.val (.int p0), .val (.int p1), .val (.int (2 : Int32)), .val (.int c), .val (.int dx), .val (.int (0 : Int32)), .val (.int lx), .val (.int (0 : Int32)), .val (.ref wALPHANUMERIC), .val (.int (0 : Int32))] [(.int (1 : Int32))]))
              subst hP
              refine Go.retZ X46 hx (t := .boolean) Bd.returns (by simp) hlk (hb hby at_155) (Nat.le_of_ble_eq_true rfl) (Nat.le_of_ble_eq_true rfl) ?_
              rw [eq46]
              exact ⟨rfl, N46⟩
            · refine Go.by (fun _ => XS.ifNo X0.here hx rfl (hb hby at_67) rfl ((if0 _ _).trans (flt hc67).1)) ?_
              show Go p e below P (s₁.setTop (mkF m 70 #[.val (.int p0), .val (.int p1), .val (.int (2 : Int32)), .val (.int c), .val (.int dx), .val (.int (0 : Int32)), .val (.int lx), .unset, .unset, .unset] []))
              refine Go.by (fun _ => XS.iload X0.here hx rfl (hb hby at_70) rfl) ?_
              show Go p e below P (s₁.setTop (mkF m 72 #[.val (.int p0), .val (.int p1), .val (.int (2 : Int32)), .val (.int c), .val (.int dx), .val (.int (0 : Int32)), .val (.int lx), .unset, .unset, .unset] [(.int lx)]))
              refine Go.by (fun _ => XS.bipush X0.here hx rfl (hb hby at_72)) ?_
              show Go p e below P (s₁.setTop (mkF m 74 #[.val (.int p0), .val (.int p1), .val (.int (2 : Int32)), .val (.int c), .val (.int dx), .val (.int (0 : Int32)), .val (.int lx), .unset, .unset, .unset] [(.int (26 : Int32)), (.int lx)]))
              have hc74 : ¬ (lx < (26 : Int32)) := (fun q => by have q0 := own_sub c 65 hj (by decide); have q1 := congrArg Int32.toInt hv_lx; have k65 : (65 : Int32).toInt = 65 := rfl; have q3 := hc67; rw [Int32.lt_iff_toInt_lt] at q3; have k0 : (0 : Int32).toInt = 0 := rfl; have l_26 : (26 : Int32).toInt = 26 := rfl; rw [Int32.lt_iff_toInt_lt] at q; omega)
              refine Go.by (fun _ => XS.icmpYes X0.here hx rfl (pc0 := 74) (pc' := 81) rfl (hb hby at_74) rfl (flt hc74).2.1 (by decide) (by decide)) ?_
              show Go p e below P (s₁.setTop (mkF m 81 #[.val (.int p0), .val (.int p1), .val (.int (2 : Int32)), .val (.int c), .val (.int dx), .val (.int (0 : Int32)), .val (.int lx), .unset, .unset, .unset] []))
              refine Go.by (fun _ => XS.iconst X0.here hx rfl (hb hby at_81)) ?_
              show Go p e below P (s₁.setTop (mkF m 82 #[.val (.int p0), .val (.int p1), .val (.int (2 : Int32)), .val (.int c), .val (.int dx), .val (.int (0 : Int32)), .val (.int lx), .unset, .unset, .unset] [(.int (0 : Int32))]))
              refine Go.by (fun _ => XS.istore X0.here hx rfl (hb hby at_82) rfl (l' := #[.val (.int p0), .val (.int p1), .val (.int (2 : Int32)), .val (.int c), .val (.int dx), .val (.int (0 : Int32)), .val (.int lx), .val (.int (0 : Int32)), .unset, .unset]) rfl) ?_
              show Go p e below P (s₁.setTop (mkF m 84 #[.val (.int p0), .val (.int p1), .val (.int (2 : Int32)), .val (.int c), .val (.int dx), .val (.int (0 : Int32)), .val (.int lx), .val (.int (0 : Int32)), .unset, .unset] []))
              refine Go.by (fun _ => XS.iloadN X0.here hx rfl (hb hby at_84) rfl) ?_
              show Go p e below P (s₁.setTop (mkF m 85 #[.val (.int p0), .val (.int p1), .val (.int (2 : Int32)), .val (.int c), .val (.int dx), .val (.int (0 : Int32)), .val (.int lx), .val (.int (0 : Int32)), .unset, .unset] [(.int (2 : Int32))]))
              have hc85 : ¬ ((2 : Int32) = (0 : Int32)) := by decide
              refine Go.by (fun _ => XS.ifYes X0.here hx rfl (pc0 := 85) (pc' := 100) rfl (hb hby at_85) rfl ((if0 _ _).trans (feq hc85).2) (by decide) (by decide)) ?_
              show Go p e below P (s₁.setTop (mkF m 100 #[.val (.int p0), .val (.int p1), .val (.int (2 : Int32)), .val (.int c), .val (.int dx), .val (.int (0 : Int32)), .val (.int lx), .val (.int (0 : Int32)), .unset, .unset] []))
              refine Go.by (fun _ => XS.iloadN X0.here hx rfl (hb hby at_100) rfl) ?_
              show Go p e below P (s₁.setTop (mkF m 101 #[.val (.int p0), .val (.int p1), .val (.int (2 : Int32)), .val (.int c), .val (.int dx), .val (.int (0 : Int32)), .val (.int lx), .val (.int (0 : Int32)), .unset, .unset] [(.int (2 : Int32))]))
              refine Go.by (fun _ => XS.iconst X0.here hx rfl (hb hby at_101)) ?_
              show Go p e below P (s₁.setTop (mkF m 102 #[.val (.int p0), .val (.int p1), .val (.int (2 : Int32)), .val (.int c), .val (.int dx), .val (.int (0 : Int32)), .val (.int lx), .val (.int (0 : Int32)), .unset, .unset] [(.int (1 : Int32)), (.int (2 : Int32))]))
              have hc102 : ¬ ((2 : Int32) = (1 : Int32)) := by decide
              refine Go.by (fun _ => XS.icmpYes X0.here hx rfl (pc0 := 102) (pc' := 117) rfl (hb hby at_102) rfl (feq hc102).2 (by decide) (by decide)) ?_
              show Go p e below P (s₁.setTop (mkF m 117 #[.val (.int p0), .val (.int p1), .val (.int (2 : Int32)), .val (.int c), .val (.int dx), .val (.int (0 : Int32)), .val (.int lx), .val (.int (0 : Int32)), .unset, .unset] []))
              obtain ⟨T47, X47, e47, st47⟩ := getS2 X0 hx hZ hown (host := "") (Or.inl (hw _ (List.mem_of_getElem? (i := 19) rfl))) Via.refl e0 (G3.ext O0.2) (g := (mkF m 117 #[.val (.int p0), .val (.int p1), .val (.int (2 : Int32)), .val (.int c), .val (.int dx), .val (.int (0 : Int32)), .val (.int lx), .val (.int (0 : Int32)), .unset, .unset] [])) rfl (hb hby at_117)
              refine Go.by (fun _ => st47 _) ?_
              show Go p e below P (T47.setTop (mkF m 120 #[.val (.int p0), .val (.int p1), .val (.int (2 : Int32)), .val (.int c), .val (.int dx), .val (.int (0 : Int32)), .val (.int lx), .val (.int (0 : Int32)), .unset, .unset] [(.ref wALPHANUMERIC)]))
              refine Go.by (fun _ => XS.astore X47.here hx rfl (hb hby at_120) rfl rfl (l' := #[.val (.int p0), .val (.int p1), .val (.int (2 : Int32)), .val (.int c), .val (.int dx), .val (.int (0 : Int32)), .val (.int lx), .val (.int (0 : Int32)), .val (.ref wALPHANUMERIC), .unset]) rfl) ?_
              show Go p e below P (T47.setTop (mkF m 122 #[.val (.int p0), .val (.int p1), .val (.int (2 : Int32)), .val (.int c), .val (.int dx), .val (.int (0 : Int32)), .val (.int lx), .val (.int (0 : Int32)), .val (.ref wALPHANUMERIC), .unset] []))
              refine Go.by (fun _ => XS.iload X47.here hx rfl (hb hby at_122) rfl) ?_
              show Go p e below P (T47.setTop (mkF m 124 #[.val (.int p0), .val (.int p1), .val (.int (2 : Int32)), .val (.int c), .val (.int dx), .val (.int (0 : Int32)), .val (.int lx), .val (.int (0 : Int32)), .val (.ref wALPHANUMERIC), .unset] [(.int (0 : Int32))]))
              have hc124 : (0 : Int32) = (0 : Int32) := by decide
              refine Go.by (fun _ => XS.ifNo X47.here hx rfl (hb hby at_124) rfl ((if0 _ _).trans (teq hc124).2)) ?_
              show Go p e below P (T47.setTop (mkF m 127 #[.val (.int p0), .val (.int p1), .val (.int (2 : Int32)), .val (.int c), .val (.int dx), .val (.int (0 : Int32)), .val (.int lx), .val (.int (0 : Int32)), .val (.ref wALPHANUMERIC), .unset] []))
              refine Go.by (fun _ => XS.iload X47.here hx rfl (hb hby at_127) rfl) ?_
              show Go p e below P (T47.setTop (mkF m 129 #[.val (.int p0), .val (.int p1), .val (.int (2 : Int32)), .val (.int c), .val (.int dx), .val (.int (0 : Int32)), .val (.int lx), .val (.int (0 : Int32)), .val (.ref wALPHANUMERIC), .unset] [(.int (0 : Int32))]))
              have hc129 : (0 : Int32) = (0 : Int32) := by decide
              refine Go.by (fun _ => XS.ifYes X47.here hx rfl (pc0 := 129) (pc' := 136) rfl (hb hby at_129) rfl ((if0 _ _).trans (teq hc129).1) (by decide) (by decide)) ?_
              show Go p e below P (T47.setTop (mkF m 136 #[.val (.int p0), .val (.int p1), .val (.int (2 : Int32)), .val (.int c), .val (.int dx), .val (.int (0 : Int32)), .val (.int lx), .val (.int (0 : Int32)), .val (.ref wALPHANUMERIC), .unset] []))
              refine Go.by (fun _ => XS.iconst X47.here hx rfl (hb hby at_136)) ?_
              show Go p e below P (T47.setTop (mkF m 137 #[.val (.int p0), .val (.int p1), .val (.int (2 : Int32)), .val (.int c), .val (.int dx), .val (.int (0 : Int32)), .val (.int lx), .val (.int (0 : Int32)), .val (.ref wALPHANUMERIC), .unset] [(.int (0 : Int32))]))
              refine Go.by (fun _ => XS.istore X47.here hx rfl (hb hby at_137) rfl (l' := #[.val (.int p0), .val (.int p1), .val (.int (2 : Int32)), .val (.int c), .val (.int dx), .val (.int (0 : Int32)), .val (.int lx), .val (.int (0 : Int32)), .val (.ref wALPHANUMERIC), .val (.int (0 : Int32))]) rfl) ?_
              show Go p e below P (T47.setTop (mkF m 139 #[.val (.int p0), .val (.int p1), .val (.int (2 : Int32)), .val (.int c), .val (.int dx), .val (.int (0 : Int32)), .val (.int lx), .val (.int (0 : Int32)), .val (.ref wALPHANUMERIC), .val (.int (0 : Int32))] []))
              refine Go.by (fun _ => XS.aload X47.here hx rfl (hb hby at_139) rfl rfl) ?_
              show Go p e below P (T47.setTop (mkF m 141 #[.val (.int p0), .val (.int p1), .val (.int (2 : Int32)), .val (.int c), .val (.int dx), .val (.int (0 : Int32)), .val (.int lx), .val (.int (0 : Int32)), .val (.ref wALPHANUMERIC), .val (.int (0 : Int32))] [(.ref wALPHANUMERIC)]))
              refine Go.by (fun _ => XS.iloadN X47.here hx rfl (hb hby at_141) rfl) ?_
              show Go p e below P (T47.setTop (mkF m 142 #[.val (.int p0), .val (.int p1), .val (.int (2 : Int32)), .val (.int c), .val (.int dx), .val (.int (0 : Int32)), .val (.int lx), .val (.int (0 : Int32)), .val (.ref wALPHANUMERIC), .val (.int (0 : Int32))] [(.int c), (.ref wALPHANUMERIC)]))
              obtain ⟨cq48, kq48, qa48, qb48, qc48⟩ := isOf hZ e47 (G4.ext O0.2)
              obtain ⟨_, _, ⟨T48, L48, k48, n48⟩, -, X48, ⟨Lc48, hQ48, l48, y48, z48⟩, st48⟩ := X47.virtualBack hx (y := (⟨"com/example/kontoform/kontoform/CharacterClass", "admits", "(C)Z"⟩ : MethodName)) (z := (⟨"com/example/kontoform/kontoform/CharacterClass", "admits", "(C)Z"⟩ : MethodName)) hown (mvT hZ (hw _ (List.mem_of_getElem? (i := 5) rfl))) (mvT hZ (hw _ (List.mem_of_getElem? (i := 6) rfl))) (notFace_of_selects (args := #[]) (mvT hZ (hw _ (List.mem_of_getElem? (i := 8) rfl)))) (mvT hZ (hw _ (List.mem_of_getElem? (i := 8) rfl))) (mvT hZ (hw _ (List.mem_of_getElem? (i := 7) rfl))) (by decide) (backOf (W := 0) (rm_adm2 l Z a0 hw [] wDIGITS wALPHANUMERIC wLETTERS hG c ((0 : Int32)) h0 n0 Z0 O0  (own_alphaN c hd hl)) hZ (hw _ (List.mem_of_getElem? (i := 9) rfl)) (hw _ (List.mem_of_getElem? (i := 3) rfl)) (Nat.le_of_ble_eq_true rfl) (Nat.le_of_ble_eq_true rfl)) qa48 qc48 (g := (mkF m 142 #[.val (.int p0), .val (.int p1), .val (.int (2 : Int32)), .val (.int c), .val (.int dx), .val (.int (0 : Int32)), .val (.int lx), .val (.int (0 : Int32)), .val (.ref wALPHANUMERIC), .val (.int (0 : Int32))] [(.int c), (.ref wALPHANUMERIC)])) rfl (by rw [hml]; rfl) (Steps.refl _) (argsL := [(.int c)]) (rest := []) (lenOf pd_1 rfl) rfl (by show 2 * 0 + _ ≤ _; exact Nat.le_of_eq rfl) (hb hby at_142) (fun _ _ => ⟨rfl, e47, (Nat.le_of_ble_eq_true rfl : 0 + 0 ≤ _), (Nat.le_of_ble_eq_true rfl : 0 + 0 ≤ _)⟩)
              dsimp only [Pt.U, Pt.locs, Pt.cells, Pt.slots] at X48 l48 y48 z48 st48 hQ48
              subst l48 y48 z48
              obtain ⟨rfl, Nq48, eq48⟩ := hQ48
              have N48 := Fr.app N0 Nq48
              refine Go.by (fun _ k => st48.trans k) ?_
              show Go p e below P (T48.setTop (mkF m 145 #[.val (.int p0), .val (.int p1), .val (.int (2 : Int32)), .val (.int c), .val (.int dx), .val (.int (0 : Int32)), .val (.int lx), .val (.int (0 : Int32)), .val (.ref wALPHANUMERIC), .val (.int (0 : Int32))] [(.int (0 : Int32))]))
              refine Go.by (fun _ => XS.iload X48.here hx rfl (hb hby at_145) rfl) ?_
              show Go p e below P (T48.setTop (mkF m 147 #[.val (.int p0), .val (.int p1), .val (.int (2 : Int32)), .val (.int c), .val (.int dx), .val (.int (0 : Int32)), .val (.int lx), .val (.int (0 : Int32)), .val (.ref wALPHANUMERIC), .val (.int (0 : Int32))] [(.int (0 : Int32)), (.int (0 : Int32))]))
              have hc147 : (0 : Int32) = (0 : Int32) := by decide
              refine Go.by (fun _ => XS.icmpNo X48.here hx rfl (hb hby at_147) rfl (teq hc147).2) ?_
              show Go p e below P (T48.setTop (mkF m 150 #[.val (.int p0), .val (.int p1), .val (.int (2 : Int32)), .val (.int c), .val (.int dx), .val (.int (0 : Int32)), .val (.int lx), .val (.int (0 : Int32)), .val (.ref wALPHANUMERIC), .val (.int (0 : Int32))] []))
              refine Go.by (fun _ => XS.iconst X48.here hx rfl (hb hby at_150)) ?_
              show Go p e below P (T48.setTop (mkF m 151 #[.val (.int p0), .val (.int p1), .val (.int (2 : Int32)), .val (.int c), .val (.int dx), .val (.int (0 : Int32)), .val (.int lx), .val (.int (0 : Int32)), .val (.ref wALPHANUMERIC), .val (.int (0 : Int32))] [(.int (1 : Int32))]))
              refine Go.by (fun _ => XS.goto X48.here hx rfl (pc0 := 151) (pc' := 155) rfl (hb hby at_151) (by decide) (by decide)) ?_
              show Go p e below P (T48.setTop (mkF m 155 #[.val (.int p0), .val (.int p1), .val (.int (2 : Int32)), .val (.int c), .val (.int dx), .val (.int (0 : Int32)), .val (.int lx), .val (.int (0 : Int32)), .val (.ref wALPHANUMERIC), .val (.int (0 : Int32))] [(.int (1 : Int32))]))
              subst hP
              refine Go.retZ X48 hx (t := .boolean) Bd.returns (by simp) hlk (hb hby at_155) (Nat.le_of_ble_eq_true rfl) (Nat.le_of_ble_eq_true rfl) ?_
              rw [eq48]
              exact ⟨rfl, N48⟩
  by_cases hc13 : ((((p1).toUInt32 >>> ((16 : Int32) &&& 31).toUInt32).toInt32) &&& (1 : Int32)) = (0 : Int32)
  · refine Go.by (fun _ => XS.ifYes X0.here hx rfl (pc0 := 13) (pc' := 28) rfl (hb hby at_13) rfl ((if0 _ _).trans (teq hc13).1) (by decide) (by decide)) ?_
    show Go p e below P (s₁.setTop (mkF m 28 #[.val (.int p0), .val (.int p1), .val (.int i), .unset, .unset, .unset, .unset, .unset, .unset, .unset] []))
    refine Go.by (fun _ => XS.iloadN X0.here hx rfl (hb hby at_28) rfl) ?_
    show Go p e below P (s₁.setTop (mkF m 29 #[.val (.int p0), .val (.int p1), .val (.int i), .unset, .unset, .unset, .unset, .unset, .unset, .unset] [(.int p1)]))
    refine Go.by (fun _ => X0.ldcInt hx hown (mvT hZ (hw _ (List.mem_of_getElem? (i := 1) rfl))) (g := (mkF m 29 #[.val (.int p0), .val (.int p1), .val (.int i), .unset, .unset, .unset, .unset, .unset, .unset, .unset] [(.int p1)])) rfl (hb hby at_29) _) ?_
    show Go p e below P (s₁.setTop (mkF m 31 #[.val (.int p0), .val (.int p1), .val (.int i), .unset, .unset, .unset, .unset, .unset, .unset, .unset] [(.int (65535 : Int32)), (.int p1)]))
    refine Go.by (fun _ => XS.iand X0.here hx rfl (hb hby at_31) rfl) ?_
    show Go p e below P (s₁.setTop (mkF m 32 #[.val (.int p0), .val (.int p1), .val (.int i), .unset, .unset, .unset, .unset, .unset, .unset, .unset] [(.int (p1 &&& (65535 : Int32)))]))
    refine Go.by (fun _ => XS.i2c X0.here hx rfl (hb hby at_32) rfl) ?_
    show Go p e below P (s₁.setTop (mkF m 33 #[.val (.int p0), .val (.int p1), .val (.int i), .unset, .unset, .unset, .unset, .unset, .unset, .unset] [(.int (((p1 &&& (65535 : Int32))).toUInt32.toUInt16.toUInt32.toInt32))]))
    refine Go.by (fun _ => XS.istoreN X0.here hx rfl (hb hby at_33) rfl (l' := #[.val (.int p0), .val (.int p1), .val (.int i), .val (.int (((p1 &&& (65535 : Int32))).toUInt32.toUInt16.toUInt32.toInt32)), .unset, .unset, .unset, .unset, .unset, .unset]) rfl) ?_
    show Go p e below P (s₁.setTop (mkF m 34 #[.val (.int p0), .val (.int p1), .val (.int i), .val (.int (((p1 &&& (65535 : Int32))).toUInt32.toUInt16.toUInt32.toInt32)), .unset, .unset, .unset, .unset, .unset, .unset] []))
    exact J34 (((p1 &&& (65535 : Int32))).toUInt32.toUInt16.toUInt32.toInt32) (c_i2c _).2
  · refine Go.by (fun _ => XS.ifNo X0.here hx rfl (hb hby at_13) rfl ((if0 _ _).trans (feq hc13).1)) ?_
    show Go p e below P (s₁.setTop (mkF m 16 #[.val (.int p0), .val (.int p1), .val (.int i), .unset, .unset, .unset, .unset, .unset, .unset, .unset] []))
    refine Go.by (fun _ => XS.bipush X0.here hx rfl (hb hby at_16)) ?_
    show Go p e below P (s₁.setTop (mkF m 18 #[.val (.int p0), .val (.int p1), .val (.int i), .unset, .unset, .unset, .unset, .unset, .unset, .unset] [(.int (44 : Int32))]))
    refine Go.by (fun _ => XS.iloadN X0.here hx rfl (hb hby at_18) rfl) ?_
    show Go p e below P (s₁.setTop (mkF m 19 #[.val (.int p0), .val (.int p1), .val (.int i), .unset, .unset, .unset, .unset, .unset, .unset, .unset] [(.int p1), (.int (44 : Int32))]))
    refine Go.by (fun _ => XS.bipush X0.here hx rfl (hb hby at_19)) ?_
    show Go p e below P (s₁.setTop (mkF m 21 #[.val (.int p0), .val (.int p1), .val (.int i), .unset, .unset, .unset, .unset, .unset, .unset, .unset] [(.int (63 : Int32)), (.int p1), (.int (44 : Int32))]))
    refine Go.by (fun _ => XS.iand X0.here hx rfl (hb hby at_21) rfl) ?_
    show Go p e below P (s₁.setTop (mkF m 22 #[.val (.int p0), .val (.int p1), .val (.int i), .unset, .unset, .unset, .unset, .unset, .unset, .unset] [(.int (p1 &&& (63 : Int32))), (.int (44 : Int32))]))
    refine Go.by (fun _ => XS.iadd X0.here hx rfl (hb hby at_22) rfl) ?_
    show Go p e below P (s₁.setTop (mkF m 23 #[.val (.int p0), .val (.int p1), .val (.int i), .unset, .unset, .unset, .unset, .unset, .unset, .unset] [(.int ((44 : Int32) + (p1 &&& (63 : Int32))))]))
    refine Go.by (fun _ => XS.i2c X0.here hx rfl (hb hby at_23) rfl) ?_
    show Go p e below P (s₁.setTop (mkF m 24 #[.val (.int p0), .val (.int p1), .val (.int i), .unset, .unset, .unset, .unset, .unset, .unset, .unset] [(.int ((((44 : Int32) + (p1 &&& (63 : Int32)))).toUInt32.toUInt16.toUInt32.toInt32))]))
    refine Go.by (fun _ => XS.istoreN X0.here hx rfl (hb hby at_24) rfl (l' := #[.val (.int p0), .val (.int p1), .val (.int i), .val (.int ((((44 : Int32) + (p1 &&& (63 : Int32)))).toUInt32.toUInt16.toUInt32.toInt32)), .unset, .unset, .unset, .unset, .unset, .unset]) rfl) ?_
    show Go p e below P (s₁.setTop (mkF m 25 #[.val (.int p0), .val (.int p1), .val (.int i), .val (.int ((((44 : Int32) + (p1 &&& (63 : Int32)))).toUInt32.toUInt16.toUInt32.toInt32)), .unset, .unset, .unset, .unset, .unset, .unset] []))
    refine Go.by (fun _ => XS.goto X0.here hx rfl (pc0 := 25) (pc' := 34) rfl (hb hby at_25) (by decide) (by decide)) ?_
    show Go p e below P (s₁.setTop (mkF m 34 #[.val (.int p0), .val (.int p1), .val (.int i), .val (.int ((((44 : Int32) + (p1 &&& (63 : Int32)))).toUInt32.toUInt16.toUInt32.toInt32)), .unset, .unset, .unset, .unset, .unset, .unset] []))
    exact J34 ((((44 : Int32) + (p1 &&& (63 : Int32)))).toUInt32.toUInt16.toUInt32.toInt32) (c_i2c _).2
set_option maxRecDepth 65536 in
set_option maxHeartbeats 40000000 in
theorem comes_1 {Post : Tables → Env → Array Value → State → Outcome → State → Prop} (hpost : ∀ tb e args s v u, (limb_1_1.after args s (.returned v) u = true ∧ limb_1_2.after args s (.returned v) u = true ∧ True) → FrameEnd s (.returned v) u (Jvm.fieldLocs frame_1_writes args s ++ Jvm.arrayLocs frame_1_arrays args s ++ Jvm.staticLocs frame_1_statics s) 0 0 → Post tb e args s (.returned v) u) :
    ArmFor flags0 classFile x code maxLocals ret World_1 tables_1 room_1 Calls_1 rest_1 Pre_1 Post := by
  intro l hfl _ _ p e ha hc hk s m args below hf hA hF happ hP
  obtain ⟨hcalls, hrest, hpre⟩ := hP
  obtain ⟨-, -, -, hnamed, -, -, -, hat⟩ := (Spec.applies_iff hf).mp happ
  obtain ⟨hg, hn⟩ := and_e (Cond.before_iff.mp (show (Jvm.Cond.and given_1 narrow_1).before args s = true from hpre))
  obtain ⟨hg0, hr0⟩ := and_e hg
  obtain ⟨hg1, hr1⟩ := and_e hr0
  obtain ⟨w0, w1, rfl⟩ : ∃ w0 w1 : Value, args = #[w0, w1] := by
    have hs : args.size = 2 := by simpa [Cond.value, given_1] using hg0
    obtain ⟨L⟩ := args
    match L, hs with
    | [w0, w1], _ => exact ⟨w0, w1, rfl⟩
  have hw := fun d (hd : d ∈ tables_1) => atoms_spec (ws := Jvm.Cond.code x code maxLocals ret :: tables_1) hat d (List.mem_cons_of_mem _ hd)
  have hfit : Fit s := fun {y c} hc i hi => by
    obtain ⟨ha, rfl⟩ := Array.getElem?_eq_some_iff.mp hc
    have q := List.all_eq_true.mp ((Array.all_eq_true_iff_forall_mem.mp hF) _ (Array.getElem_mem ha)) i (List.mem_range.mpr hi)
    simpa [Array.getElem?_eq_getElem hi] using q
  obtain ⟨i0, ei0⟩ := is_v hg1
  obtain rfl : w0 = (.int i0) := Option.some.inj ei0
  obtain ⟨i1, ei1⟩ := is_v hr1
  obtain rfl : w1 = (.int i1) := Option.some.inj ei1
  obtain ⟨nn0, nn_r0⟩ := and_e hn
  obtain ⟨nn1, nn_r1⟩ := and_e nn_r0
  obtain ⟨nn2, nn_r2⟩ := and_e nn_r1
  obtain ⟨nn3, nn_r3⟩ := and_e nn_r2
  obtain ⟨nn4, nn_r4⟩ := and_e nn_r3
  obtain ⟨wDIGITS, eDIGITS⟩ := exa_v nn0
  obtain ⟨wALPHANUMERIC, eALPHANUMERIC⟩ := exa_v nn2
  obtain ⟨wLETTERS, eLETTERS⟩ := exa_v nn4
  have hG : Glob s wDIGITS wALPHANUMERIC wLETTERS := ⟨Sta.start eDIGITS (Or.inr ⟨(hw _ (List.mem_of_getElem? (i := 3) rfl)), (hw _ (List.mem_of_getElem? (i := 4) rfl))⟩), Exa.start eDIGITS nn0, Fld.start ((fld_at eDIGITS).symm.trans (own_eqi (Cond.before_iff.mpr nn1))), Sta.start eALPHANUMERIC (Or.inr ⟨(hw _ (List.mem_of_getElem? (i := 3) rfl)), (hw _ (List.mem_of_getElem? (i := 20) rfl))⟩), Exa.start eALPHANUMERIC nn2, Fld.start ((fld_at eALPHANUMERIC).symm.trans (own_eqi (Cond.before_iff.mpr nn3))), Sta.start eLETTERS (Or.inr ⟨(hw _ (List.mem_of_getElem? (i := 3) rfl)), (hw _ (List.mem_of_getElem? (i := 24) rfl))⟩), Exa.start eLETTERS nn4, Fld.start ((fld_at eLETTERS).symm.trans (own_eqi (Cond.before_iff.mpr nn_r4)))⟩
  obtain ⟨n, o, h1, h2, h3, _, L, rfl, ⟨rfl, N⟩, hq⟩ := rm_law l s _ hw tables_1 wDIGITS wALPHANUMERIC wLETTERS hG i0 i1  s.heap s.heap.size (Nat.le_refl _) (Old.start s)  p e ha hc hk s m _ below hf ((Spec.applies_iff_loose hf).mp happ).1 ⟨rfl, State.Warmed39.refl s, rfl⟩ trivial
  refine ⟨n, _, h1, h2, h3, hpost _ _ _ _ _ _ ⟨Cond.after_iff.mpr rfl, Cond.after_iff.mpr (eq_i res_at (Term.int_eval (1)) rfl), trivial⟩ ⟨hq.1, hq.2.1, (hq.2.2.sift fun y hy => Or.inr (N y hy)).mono (Nat.le_of_ble_eq_true rfl) (Nat.le_of_ble_eq_true rfl)⟩⟩
theorem main_1_1 : Claimed_1_1 := comes_1 fun _ _ _ _ _ _ h hF => ⟨h.1, hF⟩
theorem main_1_2 : Claimed_1_2 := comes_1 fun _ _ _ _ _ _ h hF => ⟨h.2.1, hF⟩
end Jvm.Pilot.@@N@@
namespace Jvm.Pilot.@@N@@
open Jvm Jvm.ClassFile Sem Op Lib Jvm.Free Jvm.Stand Jvm.Pilot.@@N@@.Jvm.D
/-! MADE BY PROGRAM (witnessworld.py) out of the Statement's table words and the real class files: 12 classes; the members and pool entries that the words name. The judged class is class 1, her method 1. -/
namespace start1
open Jvm.ClassFile
def u (s : String) : CpInfo := .utf8 (stringToUtf16 s)
/-- a pool by its gaps: so many unusable entries, then the entry; so many at the end -/
def gap : Nat → List CpInfo → List CpInfo
  | 0, r => r
  | n + 1, r => .unusable :: gap n r
def poolList (es : List (Nat × CpInfo)) (last : Nat) : List CpInfo := es.foldr (fun e r => gap e.1 (e.2 :: r)) (gap last [])
def pool (es : List (Nat × CpInfo)) (last : Nat) : Array CpInfo := ⟨poolList es last⟩
def fileOf (pool : Array CpInfo) (this : Nat) (attrs : Array Attribute := #[]) (ms : Array MethodInfo := #[]) (fl : Nat := 33) (sup : Nat := 0) (ifs : Array Nat := #[]) (fds : Array FieldInfo := #[]) : ClassFile where
  minorVersion := 0
  majorVersion := 65
  constantPool := pool
  accessFlags := fl
  thisClass := this
  superClass := sup
  interfaces := ifs
  fields := fds
  methods := ms
  attributes := attrs
def plain (name : String) (sup : Option ClassId) : Class where
  name := name
  kind := .ordinary
  loader := none
  accessFlags := 33
  super := sup
  interfaces := #[]
  cf := none
  fields := #[]
  methods := #[]
  instanceTypes := #[]
  staticTypes := #[]
  resolved := #[]
  callSites := []
  init := .initialized
  statics := none
  mirror := none

def pool0 : Array CpInfo := pool [(5, u "<init>"), (0, u "()V"), (1, .class_ 10), (1, u "java/lang/Object")] 113

def k0m0 : Method := { name := "<init>", desc := "()V", sig := { parameters := [], returnType := none }, accessFlags := 1, code := none }
/-- java/lang/Object -/
def k0 : Class := { plain "java/lang/Object" none with
  accessFlags := 33
  interfaces := #[]
  cf := some (fileOf pool0 8 #[] #[{ accessFlags := 1, nameIndex := 5, descriptorIndex := 6, attributes := #[] }] 33 0 #[] #[])
  fields := #[]
  methods := #[k0m0]
  instanceTypes := #[]
  staticTypes := #[]
  resolved := Array.replicate 124 none
  statics := none }

def pool1 : Array CpInfo := pool [(2, .class_ 4), (1, u "java/lang/Object"), (0, u "<init>"), (0, u "()V"), (0, .integer 2147483647), (0, .integer 65535), (0, .fieldref 10 11), (0, .class_ 12), (0, .nameAndType 13 14), (0, u "com/example/kontoform/kontoform/CharacterClass"), (0, u "DIGITS"), (0, u "Lcom/example/kontoform/kontoform/CharacterClass;"), (0, .fieldref 10 16), (0, .nameAndType 17 14), (0, u "LETTERS"), (0, .fieldref 10 19), (0, .nameAndType 20 14), (0, u "ALPHANUMERIC"), (0, .methodref 10 22), (0, .nameAndType 23 24), (0, u "admits"), (0, u "(C)Z"), (0, .class_ 26), (0, u "com/example/kontoform/kontoform/CharacterClassAdmitsPinLaw"), (2, u "law"), (0, u "(II)Z")] 3

def k1m0 : Method := { name := "<init>", desc := "()V", sig := { parameters := [], returnType := none }, accessFlags := 1, code := none }
def k1c1 : Code := { maxStack := 3, maxLocals := 10, code := code, exceptionTable := #[], attributes := #[] }
def k1m1 : Method := { name := "law", desc := "(II)Z", sig := { parameters := [.int, .int], returnType := some .boolean }, accessFlags := 9, code := some k1c1 }
/-- com/example/kontoform/kontoform/CharacterClassAdmitsPinLaw -/
def k1 : Class := { plain "com/example/kontoform/kontoform/CharacterClassAdmitsPinLaw" (some 0) with
  accessFlags := 49
  interfaces := #[]
  cf := some (fileOf pool1 25 #[] #[{ accessFlags := 1, nameIndex := 5, descriptorIndex := 6, attributes := #[] }, { accessFlags := 9, nameIndex := 29, descriptorIndex := 30, attributes := #[] }] 49 2 #[] #[])
  fields := #[]
  methods := #[k1m0, k1m1]
  instanceTypes := #[]
  staticTypes := #[]
  resolved := Array.replicate 34 none
  statics := none }

def pool2 : Array CpInfo := pool [(1, .class_ 2), (0, u "java/lang/constant/Constable"), (0, .class_ 4), (0, u "java/lang/Object")] 6

/-- java/lang/constant/Constable -/
def k2 : Class := { plain "java/lang/constant/Constable" (some 0) with
  accessFlags := 1537
  interfaces := #[]
  cf := some (fileOf pool2 1 #[] #[] 1537 3 #[] #[])
  fields := #[]
  methods := #[]
  instanceTypes := #[]
  staticTypes := #[]
  resolved := Array.replicate 11 none
  statics := none }

def pool3 : Array CpInfo := pool [(1, .class_ 2), (0, u "java/lang/Comparable"), (0, .class_ 4), (0, u "java/lang/Object")] 7

/-- java/lang/Comparable -/
def k3 : Class := { plain "java/lang/Comparable" (some 0) with
  accessFlags := 1537
  interfaces := #[]
  cf := some (fileOf pool3 1 #[] #[] 1537 3 #[] #[])
  fields := #[]
  methods := #[]
  instanceTypes := #[]
  staticTypes := #[]
  resolved := Array.replicate 12 none
  statics := none }

def pool4 : Array CpInfo := pool [(1, .class_ 2), (0, u "java/io/Serializable"), (0, .class_ 4), (0, u "java/lang/Object")] 2

/-- java/io/Serializable -/
def k4 : Class := { plain "java/io/Serializable" (some 0) with
  accessFlags := 1537
  interfaces := #[]
  cf := some (fileOf pool4 1 #[] #[] 1537 3 #[] #[])
  fields := #[]
  methods := #[]
  instanceTypes := #[]
  staticTypes := #[]
  resolved := Array.replicate 7 none
  statics := none }

def pool5 : Array CpInfo := pool [(2, .class_ 4), (1, u "java/lang/Enum"), (0, u "name"), (0, u "Ljava/lang/String;"), (0, .fieldref 2 8), (0, .nameAndType 9 10), (0, u "ordinal"), (0, u "I"), (1, .class_ 14), (1, u "java/lang/Object"), (4, u "hash"), (86, .class_ 108), (1, u "java/lang/Enum$EnumDesc"), (2, .class_ 112), (0, u "java/lang/constant/Constable"), (0, .class_ 114), (0, u "java/lang/Comparable"), (0, .class_ 116), (0, u "java/io/Serializable"), (9, u "()I")] 77

def k5c0 : Code := { maxStack := 1, maxLocals := 1, code := jdk_37_method_2_code, exceptionTable := #[], attributes := #[] }
def k5m0 : Method := { name := "ordinal", desc := "()I", sig := { parameters := [], returnType := some .int }, accessFlags := 17, code := some k5c0 }
/-- java/lang/Enum -/
def k5 : Class := { plain "java/lang/Enum" (some 0) with
  accessFlags := 1057
  interfaces := #[2, 3, 4]
  cf := some (fileOf pool5 2 #[.nestMembers #[106]] #[{ accessFlags := 17, nameIndex := 9, descriptorIndex := 126, attributes := #[] }] 1057 12 #[111, 113, 115] #[{ accessFlags := 18, nameIndex := 5, descriptorIndex := 6, attributes := #[] }, { accessFlags := 18, nameIndex := 9, descriptorIndex := 10, attributes := #[] }, { accessFlags := 2, nameIndex := 19, descriptorIndex := 10, attributes := #[] }])
  fields := #[{ name := "name", type := (.object "java/lang/String"), accessFlags := 18, slot := 0, constantValue := 0 }, { name := "ordinal", type := .int, accessFlags := 18, slot := 1, constantValue := 0 }, { name := "hash", type := .int, accessFlags := 2, slot := 2, constantValue := 0 }]
  methods := #[k5m0]
  instanceTypes := #[(.object "java/lang/String"), .int, .int]
  staticTypes := #[]
  resolved := Array.replicate 204 none
  statics := none }

def pool6 : Array CpInfo := pool [(3, .class_ 4), (0, u "com/example/kontoform/kontoform/CharacterClass"), (0, .fieldref 3 6), (0, .nameAndType 7 8), (0, u "DIGITS"), (0, u "Lcom/example/kontoform/kontoform/CharacterClass;"), (0, .fieldref 3 10), (0, .nameAndType 11 8), (0, u "LETTERS"), (2, u "ALPHANUMERIC"), (2, u "$VALUES"), (0, u "[Lcom/example/kontoform/kontoform/CharacterClass;"), (6, .class_ 27), (1, u "java/lang/Enum"), (8, u "code"), (0, u "C"), (13, .methodref 3 52), (0, .nameAndType 53 54), (0, u "ordinal"), (0, u "()I"), (5, .methodref 3 61), (0, .nameAndType 62 63), (0, u "admits"), (0, u "(C)Z"), (17, u "REFUSING"), (0, u "[B"), (13, u "DIGIT_COUNT"), (0, u "I"), (2, u "LETTER_COUNT"), (1, u "LATIN_1_END")] 35

def k6c0 : Code := { maxStack := 4, maxLocals := 2, code := prog_13_method_5_code, exceptionTable := #[], attributes := #[] }
def k6m0 : Method := { name := "admits", desc := "(C)Z", sig := { parameters := [.char], returnType := some .boolean }, accessFlags := 0, code := some k6c0 }
/-- com/example/kontoform/kontoform/CharacterClass -/
def k6 : Class := { plain "com/example/kontoform/kontoform/CharacterClass" (some 5) with
  accessFlags := 16432
  interfaces := #[]
  cf := some (fileOf pool6 3 #[] #[{ accessFlags := 0, nameIndex := 62, descriptorIndex := 63, attributes := #[] }] 16432 25 #[] #[{ accessFlags := 16409, nameIndex := 7, descriptorIndex := 8, attributes := #[] }, { accessFlags := 16409, nameIndex := 11, descriptorIndex := 8, attributes := #[] }, { accessFlags := 16409, nameIndex := 14, descriptorIndex := 8, attributes := #[] }, { accessFlags := 26, nameIndex := 96, descriptorIndex := 97, attributes := #[] }, { accessFlags := 26, nameIndex := 100, descriptorIndex := 97, attributes := #[] }, { accessFlags := 26, nameIndex := 102, descriptorIndex := 97, attributes := #[] }, { accessFlags := 26, nameIndex := 81, descriptorIndex := 82, attributes := #[] }, { accessFlags := 18, nameIndex := 36, descriptorIndex := 37, attributes := #[] }, { accessFlags := 4122, nameIndex := 17, descriptorIndex := 18, attributes := #[] }])
  fields := #[{ name := "DIGITS", type := (.object "com/example/kontoform/kontoform/CharacterClass"), accessFlags := 16409, slot := 0, constantValue := 0 }, { name := "LETTERS", type := (.object "com/example/kontoform/kontoform/CharacterClass"), accessFlags := 16409, slot := 1, constantValue := 0 }, { name := "ALPHANUMERIC", type := (.object "com/example/kontoform/kontoform/CharacterClass"), accessFlags := 16409, slot := 2, constantValue := 0 }, { name := "DIGIT_COUNT", type := .int, accessFlags := 26, slot := 3, constantValue := 0 }, { name := "LETTER_COUNT", type := .int, accessFlags := 26, slot := 4, constantValue := 0 }, { name := "LATIN_1_END", type := .int, accessFlags := 26, slot := 5, constantValue := 0 }, { name := "REFUSING", type := (.array .byte), accessFlags := 26, slot := 6, constantValue := 0 }, { name := "code", type := .char, accessFlags := 18, slot := 3, constantValue := 0 }, { name := "$VALUES", type := (.array (.object "com/example/kontoform/kontoform/CharacterClass")), accessFlags := 4122, slot := 7, constantValue := 0 }]
  methods := #[k6m0]
  instanceTypes := #[(.object "java/lang/String"), .int, .int, .char]
  staticTypes := #[(.object "com/example/kontoform/kontoform/CharacterClass"), (.object "com/example/kontoform/kontoform/CharacterClass"), (.object "com/example/kontoform/kontoform/CharacterClass"), .int, .int, .int, (.array .byte), (.array (.object "com/example/kontoform/kontoform/CharacterClass"))]
  resolved := Array.replicate 138 none
  statics := some 0 }

def pool7 : Array CpInfo := pool [(1, u "java/lang/Cloneable"), (0, .class_ 1), (0, u "java/lang/Object"), (0, .class_ 3)] 3

/-- java/lang/Cloneable -/
def k7 : Class := { plain "java/lang/Cloneable" (some 0) with
  accessFlags := 1537
  interfaces := #[]
  cf := some (fileOf pool7 2 #[] #[] 1537 4 #[] #[])
  fields := #[]
  methods := #[]
  instanceTypes := #[]
  staticTypes := #[]
  resolved := Array.replicate 8 none
  statics := none }

/-- the primitive byte -/
def k8 : Class := { plain "byte" none with kind := .primitive 'B', accessFlags := 0x411 }
/-- [B -/
def k9 : Class := { plain "[B" (some 0) with kind := .array 8 .byte, interfaces := #[7, 4], accessFlags := 1041 }

/-- the primitive int -/
def k10 : Class := { plain "int" none with kind := .primitive 'I', accessFlags := 0x411 }
/-- [I -/
def k11 : Class := { plain "[I" (some 0) with kind := .array 10 .int, interfaces := #[7, 4], accessFlags := 1041 }

def heap : Heap := #[{ cls := 6, slots := #[.ref 1, .ref 3, .ref 2, .int 0, .int 0, .int 0, .null, .null], vm := .statics 6 },
  { cls := 6, slots := #[.null, .int 0, .int 0, .int 0], vm := .none },
  { cls := 6, slots := #[.null, .int 2, .int 0, .int 0], vm := .none },
  { cls := 6, slots := #[.null, .int 1, .int 0, .int 0], vm := .none }]
def classes : Array Class := #[k0, k1, k2, k3, k4, k5, k6, k7, k8, k9, k10, k11]
def interned : List (Array UInt16 × Addr) := []
def slotsUsed : Nat := 20
def theMethod : MethodId := ⟨1, 1⟩
def args0 : Array Value := #[.int 5, .int 7]
def aboutOver (below : List Frame) : State where
  vm := { classes := classes, interned := interned.toArray }
  heap := heap
  slotsUsed := slotsUsed
  threads := #[{ frames := .invoking theMethod args0 :: below }]
def below0 : List Frame := [.native { method := ⟨0, 0⟩, args := #[] }]
def about1 : State := aboutOver below0
def p0 : Program := .bare "" "" ""
def e0 : Env := launch0.env 0 0 0
theorem w_frames : about1.frames = Frame.invoking theMethod args0 :: below0 := rfl
set_option maxRecDepth 65536 in
theorem w_args : argsFit about1.vm theMethod args0 = true := by decide +kernel
set_option maxRecDepth 65536 in
theorem w_heap : heapFits about1 = true := by decide +kernel
set_option maxRecDepth 65536 in
theorem w_runnable : about1.curStatus? = some .runnable := by decide +kernel
set_option maxRecDepth 65536 in
theorem w_alone : about1.alone = true := by decide +kernel
set_option maxRecDepth 65536 in
theorem w_named : about1.methodNamed? x = some theMethod := by decide +kernel
set_option maxRecDepth 65536 in
theorem w_hears : about1.hears theMethod below0 = true := by decide +kernel
set_option maxRecDepth 65536 in
theorem w_ripe : about1.ripe theMethod args0 below0 = true := by decide +kernel
theorem w_running : about1.status = .running := rfl
set_option maxRecDepth 65536 in
theorem w_room : about1.hasRoom e0.platform room_1 = true :=
  launch0.hasRoom_least _ room_1 (by decide +kernel) (by decide +kernel) (by decide +kernel) (by decide +kernel) (by decide +kernel) (by decide +kernel)
theorem allAtoms_all (ts : List Jvm.Cond) (a : Array Jvm.Value) (st : Jvm.State) : (allAtoms ts).before a st = ts.all (fun c => c.before a st) := by
  induction ts with
  | nil => rfl
  | cons c t ih =>
    show (Jvm.Cond.and c (allAtoms t)).before a st = _
    rw [Jvm.Cond.before_and, ih, List.all_cons]
def words1 : List Jvm.Cond := Jvm.Cond.code x code maxLocals ret :: tables_1
/-- a 'code' word, met by the world's own term for the bytes: nothing is compared byte by byte -/
theorem code_word {y : MethodName} {bytes : ByteArray} {mx : Nat} {rt : Option FieldType} {a : Array Value} {s : State} {m : MethodId} {meth : Method} {c : Code} (h1 : s.methodNamed? y = some m) (h2 : s.vm.method? m = some meth) (h3 : meth.code = some c) (h4 : c.code = bytes)
    (h5 : (c.maxLocals == mx && c.exceptionTable.isEmpty && decide (c.maxStack ≤ mostOperands) && decide (meth.sig.returnType = rt) && !meth.locks && decide (parseMethodDescriptor y.desc = some meth.sig)) = true) : (Jvm.Cond.code y bytes mx rt).before a s = true := by
  simp only [Bool.and_eq_true, beq_iff_eq, Bool.not_eq_true', decide_eq_true_eq] at h5
  obtain ⟨⟨⟨⟨⟨g1, g2⟩, g3⟩, g4⟩, g5⟩, g6⟩ := h5
  simp [Cond.before, Cond.holds, Cond.value, h1, h2, h3, h4, g1, g2, g3, g4, g5, g6]
def isCode : Jvm.Cond → Bool
  | .code _ _ _ _ => true
  | _ => false
theorem all_split {L : List Jvm.Cond} {P : Jvm.Cond → Bool} (h1 : L.all (fun c => isCode c || P c) = true) (h2 : ∀ c ∈ L.filter isCode, P c = true) : L.all P = true := by
  refine List.all_eq_true.mpr fun c hc => ?_
  have h := List.all_eq_true.mp h1 c hc
  rcases Bool.eq_false_or_eq_true (isCode c) with hi | hi
  · exact h2 c (List.mem_filter.mpr ⟨hc, hi⟩)
  · simpa [hi] using h
set_option maxRecDepth 65536 in
theorem w_c0 : (Jvm.Cond.code x code maxLocals ret).before args0 about1 = true := code_word (m := ⟨1, 1⟩) (meth := k1m1) (c := k1c1) (by decide +kernel) rfl rfl rfl (by decide +kernel)
set_option maxRecDepth 65536 in
theorem w_c1 : (Jvm.Cond.code ({ cls := "com/example/kontoform/kontoform/CharacterClass", name := "admits", desc := "(C)Z" } : Jvm.MethodName) prog_13_method_5_code (2 : Nat) (Option.some Jvm.ClassFile.FieldType.boolean)).before args0 about1 = true := code_word (m := ⟨6, 0⟩) (meth := k6m0) (c := k6c0) (by decide +kernel) rfl rfl rfl (by decide +kernel)
set_option maxRecDepth 65536 in
theorem w_c2 : (Jvm.Cond.code ({ cls := "java/lang/Enum", name := "ordinal", desc := "()I" } : Jvm.MethodName) jdk_37_method_2_code (1 : Nat) (Option.some Jvm.ClassFile.FieldType.int)).before args0 about1 = true := code_word (m := ⟨5, 0⟩) (meth := k5m0) (c := k5c0) (by decide +kernel) rfl rfl rfl (by decide +kernel)
def codes1 : List Jvm.Cond := [Jvm.Cond.code x code maxLocals ret, Jvm.Cond.code ({ cls := "com/example/kontoform/kontoform/CharacterClass", name := "admits", desc := "(C)Z" } : Jvm.MethodName) prog_13_method_5_code (2 : Nat) (Option.some Jvm.ClassFile.FieldType.boolean), Jvm.Cond.code ({ cls := "java/lang/Enum", name := "ordinal", desc := "()I" } : Jvm.MethodName) jdk_37_method_2_code (1 : Nat) (Option.some Jvm.ClassFile.FieldType.int)]
set_option maxRecDepth 65536 in
theorem codes_eq : words1.filter isCode = codes1 := rfl
theorem w_codes : ∀ c ∈ words1.filter isCode, c.before args0 about1 = true := by
  rw [codes_eq]
  intro c hc
  simp only [codes1, List.mem_cons, List.not_mem_nil, or_false] at hc
  rcases hc with rfl | rfl | rfl
  · exact w_c0
  · exact w_c1
  · exact w_c2
set_option maxRecDepth 65536 in
theorem w_t1 : (words1.take 24).all (fun c => isCode c || c.before args0 about1) = true := by decide +kernel
set_option maxRecDepth 65536 in
theorem w_t2 : (words1.drop 24).all (fun c => isCode c || c.before args0 about1) = true := by decide +kernel
theorem w_tables : (allAtoms (Jvm.Cond.code x code maxLocals ret :: tables_1)).before args0 about1 = true := by
  rw [allAtoms_all]
  show words1.all (fun c => c.before args0 about1) = true
  refine all_split ?_ w_codes
  rw [← List.take_append_drop 24 words1, List.all_append, w_t1, w_t2]
  rfl
set_option maxRecDepth 65536 in
theorem w_case : (Jvm.Cond.and given_1 narrow_1).before args0 about1 = true := by decide +kernel
theorem w_applies : (headSpec (Jvm.Cond.code x code maxLocals ret :: tables_1) room_1).applies x e0.platform about1 = true :=
  (Spec.applies_iff w_frames).mpr ⟨w_running, w_runnable, w_alone, w_named, w_hears, w_ripe, w_room, w_tables⟩
theorem atStart : AtStart classFile x code maxLocals ret World_1 tables_1 room_1 Calls_1 rest_1 Pre_1 launch0 p0 e0 about1 theMethod args0 below0 :=
  ⟨lists_1, trivial, launch0.admits_env _ _ _, launch0.least_env, fairChoices_fair.cas, fairChoices_fair.clock, w_frames, w_args, w_heap, w_applies, trivial, trivial, w_case⟩
end start1
theorem witness_1 : WitnessClaimed_1 := ⟨start1.p0, start1.e0, start1.about1, start1.theMethod, start1.args0, start1.below0, start1.atStart⟩
end Jvm.Pilot.@@N@@

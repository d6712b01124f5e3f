import JvmDerived
import JvmDerived.Pilot.@@N@@Statement
import JvmDerived.Pilot.@@N@@Code
set_option linter.unusedVariables false
set_option linter.unusedSimpArgs false
namespace Jvm.Pilot.@@N@@
open Jvm Jvm.ClassFile Sem Op Lib Jvm.Free Jvm.Stand Jvm.LawKit Jvm.RoadKit Bundle Jvm.Pilot.@@N@@.Jvm.D
/-! the walk in continuation style: 'Go .. A': from A the run comes to its end, and P holds there -/
def Go (p : Program) (e : Env) (below : List Frame) (P : Outcome → State → Prop) (A : State) : Prop := ∃ s₂ o, Steps p.tables e below A s₂ ∧ s₂.status = .running ∧ Ended s₂ below o ∧ P o s₂
theorem Go.by {p : Program} {e : Env} {below : List Frame} {P : Outcome → State → Prop} {A B : State} (h : ∀ t, Steps p.tables e below B t → Steps p.tables e below A t) (k : Go p e below P B) : Go p e below P A := by
  obtain ⟨s2, o, h1, h2⟩ := k
  exact ⟨s2, o, h _ h1, h2⟩
def End (s : State) (Q : Option Value → Heap → List Loc → Prop) (k n : Nat) (o : Outcome) (U : State) : Prop := ∃ v L, o = .returned v ∧ Q v U.heap L ∧ FrameEnd s o U L k n
section Ends
variable {p : Program} {l : Launch} {e : Env} {R : Room} {s : State} {m : MethodId} {args : Array Value} {below : List Frame} {meth : Method} {c : Code} {T : State} {locs : List Loc} {cells slots : Nat} {Q : Option Value → Heap → List Loc → Prop} {C S : Nat}
theorem Go.fin (X : Stand p l e R s m args below meth c T locs cells slots) {A : State} {v : Option Value} (hv : meth.sig.returnType = none → v = none) (hlk : meth.locks = false) (hk : cells ≤ C) (hn : slots ≤ S) (hQ : Q v T.heap locs)
    (k : ∀ fs, (∀ (f : JFrame) (acts : List Action), f.method = m → f.locked = none → f.entered = [] → (doReturn e (T.setTop f) acts v).1 = T.setFrames fs) → Steps p.tables e below A (T.setFrames fs)) : Go p e below (End s Q C S) A := by
  obtain ⟨fs, hr, hrun, hended, hW, hsame⟩ := X.leave (v := v) hv hlk
  exact ⟨_, _, k fs hr, hrun, hended, _, _, rfl, hQ, ⟨_, rfl⟩, hW, hsame.mono hk hn⟩
theorem Go.retZ (X : Stand p l e R s m args below meth c T locs cells slots) (hx : p.tables.exec = Jvm.exec) {pc : Nat} {Ls : Array Slot} {z : Int32} {t : FieldType} {rest : List Value} (hret : meth.sig.returnType = some t) (ht : t = .boolean ∨ t = .byte ∨ t = .char ∨ t = .short) (hlk : meth.locks = false)
    (hd : decode c.code pc = .ok (.ireturn, 1)) (hk : cells ≤ C) (hn : slots ≤ S) (hQ : Q (some (.int (nar t z))) T.heap locs) : Go p e below (End s Q C S) (T.setTop (mkF m pc Ls (.int z :: rest))) :=
  Go.fin X (fun h => by rw [hret] at h; cases h) hlk hk hn hQ fun fs hr => retN X hx hret ht hd hr
theorem Go.retI (X : Stand p l e R s m args below meth c T locs cells slots) (hx : p.tables.exec = Jvm.exec) {pc : Nat} {Ls : Array Slot} {z : Int32} {rest : List Value} (hret : meth.sig.returnType = some .int) (hlk : meth.locks = false)
    (hd : decode c.code pc = .ok (.ireturn, 1)) (hk : cells ≤ C) (hn : slots ≤ S) (hQ : Q (some (.int z)) T.heap locs) : Go p e below (End s Q C S) (T.setTop (mkF m pc Ls (.int z :: rest))) :=
  Go.fin X (fun h => by rw [hret] at h; cases h) hlk hk hn hQ fun fs hr => retOut X hx hret rfl (Or.inl ⟨rfl, Or.inl rfl, _, rfl⟩) hd hr
theorem Go.retR (X : Stand p l e R s m args below meth c T locs cells slots) (hx : p.tables.exec = Jvm.exec) {pc : Nat} {Ls : Array Slot} {w : Value} {t : FieldType} {rest : List Value} (hret : meth.sig.returnType = some t) (ht : t.isReference = true) (hw : w.isRef = true) (hlk : meth.locks = false)
    (hd : decode c.code pc = .ok (.areturn, 1)) (hk : cells ≤ C) (hn : slots ≤ S) (hQ : Q (some w) T.heap locs) : Go p e below (End s Q C S) (T.setTop (mkF m pc Ls (w :: rest))) :=
  Go.fin X (fun h => by rw [hret] at h; cases h) hlk hk hn hQ fun fs hr => retOut X hx hret (by cases t <;> cases w <;> first | rfl | (simp [FieldType.isReference] at ht) | (simp [Value.isRef] at hw)) (Or.inr (Or.inr (Or.inr (Or.inr ⟨rfl, ht, hw⟩)))) hd hr
theorem Go.retV (X : Stand p l e R s m args below meth c T locs cells slots) (hx : p.tables.exec = Jvm.exec) {pc : Nat} {Ls : Array Slot} (hret : meth.sig.returnType = none) (hlk : meth.locks = false)
    (hd : decode c.code pc = .ok (.return_, 1)) (hk : cells ≤ C) (hn : slots ≤ S) (hQ : Q none T.heap locs) : Go p e below (End s Q C S) (T.setTop (mkF m pc Ls [])) :=
  Go.fin X (fun _ => rfl) hlk hk hn hQ fun fs hr => X.returnOut hx hret hd hr
theorem own_iinc {tb : Tables} [Ours tb] {e : Env} {below : List Frame} {T target : State} {m : MethodId} {c : Code} {g : JFrame} (h : At T m c below) (hx : tb.exec = Jvm.exec) (hg : g.method = m) {k : Nat} {cst : Int} {x z : Int32} {l' : Array Slot} (hd : decode c.code g.pc = .ok (.iinc k cst, 3)) (hl : g.locals[k]? = some (.val (.int x))) (hz : Int32.ofInt cst = z) (hl' : storeLocals g.locals k (.int (x + z)) = some l')
    (hr : Steps tb e below (T.setTop { g with pc := g.pc + 3, locals := l' }) target) : Steps tb e below (T.setTop g) target := XS.iinc h hx hg hd hl (by rw [hz]; exact hl') hr
theorem own_eqi {t : Term} {n : Int32} {args : Array Value} {s : State} (h : (Cond.eq t (.int n)).before args s = true) : t.eval args s none [] s = some (.int n) := Cond.eq_int h (Term.int_eval n)
theorem own_n1 : nar .boolean (1 : Int32) = 1 := rfl
theorem own_n0 : nar .boolean (0 : Int32) = 0 := rfl
theorem own_wid (X : Stand p l e R s m args below meth c T locs cells slots) (hk : cells ≤ C) (hn : slots ≤ S) : Stand p l e R s m args below meth c T locs C S :=
  ⟨X.admits, X.cas, X.clock, X.frames, X.room, X.hears, X.method, X.code, X.here, X.tail, X.warmed, X.limits, X.bytes, X.same.mono hk hn⟩
end Ends
def OPN : List Int32 := [60, 109, 101, 116, 104, 111, 100, 82, 101, 115, 112, 111, 110, 115, 101, 62]
def PRM : List Int32 := [60, 112, 97, 114, 97, 109, 115, 62]
def CLO : List Int32 := [60, 47, 109, 101, 116, 104, 111, 100, 82, 101, 115, 112, 111, 110, 115, 101, 62]
def Glob (Z : State) (wOPEN : Addr) (kOPEN : ClassId) (wCLOSE : Addr) (kCLOSE : ClassId) (wPARAMS : Addr) (kPARAMS : ClassId) : Prop := Sta Z Z.heap "com/example/wirecall/wirecall/bench/Answers" "OPEN" "[B" (.ref wOPEN) ∧ Arv Z Z.heap wOPEN kOPEN .byte (16 : Int32) (OPN.map Value.int) (.int (0 : Int32)) ∧ Sta Z Z.heap "com/example/wirecall/wirecall/bench/Answers" "CLOSE" "[B" (.ref wCLOSE) ∧ Arv Z Z.heap wCLOSE kCLOSE .byte (17 : Int32) (CLO.map Value.int) (.int (0 : Int32)) ∧ Sta Z Z.heap "com/example/wirecall/wirecall/bench/Answers" "PARAMS" "[B" (.ref wPARAMS) ∧ Arv Z Z.heap wPARAMS kPARAMS .byte (8 : Int32) (PRM.map Value.int) (.int (0 : Int32))
theorem own_get (ws : List Int32) (n : Nat) : (ws.map Value.int).getD n (.int (0 : Int32)) = .int (ws.getD n 0) := by
  simp only [List.getD_eq_getElem?_getD, List.getElem?_map]
  cases ws[n]? <;> rfl
theorem own_mapset {Z : State} {h : Heap} {a : Addr} {k : ClassId} {ty : FieldType} {n : Int32} {bs : List Int32} {i : Nat} {v : Int32} {d : Value} (q : Arv Z h a k ty n ((bs.map Value.int).set i (.int v)) d) : Arv Z h a k ty n ((bs.set i v).map Value.int) d := by
  rw [List.map_set]; exact q
theorem own_arvB {Z : State} {h h' : Heap} {a : Addr} {k : ClassId} {z j x y : Int32} {bs : List Int32} {dv : Value} {c : Cell} (A : Arr Z h a c .byte) (q1 : c.cls = k) (S : c.slots.size = z.toNatClampNeg) (q3 : ¬ z < 0) (H : Has c (bs.map Value.int) dv) (G : ∀ i, i < c.slots.size → fits .byte ((bs.map Value.int).getD i dv) = true) (W : Wr h h' a j.toNatClampNeg (.int (nar .byte x))) (hx : nar .byte x = y) (i : Nat) (hj : j.toNatClampNeg = i) (hi : i < (bs.map Value.int).length) : Arv Z h' a k .byte z ((bs.set i y).map Value.int) dv := by
  subst hx
  exact own_mapset (Arv.set A q1 S q3 H G (fits_nar_byte x) W i hj hi)
theorem own_ix {j n : Int32} {i m : Nat} (hj : j.toInt = ((i : Nat) : Int)) (hn : n.toInt = ((m : Nat) : Int)) (h : i < m) : ¬ j < 0 ∧ j < n ∧ j.toNatClampNeg = i := by
  have k0 : (0 : Int32).toInt = 0 := rfl
  have h0 : ¬ j < 0 := fun q => by rw [Int32.lt_iff_toInt_lt] at q; omega
  refine ⟨h0, by rw [Int32.lt_iff_toInt_lt]; omega, ?_⟩
  have q := nat_of h0
  omega
theorem own_add (a b : Int32) (h : -1000000 ≤ a.toInt ∧ a.toInt ≤ 1000000) (g : -1000000 ≤ b.toInt ∧ b.toInt ≤ 1000000) : (a + b).toInt = a.toInt + b.toInt := by
  have h1 := c_iadd a b
  have h2 := rng32 (a + b)
  omega
def Imp (P Q : Prop) : Prop := P → Q
def Tn (x : Int32) (n : Nat) : Prop := x.toInt = ((n : Nat) : Int)
theorem own_tn {x : Int32} {b : Nat} (h : 0 ≤ x.toInt ∧ x.toInt ≤ ((b : Nat) : Int)) : ∃ k : Nat, Tn x k ∧ k ≤ b := ⟨x.toInt.toNat, by show x.toInt = _; omega, by omega⟩
theorem own_tadd {a b : Int32} {m n : Nat} (ha : Tn a m) (hb : Tn b n) (hm : m ≤ 1000) (hn : n ≤ 1000) : Tn (a + b) (m + n) := by
  have h1 : a.toInt = ((m : Nat) : Int) := ha
  have h2 : b.toInt = ((n : Nat) : Int) := hb
  show (a + b).toInt = _
  rw [own_add a b (by omega) (by omega)]; omega
theorem own_tlt {a b : Int32} {m n : Nat} (ha : Tn a m) (hb : Tn b n) : a < b ↔ m < n := by
  have h1 : a.toInt = ((m : Nat) : Int) := ha
  have h2 : b.toInt = ((n : Nat) : Int) := hb
  rw [Int32.lt_iff_toInt_lt]; omega
theorem own_pj {p k : Int32} {a kN n m : Nat} (h : p.toInt = ((a : Nat) : Int)) (hk : k.toInt = ((kN : Nat) : Int)) (hb : a + n ≤ m) (hm : m ≤ 100) (hl : kN ≤ n) : (p + k).toInt = ((a + kN : Nat) : Int) := by
  rw [own_add p k (by omega) (by omega)]; omega
theorem own_pi {a n k m : Nat} (hb : a + n ≤ m) (hk : k < n) : a + k < m := by omega
theorem own_sub (a b : Int32) (h : -1000000 ≤ a.toInt ∧ a.toInt ≤ 1000000) (g : -1000000 ≤ b.toInt ∧ b.toInt ≤ 1000000) : (a - b).toInt = a.toInt - b.toInt := by
  have h1 := c_isub a b
  have h2 := rng32 (a - b)
  omega
theorem own_tsub {a c : Int32} {m : Nat} (ha : Tn a m) (hc : 0 ≤ c.toInt ∧ c.toInt ≤ ((m : Nat) : Int)) (hm : m ≤ 1000) : ∃ k : Nat, Tn (a - c) k ∧ k ≤ m := by
  have h1 : a.toInt = ((m : Nat) : Int) := ha
  have h2 := own_sub a c (by omega) (by omega)
  exact ⟨(a - c).toInt.toNat, by show (a - c).toInt = _; omega, by omega⟩
def Mt (f : Nat → Int32) (i : Nat) (W : List Int32) : Prop := ∀ k, k < W.length → f (i + k) = W.getD k 0
def isSp (x : Int32) : Prop := x = 32 ∨ x = 9 ∨ x = 13 ∨ x = 10
theorem own_n60 : ¬ isSp 60 := by unfold isSp; decide
theorem own_n62 : ¬ isSp 62 := by unfold isSp; decide
theorem own_n112 : ¬ isSp 112 := by unfold isSp; decide
theorem mm2 {f g : Nat → Int32} {mu : Nat} (hf : ∀ i, i ≠ mu → f i = g i) {i j : Nat} (hij : i ≠ j) (h1 : ¬ f i = g i) (h2 : ¬ f j = g j) : False := by
  by_cases q : i = mu
  · exact h2 (hf j (fun e => hij (q.trans e.symm)))
  · exact h1 (hf i q)
theorem own_mO0 {f g : Nat → Int32} {mu o : Nat} (hf : ∀ i, i ≠ mu → f i = g i) (hO : Mt g o OPN) (hP : Mt g (o + 16 + 0) PRM) (hC : Mt g (o + 16 + 0 + 8) CLO) (ho : o ≤ 3) {i : Nat} (h : Mt f i OPN) (hi : i + 16 ≤ o + 16 + 0 + 8 + 17 + 2) : i = o ∨ (i = o + 25 ∧ mu = o + 25) := by
  rcases Nat.lt_or_ge i o with hlt | hge
  · exfalso
    obtain ⟨e, he, rfl⟩ : ∃ e, (e = 1 ∨ e = 2 ∨ e = 3) ∧ o = i + e := ⟨o - i, by omega, by omega⟩
    rcases he with rfl | rfl | rfl
    · exact mm2 hf (i := i + 1) (j := i + 2) (by omega) (fun q => absurd (((h 1 (by decide)).symm.trans q).trans (hO 0 (by decide))) (by decide)) (fun q => absurd (((h 2 (by decide)).symm.trans q).trans (hO 1 (by decide))) (by decide))
    · exact mm2 hf (i := i + 2) (j := i + 3) (by omega) (fun q => absurd (((h 2 (by decide)).symm.trans q).trans (hO 0 (by decide))) (by decide)) (fun q => absurd (((h 3 (by decide)).symm.trans q).trans (hO 1 (by decide))) (by decide))
    · exact mm2 hf (i := i + 3) (j := i + 4) (by omega) (fun q => absurd (((h 3 (by decide)).symm.trans q).trans (hO 0 (by decide))) (by decide)) (fun q => absurd (((h 4 (by decide)).symm.trans q).trans (hO 1 (by decide))) (by decide))
  · obtain ⟨d, rfl⟩ : ∃ d, i = o + d := ⟨i - o, by omega⟩
    match d, h, hi with
    | 0, h, hi => exact Or.inl rfl
    | 1, h, hi => exact (mm2 hf (i := o + 1) (j := o + 2) (by omega) (fun q => absurd (((h 0 (by decide)).symm.trans q).trans (hO 1 (by decide))) (by decide)) (fun q => absurd (((h 1 (by decide)).symm.trans q).trans (hO 2 (by decide))) (by decide))).elim
    | 2, h, hi => exact (mm2 hf (i := o + 2) (j := o + 3) (by omega) (fun q => absurd (((h 0 (by decide)).symm.trans q).trans (hO 2 (by decide))) (by decide)) (fun q => absurd (((h 1 (by decide)).symm.trans q).trans (hO 3 (by decide))) (by decide))).elim
    | 3, h, hi => exact (mm2 hf (i := o + 3) (j := o + 4) (by omega) (fun q => absurd (((h 0 (by decide)).symm.trans q).trans (hO 3 (by decide))) (by decide)) (fun q => absurd (((h 1 (by decide)).symm.trans q).trans (hO 4 (by decide))) (by decide))).elim
    | 4, h, hi => exact (mm2 hf (i := o + 4) (j := o + 5) (by omega) (fun q => absurd (((h 0 (by decide)).symm.trans q).trans (hO 4 (by decide))) (by decide)) (fun q => absurd (((h 1 (by decide)).symm.trans q).trans (hO 5 (by decide))) (by decide))).elim
    | 5, h, hi => exact (mm2 hf (i := o + 5) (j := o + 6) (by omega) (fun q => absurd (((h 0 (by decide)).symm.trans q).trans (hO 5 (by decide))) (by decide)) (fun q => absurd (((h 1 (by decide)).symm.trans q).trans (hO 6 (by decide))) (by decide))).elim
    | 6, h, hi => exact (mm2 hf (i := o + 6) (j := o + 7) (by omega) (fun q => absurd (((h 0 (by decide)).symm.trans q).trans (hO 6 (by decide))) (by decide)) (fun q => absurd (((h 1 (by decide)).symm.trans q).trans (hO 7 (by decide))) (by decide))).elim
    | 7, h, hi => exact (mm2 hf (i := o + 7) (j := o + 8) (by omega) (fun q => absurd (((h 0 (by decide)).symm.trans q).trans (hO 7 (by decide))) (by decide)) (fun q => absurd (((h 1 (by decide)).symm.trans q).trans (hO 8 (by decide))) (by decide))).elim
    | 8, h, hi => exact (mm2 hf (i := o + 8) (j := o + 9) (by omega) (fun q => absurd (((h 0 (by decide)).symm.trans q).trans (hO 8 (by decide))) (by decide)) (fun q => absurd (((h 1 (by decide)).symm.trans q).trans (hO 9 (by decide))) (by decide))).elim
    | 9, h, hi => exact (mm2 hf (i := o + 9) (j := o + 10) (by omega) (fun q => absurd (((h 0 (by decide)).symm.trans q).trans (hO 9 (by decide))) (by decide)) (fun q => absurd (((h 1 (by decide)).symm.trans q).trans (hO 10 (by decide))) (by decide))).elim
    | 10, h, hi => exact (mm2 hf (i := o + 10) (j := o + 11) (by omega) (fun q => absurd (((h 0 (by decide)).symm.trans q).trans (hO 10 (by decide))) (by decide)) (fun q => absurd (((h 1 (by decide)).symm.trans q).trans (hO 11 (by decide))) (by decide))).elim
    | 11, h, hi => exact (mm2 hf (i := o + 11) (j := o + 12) (by omega) (fun q => absurd (((h 0 (by decide)).symm.trans q).trans (hO 11 (by decide))) (by decide)) (fun q => absurd (((h 1 (by decide)).symm.trans q).trans (hO 12 (by decide))) (by decide))).elim
    | 12, h, hi => exact (mm2 hf (i := o + 12) (j := o + 13) (by omega) (fun q => absurd (((h 0 (by decide)).symm.trans q).trans (hO 12 (by decide))) (by decide)) (fun q => absurd (((h 1 (by decide)).symm.trans q).trans (hO 13 (by decide))) (by decide))).elim
    | 13, h, hi => exact (mm2 hf (i := o + 13) (j := o + 14) (by omega) (fun q => absurd (((h 0 (by decide)).symm.trans q).trans (hO 13 (by decide))) (by decide)) (fun q => absurd (((h 1 (by decide)).symm.trans q).trans (hO 14 (by decide))) (by decide))).elim
    | 14, h, hi => exact (mm2 hf (i := o + 14) (j := o + 15) (by omega) (fun q => absurd (((h 0 (by decide)).symm.trans q).trans (hO 14 (by decide))) (by decide)) (fun q => absurd (((h 1 (by decide)).symm.trans q).trans (hO 15 (by decide))) (by decide))).elim
    | 15, h, hi => exact (mm2 hf (i := o + 15) (j := o + 16) (by omega) (fun q => absurd (((h 0 (by decide)).symm.trans q).trans (hO 15 (by decide))) (by decide)) (fun q => absurd (((h 1 (by decide)).symm.trans q).trans (hP 0 (by decide))) (by decide))).elim
    | 16, h, hi => exact (mm2 hf (i := o + 17) (j := o + 18) (by omega) (fun q => absurd (((h 1 (by decide)).symm.trans q).trans (hP 1 (by decide))) (by decide)) (fun q => absurd (((h 2 (by decide)).symm.trans q).trans (hP 2 (by decide))) (by decide))).elim
    | 17, h, hi => exact (mm2 hf (i := o + 17) (j := o + 18) (by omega) (fun q => absurd (((h 0 (by decide)).symm.trans q).trans (hP 1 (by decide))) (by decide)) (fun q => absurd (((h 1 (by decide)).symm.trans q).trans (hP 2 (by decide))) (by decide))).elim
    | 18, h, hi => exact (mm2 hf (i := o + 18) (j := o + 19) (by omega) (fun q => absurd (((h 0 (by decide)).symm.trans q).trans (hP 2 (by decide))) (by decide)) (fun q => absurd (((h 1 (by decide)).symm.trans q).trans (hP 3 (by decide))) (by decide))).elim
    | 19, h, hi => exact (mm2 hf (i := o + 19) (j := o + 20) (by omega) (fun q => absurd (((h 0 (by decide)).symm.trans q).trans (hP 3 (by decide))) (by decide)) (fun q => absurd (((h 1 (by decide)).symm.trans q).trans (hP 4 (by decide))) (by decide))).elim
    | 20, h, hi => exact (mm2 hf (i := o + 20) (j := o + 22) (by omega) (fun q => absurd (((h 0 (by decide)).symm.trans q).trans (hP 4 (by decide))) (by decide)) (fun q => absurd (((h 2 (by decide)).symm.trans q).trans (hP 6 (by decide))) (by decide))).elim
    | 21, h, hi => exact (mm2 hf (i := o + 21) (j := o + 22) (by omega) (fun q => absurd (((h 0 (by decide)).symm.trans q).trans (hP 5 (by decide))) (by decide)) (fun q => absurd (((h 1 (by decide)).symm.trans q).trans (hP 6 (by decide))) (by decide))).elim
    | 22, h, hi => exact (mm2 hf (i := o + 22) (j := o + 23) (by omega) (fun q => absurd (((h 0 (by decide)).symm.trans q).trans (hP 6 (by decide))) (by decide)) (fun q => absurd (((h 1 (by decide)).symm.trans q).trans (hP 7 (by decide))) (by decide))).elim
    | 23, h, hi => exact (mm2 hf (i := o + 23) (j := o + 24) (by omega) (fun q => absurd (((h 0 (by decide)).symm.trans q).trans (hP 7 (by decide))) (by decide)) (fun q => absurd (((h 1 (by decide)).symm.trans q).trans (hC 0 (by decide))) (by decide))).elim
    | 24, h, hi => exact (mm2 hf (i := o + 25) (j := o + 26) (by omega) (fun q => absurd (((h 1 (by decide)).symm.trans q).trans (hC 1 (by decide))) (by decide)) (fun q => absurd (((h 2 (by decide)).symm.trans q).trans (hC 2 (by decide))) (by decide))).elim
    | 25, h, hi => exact Or.inr ⟨rfl, Classical.byContradiction fun q => absurd (((h 0 (by decide)).symm.trans (hf _ (fun z => q z.symm))).trans (hC 1 (by decide))) (by decide)⟩
    | 26, h, hi => exact (mm2 hf (i := o + 26) (j := o + 27) (by omega) (fun q => absurd (((h 0 (by decide)).symm.trans q).trans (hC 2 (by decide))) (by decide)) (fun q => absurd (((h 1 (by decide)).symm.trans q).trans (hC 3 (by decide))) (by decide))).elim
    | 27, h, hi => exact (mm2 hf (i := o + 27) (j := o + 28) (by omega) (fun q => absurd (((h 0 (by decide)).symm.trans q).trans (hC 3 (by decide))) (by decide)) (fun q => absurd (((h 1 (by decide)).symm.trans q).trans (hC 4 (by decide))) (by decide))).elim
    | d + 28, h, hi => exact absurd hi (by omega)
theorem own_mO1 {f g : Nat → Int32} {mu o : Nat} (hf : ∀ i, i ≠ mu → f i = g i) (hO : Mt g o OPN) (hP : Mt g (o + 16 + 1) PRM) (hC : Mt g (o + 16 + 1 + 8) CLO) (ho : o ≤ 3) {i : Nat} (h : Mt f i OPN) (hi : i + 16 ≤ o + 16 + 1 + 8 + 17 + 2) : i = o ∨ (i = o + 26 ∧ mu = o + 26) := by
  rcases Nat.lt_or_ge i o with hlt | hge
  · exfalso
    obtain ⟨e, he, rfl⟩ : ∃ e, (e = 1 ∨ e = 2 ∨ e = 3) ∧ o = i + e := ⟨o - i, by omega, by omega⟩
    rcases he with rfl | rfl | rfl
    · exact mm2 hf (i := i + 1) (j := i + 2) (by omega) (fun q => absurd (((h 1 (by decide)).symm.trans q).trans (hO 0 (by decide))) (by decide)) (fun q => absurd (((h 2 (by decide)).symm.trans q).trans (hO 1 (by decide))) (by decide))
    · exact mm2 hf (i := i + 2) (j := i + 3) (by omega) (fun q => absurd (((h 2 (by decide)).symm.trans q).trans (hO 0 (by decide))) (by decide)) (fun q => absurd (((h 3 (by decide)).symm.trans q).trans (hO 1 (by decide))) (by decide))
    · exact mm2 hf (i := i + 3) (j := i + 4) (by omega) (fun q => absurd (((h 3 (by decide)).symm.trans q).trans (hO 0 (by decide))) (by decide)) (fun q => absurd (((h 4 (by decide)).symm.trans q).trans (hO 1 (by decide))) (by decide))
  · obtain ⟨d, rfl⟩ : ∃ d, i = o + d := ⟨i - o, by omega⟩
    match d, h, hi with
    | 0, h, hi => exact Or.inl rfl
    | 1, h, hi => exact (mm2 hf (i := o + 1) (j := o + 2) (by omega) (fun q => absurd (((h 0 (by decide)).symm.trans q).trans (hO 1 (by decide))) (by decide)) (fun q => absurd (((h 1 (by decide)).symm.trans q).trans (hO 2 (by decide))) (by decide))).elim
    | 2, h, hi => exact (mm2 hf (i := o + 2) (j := o + 3) (by omega) (fun q => absurd (((h 0 (by decide)).symm.trans q).trans (hO 2 (by decide))) (by decide)) (fun q => absurd (((h 1 (by decide)).symm.trans q).trans (hO 3 (by decide))) (by decide))).elim
    | 3, h, hi => exact (mm2 hf (i := o + 3) (j := o + 4) (by omega) (fun q => absurd (((h 0 (by decide)).symm.trans q).trans (hO 3 (by decide))) (by decide)) (fun q => absurd (((h 1 (by decide)).symm.trans q).trans (hO 4 (by decide))) (by decide))).elim
    | 4, h, hi => exact (mm2 hf (i := o + 4) (j := o + 5) (by omega) (fun q => absurd (((h 0 (by decide)).symm.trans q).trans (hO 4 (by decide))) (by decide)) (fun q => absurd (((h 1 (by decide)).symm.trans q).trans (hO 5 (by decide))) (by decide))).elim
    | 5, h, hi => exact (mm2 hf (i := o + 5) (j := o + 6) (by omega) (fun q => absurd (((h 0 (by decide)).symm.trans q).trans (hO 5 (by decide))) (by decide)) (fun q => absurd (((h 1 (by decide)).symm.trans q).trans (hO 6 (by decide))) (by decide))).elim
    | 6, h, hi => exact (mm2 hf (i := o + 6) (j := o + 7) (by omega) (fun q => absurd (((h 0 (by decide)).symm.trans q).trans (hO 6 (by decide))) (by decide)) (fun q => absurd (((h 1 (by decide)).symm.trans q).trans (hO 7 (by decide))) (by decide))).elim
    | 7, h, hi => exact (mm2 hf (i := o + 7) (j := o + 8) (by omega) (fun q => absurd (((h 0 (by decide)).symm.trans q).trans (hO 7 (by decide))) (by decide)) (fun q => absurd (((h 1 (by decide)).symm.trans q).trans (hO 8 (by decide))) (by decide))).elim
    | 8, h, hi => exact (mm2 hf (i := o + 8) (j := o + 9) (by omega) (fun q => absurd (((h 0 (by decide)).symm.trans q).trans (hO 8 (by decide))) (by decide)) (fun q => absurd (((h 1 (by decide)).symm.trans q).trans (hO 9 (by decide))) (by decide))).elim
    | 9, h, hi => exact (mm2 hf (i := o + 9) (j := o + 10) (by omega) (fun q => absurd (((h 0 (by decide)).symm.trans q).trans (hO 9 (by decide))) (by decide)) (fun q => absurd (((h 1 (by decide)).symm.trans q).trans (hO 10 (by decide))) (by decide))).elim
    | 10, h, hi => exact (mm2 hf (i := o + 10) (j := o + 11) (by omega) (fun q => absurd (((h 0 (by decide)).symm.trans q).trans (hO 10 (by decide))) (by decide)) (fun q => absurd (((h 1 (by decide)).symm.trans q).trans (hO 11 (by decide))) (by decide))).elim
    | 11, h, hi => exact (mm2 hf (i := o + 11) (j := o + 12) (by omega) (fun q => absurd (((h 0 (by decide)).symm.trans q).trans (hO 11 (by decide))) (by decide)) (fun q => absurd (((h 1 (by decide)).symm.trans q).trans (hO 12 (by decide))) (by decide))).elim
    | 12, h, hi => exact (mm2 hf (i := o + 12) (j := o + 13) (by omega) (fun q => absurd (((h 0 (by decide)).symm.trans q).trans (hO 12 (by decide))) (by decide)) (fun q => absurd (((h 1 (by decide)).symm.trans q).trans (hO 13 (by decide))) (by decide))).elim
    | 13, h, hi => exact (mm2 hf (i := o + 13) (j := o + 14) (by omega) (fun q => absurd (((h 0 (by decide)).symm.trans q).trans (hO 13 (by decide))) (by decide)) (fun q => absurd (((h 1 (by decide)).symm.trans q).trans (hO 14 (by decide))) (by decide))).elim
    | 14, h, hi => exact (mm2 hf (i := o + 14) (j := o + 15) (by omega) (fun q => absurd (((h 0 (by decide)).symm.trans q).trans (hO 14 (by decide))) (by decide)) (fun q => absurd (((h 1 (by decide)).symm.trans q).trans (hO 15 (by decide))) (by decide))).elim
    | 15, h, hi => exact (mm2 hf (i := o + 15) (j := o + 17) (by omega) (fun q => absurd (((h 0 (by decide)).symm.trans q).trans (hO 15 (by decide))) (by decide)) (fun q => absurd (((h 2 (by decide)).symm.trans q).trans (hP 0 (by decide))) (by decide))).elim
    | 16, h, hi => exact (mm2 hf (i := o + 17) (j := o + 18) (by omega) (fun q => absurd (((h 1 (by decide)).symm.trans q).trans (hP 0 (by decide))) (by decide)) (fun q => absurd (((h 2 (by decide)).symm.trans q).trans (hP 1 (by decide))) (by decide))).elim
    | 17, h, hi => exact (mm2 hf (i := o + 18) (j := o + 19) (by omega) (fun q => absurd (((h 1 (by decide)).symm.trans q).trans (hP 1 (by decide))) (by decide)) (fun q => absurd (((h 2 (by decide)).symm.trans q).trans (hP 2 (by decide))) (by decide))).elim
    | 18, h, hi => exact (mm2 hf (i := o + 18) (j := o + 19) (by omega) (fun q => absurd (((h 0 (by decide)).symm.trans q).trans (hP 1 (by decide))) (by decide)) (fun q => absurd (((h 1 (by decide)).symm.trans q).trans (hP 2 (by decide))) (by decide))).elim
    | 19, h, hi => exact (mm2 hf (i := o + 19) (j := o + 20) (by omega) (fun q => absurd (((h 0 (by decide)).symm.trans q).trans (hP 2 (by decide))) (by decide)) (fun q => absurd (((h 1 (by decide)).symm.trans q).trans (hP 3 (by decide))) (by decide))).elim
    | 20, h, hi => exact (mm2 hf (i := o + 20) (j := o + 21) (by omega) (fun q => absurd (((h 0 (by decide)).symm.trans q).trans (hP 3 (by decide))) (by decide)) (fun q => absurd (((h 1 (by decide)).symm.trans q).trans (hP 4 (by decide))) (by decide))).elim
    | 21, h, hi => exact (mm2 hf (i := o + 21) (j := o + 23) (by omega) (fun q => absurd (((h 0 (by decide)).symm.trans q).trans (hP 4 (by decide))) (by decide)) (fun q => absurd (((h 2 (by decide)).symm.trans q).trans (hP 6 (by decide))) (by decide))).elim
    | 22, h, hi => exact (mm2 hf (i := o + 22) (j := o + 23) (by omega) (fun q => absurd (((h 0 (by decide)).symm.trans q).trans (hP 5 (by decide))) (by decide)) (fun q => absurd (((h 1 (by decide)).symm.trans q).trans (hP 6 (by decide))) (by decide))).elim
    | 23, h, hi => exact (mm2 hf (i := o + 23) (j := o + 24) (by omega) (fun q => absurd (((h 0 (by decide)).symm.trans q).trans (hP 6 (by decide))) (by decide)) (fun q => absurd (((h 1 (by decide)).symm.trans q).trans (hP 7 (by decide))) (by decide))).elim
    | 24, h, hi => exact (mm2 hf (i := o + 24) (j := o + 25) (by omega) (fun q => absurd (((h 0 (by decide)).symm.trans q).trans (hP 7 (by decide))) (by decide)) (fun q => absurd (((h 1 (by decide)).symm.trans q).trans (hC 0 (by decide))) (by decide))).elim
    | 25, h, hi => exact (mm2 hf (i := o + 26) (j := o + 27) (by omega) (fun q => absurd (((h 1 (by decide)).symm.trans q).trans (hC 1 (by decide))) (by decide)) (fun q => absurd (((h 2 (by decide)).symm.trans q).trans (hC 2 (by decide))) (by decide))).elim
    | 26, h, hi => exact Or.inr ⟨rfl, Classical.byContradiction fun q => absurd (((h 0 (by decide)).symm.trans (hf _ (fun z => q z.symm))).trans (hC 1 (by decide))) (by decide)⟩
    | 27, h, hi => exact (mm2 hf (i := o + 27) (j := o + 28) (by omega) (fun q => absurd (((h 0 (by decide)).symm.trans q).trans (hC 2 (by decide))) (by decide)) (fun q => absurd (((h 1 (by decide)).symm.trans q).trans (hC 3 (by decide))) (by decide))).elim
    | 28, h, hi => exact (mm2 hf (i := o + 28) (j := o + 29) (by omega) (fun q => absurd (((h 0 (by decide)).symm.trans q).trans (hC 3 (by decide))) (by decide)) (fun q => absurd (((h 1 (by decide)).symm.trans q).trans (hC 4 (by decide))) (by decide))).elim
    | d + 29, h, hi => exact absurd hi (by omega)
theorem own_mO2 {f g : Nat → Int32} {mu o : Nat} (hf : ∀ i, i ≠ mu → f i = g i) (hO : Mt g o OPN) (hP : Mt g (o + 16 + 2) PRM) (hC : Mt g (o + 16 + 2 + 8) CLO) (ho : o ≤ 3) {i : Nat} (h : Mt f i OPN) (hi : i + 16 ≤ o + 16 + 2 + 8 + 17 + 2) : i = o ∨ (i = o + 27 ∧ mu = o + 27) := by
  rcases Nat.lt_or_ge i o with hlt | hge
  · exfalso
    obtain ⟨e, he, rfl⟩ : ∃ e, (e = 1 ∨ e = 2 ∨ e = 3) ∧ o = i + e := ⟨o - i, by omega, by omega⟩
    rcases he with rfl | rfl | rfl
    · exact mm2 hf (i := i + 1) (j := i + 2) (by omega) (fun q => absurd (((h 1 (by decide)).symm.trans q).trans (hO 0 (by decide))) (by decide)) (fun q => absurd (((h 2 (by decide)).symm.trans q).trans (hO 1 (by decide))) (by decide))
    · exact mm2 hf (i := i + 2) (j := i + 3) (by omega) (fun q => absurd (((h 2 (by decide)).symm.trans q).trans (hO 0 (by decide))) (by decide)) (fun q => absurd (((h 3 (by decide)).symm.trans q).trans (hO 1 (by decide))) (by decide))
    · exact mm2 hf (i := i + 3) (j := i + 4) (by omega) (fun q => absurd (((h 3 (by decide)).symm.trans q).trans (hO 0 (by decide))) (by decide)) (fun q => absurd (((h 4 (by decide)).symm.trans q).trans (hO 1 (by decide))) (by decide))
  · obtain ⟨d, rfl⟩ : ∃ d, i = o + d := ⟨i - o, by omega⟩
    match d, h, hi with
    | 0, h, hi => exact Or.inl rfl
    | 1, h, hi => exact (mm2 hf (i := o + 1) (j := o + 2) (by omega) (fun q => absurd (((h 0 (by decide)).symm.trans q).trans (hO 1 (by decide))) (by decide)) (fun q => absurd (((h 1 (by decide)).symm.trans q).trans (hO 2 (by decide))) (by decide))).elim
    | 2, h, hi => exact (mm2 hf (i := o + 2) (j := o + 3) (by omega) (fun q => absurd (((h 0 (by decide)).symm.trans q).trans (hO 2 (by decide))) (by decide)) (fun q => absurd (((h 1 (by decide)).symm.trans q).trans (hO 3 (by decide))) (by decide))).elim
    | 3, h, hi => exact (mm2 hf (i := o + 3) (j := o + 4) (by omega) (fun q => absurd (((h 0 (by decide)).symm.trans q).trans (hO 3 (by decide))) (by decide)) (fun q => absurd (((h 1 (by decide)).symm.trans q).trans (hO 4 (by decide))) (by decide))).elim
    | 4, h, hi => exact (mm2 hf (i := o + 4) (j := o + 5) (by omega) (fun q => absurd (((h 0 (by decide)).symm.trans q).trans (hO 4 (by decide))) (by decide)) (fun q => absurd (((h 1 (by decide)).symm.trans q).trans (hO 5 (by decide))) (by decide))).elim
    | 5, h, hi => exact (mm2 hf (i := o + 5) (j := o + 6) (by omega) (fun q => absurd (((h 0 (by decide)).symm.trans q).trans (hO 5 (by decide))) (by decide)) (fun q => absurd (((h 1 (by decide)).symm.trans q).trans (hO 6 (by decide))) (by decide))).elim
    | 6, h, hi => exact (mm2 hf (i := o + 6) (j := o + 7) (by omega) (fun q => absurd (((h 0 (by decide)).symm.trans q).trans (hO 6 (by decide))) (by decide)) (fun q => absurd (((h 1 (by decide)).symm.trans q).trans (hO 7 (by decide))) (by decide))).elim
    | 7, h, hi => exact (mm2 hf (i := o + 7) (j := o + 8) (by omega) (fun q => absurd (((h 0 (by decide)).symm.trans q).trans (hO 7 (by decide))) (by decide)) (fun q => absurd (((h 1 (by decide)).symm.trans q).trans (hO 8 (by decide))) (by decide))).elim
    | 8, h, hi => exact (mm2 hf (i := o + 8) (j := o + 9) (by omega) (fun q => absurd (((h 0 (by decide)).symm.trans q).trans (hO 8 (by decide))) (by decide)) (fun q => absurd (((h 1 (by decide)).symm.trans q).trans (hO 9 (by decide))) (by decide))).elim
    | 9, h, hi => exact (mm2 hf (i := o + 9) (j := o + 10) (by omega) (fun q => absurd (((h 0 (by decide)).symm.trans q).trans (hO 9 (by decide))) (by decide)) (fun q => absurd (((h 1 (by decide)).symm.trans q).trans (hO 10 (by decide))) (by decide))).elim
    | 10, h, hi => exact (mm2 hf (i := o + 10) (j := o + 11) (by omega) (fun q => absurd (((h 0 (by decide)).symm.trans q).trans (hO 10 (by decide))) (by decide)) (fun q => absurd (((h 1 (by decide)).symm.trans q).trans (hO 11 (by decide))) (by decide))).elim
    | 11, h, hi => exact (mm2 hf (i := o + 11) (j := o + 12) (by omega) (fun q => absurd (((h 0 (by decide)).symm.trans q).trans (hO 11 (by decide))) (by decide)) (fun q => absurd (((h 1 (by decide)).symm.trans q).trans (hO 12 (by decide))) (by decide))).elim
    | 12, h, hi => exact (mm2 hf (i := o + 12) (j := o + 13) (by omega) (fun q => absurd (((h 0 (by decide)).symm.trans q).trans (hO 12 (by decide))) (by decide)) (fun q => absurd (((h 1 (by decide)).symm.trans q).trans (hO 13 (by decide))) (by decide))).elim
    | 13, h, hi => exact (mm2 hf (i := o + 13) (j := o + 14) (by omega) (fun q => absurd (((h 0 (by decide)).symm.trans q).trans (hO 13 (by decide))) (by decide)) (fun q => absurd (((h 1 (by decide)).symm.trans q).trans (hO 14 (by decide))) (by decide))).elim
    | 14, h, hi => exact (mm2 hf (i := o + 14) (j := o + 15) (by omega) (fun q => absurd (((h 0 (by decide)).symm.trans q).trans (hO 14 (by decide))) (by decide)) (fun q => absurd (((h 1 (by decide)).symm.trans q).trans (hO 15 (by decide))) (by decide))).elim
    | 15, h, hi => exact (mm2 hf (i := o + 15) (j := o + 18) (by omega) (fun q => absurd (((h 0 (by decide)).symm.trans q).trans (hO 15 (by decide))) (by decide)) (fun q => absurd (((h 3 (by decide)).symm.trans q).trans (hP 0 (by decide))) (by decide))).elim
    | 16, h, hi => exact (mm2 hf (i := o + 18) (j := o + 19) (by omega) (fun q => absurd (((h 2 (by decide)).symm.trans q).trans (hP 0 (by decide))) (by decide)) (fun q => absurd (((h 3 (by decide)).symm.trans q).trans (hP 1 (by decide))) (by decide))).elim
    | 17, h, hi => exact (mm2 hf (i := o + 18) (j := o + 19) (by omega) (fun q => absurd (((h 1 (by decide)).symm.trans q).trans (hP 0 (by decide))) (by decide)) (fun q => absurd (((h 2 (by decide)).symm.trans q).trans (hP 1 (by decide))) (by decide))).elim
    | 18, h, hi => exact (mm2 hf (i := o + 19) (j := o + 20) (by omega) (fun q => absurd (((h 1 (by decide)).symm.trans q).trans (hP 1 (by decide))) (by decide)) (fun q => absurd (((h 2 (by decide)).symm.trans q).trans (hP 2 (by decide))) (by decide))).elim
    | 19, h, hi => exact (mm2 hf (i := o + 19) (j := o + 20) (by omega) (fun q => absurd (((h 0 (by decide)).symm.trans q).trans (hP 1 (by decide))) (by decide)) (fun q => absurd (((h 1 (by decide)).symm.trans q).trans (hP 2 (by decide))) (by decide))).elim
    | 20, h, hi => exact (mm2 hf (i := o + 20) (j := o + 21) (by omega) (fun q => absurd (((h 0 (by decide)).symm.trans q).trans (hP 2 (by decide))) (by decide)) (fun q => absurd (((h 1 (by decide)).symm.trans q).trans (hP 3 (by decide))) (by decide))).elim
    | 21, h, hi => exact (mm2 hf (i := o + 21) (j := o + 22) (by omega) (fun q => absurd (((h 0 (by decide)).symm.trans q).trans (hP 3 (by decide))) (by decide)) (fun q => absurd (((h 1 (by decide)).symm.trans q).trans (hP 4 (by decide))) (by decide))).elim
    | 22, h, hi => exact (mm2 hf (i := o + 22) (j := o + 24) (by omega) (fun q => absurd (((h 0 (by decide)).symm.trans q).trans (hP 4 (by decide))) (by decide)) (fun q => absurd (((h 2 (by decide)).symm.trans q).trans (hP 6 (by decide))) (by decide))).elim
    | 23, h, hi => exact (mm2 hf (i := o + 23) (j := o + 24) (by omega) (fun q => absurd (((h 0 (by decide)).symm.trans q).trans (hP 5 (by decide))) (by decide)) (fun q => absurd (((h 1 (by decide)).symm.trans q).trans (hP 6 (by decide))) (by decide))).elim
    | 24, h, hi => exact (mm2 hf (i := o + 24) (j := o + 25) (by omega) (fun q => absurd (((h 0 (by decide)).symm.trans q).trans (hP 6 (by decide))) (by decide)) (fun q => absurd (((h 1 (by decide)).symm.trans q).trans (hP 7 (by decide))) (by decide))).elim
    | 25, h, hi => exact (mm2 hf (i := o + 25) (j := o + 26) (by omega) (fun q => absurd (((h 0 (by decide)).symm.trans q).trans (hP 7 (by decide))) (by decide)) (fun q => absurd (((h 1 (by decide)).symm.trans q).trans (hC 0 (by decide))) (by decide))).elim
    | 26, h, hi => exact (mm2 hf (i := o + 27) (j := o + 28) (by omega) (fun q => absurd (((h 1 (by decide)).symm.trans q).trans (hC 1 (by decide))) (by decide)) (fun q => absurd (((h 2 (by decide)).symm.trans q).trans (hC 2 (by decide))) (by decide))).elim
    | 27, h, hi => exact Or.inr ⟨rfl, Classical.byContradiction fun q => absurd (((h 0 (by decide)).symm.trans (hf _ (fun z => q z.symm))).trans (hC 1 (by decide))) (by decide)⟩
    | 28, h, hi => exact (mm2 hf (i := o + 28) (j := o + 29) (by omega) (fun q => absurd (((h 0 (by decide)).symm.trans q).trans (hC 2 (by decide))) (by decide)) (fun q => absurd (((h 1 (by decide)).symm.trans q).trans (hC 3 (by decide))) (by decide))).elim
    | 29, h, hi => exact (mm2 hf (i := o + 29) (j := o + 30) (by omega) (fun q => absurd (((h 0 (by decide)).symm.trans q).trans (hC 3 (by decide))) (by decide)) (fun q => absurd (((h 1 (by decide)).symm.trans q).trans (hC 4 (by decide))) (by decide))).elim
    | d + 30, h, hi => exact absurd hi (by omega)
theorem own_mC0 {f g : Nat → Int32} {mu o : Nat} (hf : ∀ i, i ≠ mu → f i = g i) (hO : Mt g o OPN) (hP : Mt g (o + 16 + 0) PRM) (hC : Mt g (o + 16 + 0 + 8) CLO) (ho : o ≤ 3) (hO' : Mt f o OPN) {i : Nat} (h : Mt f i CLO) (hi : i + 17 ≤ o + 16 + 0 + 8 + 17 + 2) : i = o + 24 := by
  rcases Nat.lt_or_ge i o with hlt | hge
  · exfalso
    obtain ⟨e, he, rfl⟩ : ∃ e, (e = 1 ∨ e = 2 ∨ e = 3) ∧ o = i + e := ⟨o - i, by omega, by omega⟩
    rcases he with rfl | rfl | rfl
    · exact absurd ((h 1 (by decide)).symm.trans (hO' 0 (by decide))) (by decide)
    · exact absurd ((h 2 (by decide)).symm.trans (hO' 0 (by decide))) (by decide)
    · exact absurd ((h 3 (by decide)).symm.trans (hO' 0 (by decide))) (by decide)
  · obtain ⟨d, rfl⟩ : ∃ d, i = o + d := ⟨i - o, by omega⟩
    match d, h, hi with
    | 0, h, hi => exact absurd ((h 1 (by decide)).symm.trans (hO' 1 (by decide))) (by decide)
    | 1, h, hi => exact absurd ((h 0 (by decide)).symm.trans (hO' 1 (by decide))) (by decide)
    | 2, h, hi => exact absurd ((h 0 (by decide)).symm.trans (hO' 2 (by decide))) (by decide)
    | 3, h, hi => exact absurd ((h 0 (by decide)).symm.trans (hO' 3 (by decide))) (by decide)
    | 4, h, hi => exact absurd ((h 0 (by decide)).symm.trans (hO' 4 (by decide))) (by decide)
    | 5, h, hi => exact absurd ((h 0 (by decide)).symm.trans (hO' 5 (by decide))) (by decide)
    | 6, h, hi => exact absurd ((h 0 (by decide)).symm.trans (hO' 6 (by decide))) (by decide)
    | 7, h, hi => exact absurd ((h 0 (by decide)).symm.trans (hO' 7 (by decide))) (by decide)
    | 8, h, hi => exact absurd ((h 0 (by decide)).symm.trans (hO' 8 (by decide))) (by decide)
    | 9, h, hi => exact absurd ((h 0 (by decide)).symm.trans (hO' 9 (by decide))) (by decide)
    | 10, h, hi => exact absurd ((h 0 (by decide)).symm.trans (hO' 10 (by decide))) (by decide)
    | 11, h, hi => exact absurd ((h 0 (by decide)).symm.trans (hO' 11 (by decide))) (by decide)
    | 12, h, hi => exact absurd ((h 0 (by decide)).symm.trans (hO' 12 (by decide))) (by decide)
    | 13, h, hi => exact absurd ((h 0 (by decide)).symm.trans (hO' 13 (by decide))) (by decide)
    | 14, h, hi => exact absurd ((h 0 (by decide)).symm.trans (hO' 14 (by decide))) (by decide)
    | 15, h, hi => exact absurd ((h 0 (by decide)).symm.trans (hO' 15 (by decide))) (by decide)
    | 16, h, hi => exact (mm2 hf (i := o + 17) (j := o + 18) (by omega) (fun q => absurd (((h 1 (by decide)).symm.trans q).trans (hP 1 (by decide))) (by decide)) (fun q => absurd (((h 2 (by decide)).symm.trans q).trans (hP 2 (by decide))) (by decide))).elim
    | 17, h, hi => exact (mm2 hf (i := o + 17) (j := o + 18) (by omega) (fun q => absurd (((h 0 (by decide)).symm.trans q).trans (hP 1 (by decide))) (by decide)) (fun q => absurd (((h 1 (by decide)).symm.trans q).trans (hP 2 (by decide))) (by decide))).elim
    | 18, h, hi => exact (mm2 hf (i := o + 18) (j := o + 19) (by omega) (fun q => absurd (((h 0 (by decide)).symm.trans q).trans (hP 2 (by decide))) (by decide)) (fun q => absurd (((h 1 (by decide)).symm.trans q).trans (hP 3 (by decide))) (by decide))).elim
    | 19, h, hi => exact (mm2 hf (i := o + 19) (j := o + 20) (by omega) (fun q => absurd (((h 0 (by decide)).symm.trans q).trans (hP 3 (by decide))) (by decide)) (fun q => absurd (((h 1 (by decide)).symm.trans q).trans (hP 4 (by decide))) (by decide))).elim
    | 20, h, hi => exact (mm2 hf (i := o + 20) (j := o + 21) (by omega) (fun q => absurd (((h 0 (by decide)).symm.trans q).trans (hP 4 (by decide))) (by decide)) (fun q => absurd (((h 1 (by decide)).symm.trans q).trans (hP 5 (by decide))) (by decide))).elim
    | 21, h, hi => exact (mm2 hf (i := o + 21) (j := o + 22) (by omega) (fun q => absurd (((h 0 (by decide)).symm.trans q).trans (hP 5 (by decide))) (by decide)) (fun q => absurd (((h 1 (by decide)).symm.trans q).trans (hP 6 (by decide))) (by decide))).elim
    | 22, h, hi => exact (mm2 hf (i := o + 22) (j := o + 23) (by omega) (fun q => absurd (((h 0 (by decide)).symm.trans q).trans (hP 6 (by decide))) (by decide)) (fun q => absurd (((h 1 (by decide)).symm.trans q).trans (hP 7 (by decide))) (by decide))).elim
    | 23, h, hi => exact (mm2 hf (i := o + 23) (j := o + 24) (by omega) (fun q => absurd (((h 0 (by decide)).symm.trans q).trans (hP 7 (by decide))) (by decide)) (fun q => absurd (((h 1 (by decide)).symm.trans q).trans (hC 0 (by decide))) (by decide))).elim
    | 24, h, hi => rfl
    | 25, h, hi => exact (mm2 hf (i := o + 25) (j := o + 26) (by omega) (fun q => absurd (((h 0 (by decide)).symm.trans q).trans (hC 1 (by decide))) (by decide)) (fun q => absurd (((h 1 (by decide)).symm.trans q).trans (hC 2 (by decide))) (by decide))).elim
    | 26, h, hi => exact (mm2 hf (i := o + 26) (j := o + 27) (by omega) (fun q => absurd (((h 0 (by decide)).symm.trans q).trans (hC 2 (by decide))) (by decide)) (fun q => absurd (((h 1 (by decide)).symm.trans q).trans (hC 3 (by decide))) (by decide))).elim
    | d + 27, h, hi => exact absurd hi (by omega)
theorem own_mC1 {f g : Nat → Int32} {mu o : Nat} (hf : ∀ i, i ≠ mu → f i = g i) (hO : Mt g o OPN) (hP : Mt g (o + 16 + 1) PRM) (hC : Mt g (o + 16 + 1 + 8) CLO) (ho : o ≤ 3) (hO' : Mt f o OPN) {i : Nat} (h : Mt f i CLO) (hi : i + 17 ≤ o + 16 + 1 + 8 + 17 + 2) : i = o + 25 := by
  rcases Nat.lt_or_ge i o with hlt | hge
  · exfalso
    obtain ⟨e, he, rfl⟩ : ∃ e, (e = 1 ∨ e = 2 ∨ e = 3) ∧ o = i + e := ⟨o - i, by omega, by omega⟩
    rcases he with rfl | rfl | rfl
    · exact absurd ((h 1 (by decide)).symm.trans (hO' 0 (by decide))) (by decide)
    · exact absurd ((h 2 (by decide)).symm.trans (hO' 0 (by decide))) (by decide)
    · exact absurd ((h 3 (by decide)).symm.trans (hO' 0 (by decide))) (by decide)
  · obtain ⟨d, rfl⟩ : ∃ d, i = o + d := ⟨i - o, by omega⟩
    match d, h, hi with
    | 0, h, hi => exact absurd ((h 1 (by decide)).symm.trans (hO' 1 (by decide))) (by decide)
    | 1, h, hi => exact absurd ((h 0 (by decide)).symm.trans (hO' 1 (by decide))) (by decide)
    | 2, h, hi => exact absurd ((h 0 (by decide)).symm.trans (hO' 2 (by decide))) (by decide)
    | 3, h, hi => exact absurd ((h 0 (by decide)).symm.trans (hO' 3 (by decide))) (by decide)
    | 4, h, hi => exact absurd ((h 0 (by decide)).symm.trans (hO' 4 (by decide))) (by decide)
    | 5, h, hi => exact absurd ((h 0 (by decide)).symm.trans (hO' 5 (by decide))) (by decide)
    | 6, h, hi => exact absurd ((h 0 (by decide)).symm.trans (hO' 6 (by decide))) (by decide)
    | 7, h, hi => exact absurd ((h 0 (by decide)).symm.trans (hO' 7 (by decide))) (by decide)
    | 8, h, hi => exact absurd ((h 0 (by decide)).symm.trans (hO' 8 (by decide))) (by decide)
    | 9, h, hi => exact absurd ((h 0 (by decide)).symm.trans (hO' 9 (by decide))) (by decide)
    | 10, h, hi => exact absurd ((h 0 (by decide)).symm.trans (hO' 10 (by decide))) (by decide)
    | 11, h, hi => exact absurd ((h 0 (by decide)).symm.trans (hO' 11 (by decide))) (by decide)
    | 12, h, hi => exact absurd ((h 0 (by decide)).symm.trans (hO' 12 (by decide))) (by decide)
    | 13, h, hi => exact absurd ((h 0 (by decide)).symm.trans (hO' 13 (by decide))) (by decide)
    | 14, h, hi => exact absurd ((h 0 (by decide)).symm.trans (hO' 14 (by decide))) (by decide)
    | 15, h, hi => exact absurd ((h 0 (by decide)).symm.trans (hO' 15 (by decide))) (by decide)
    | 16, h, hi => exact (mm2 hf (i := o + 17) (j := o + 18) (by omega) (fun q => absurd (((h 1 (by decide)).symm.trans q).trans (hP 0 (by decide))) (by decide)) (fun q => absurd (((h 2 (by decide)).symm.trans q).trans (hP 1 (by decide))) (by decide))).elim
    | 17, h, hi => exact (mm2 hf (i := o + 18) (j := o + 19) (by omega) (fun q => absurd (((h 1 (by decide)).symm.trans q).trans (hP 1 (by decide))) (by decide)) (fun q => absurd (((h 2 (by decide)).symm.trans q).trans (hP 2 (by decide))) (by decide))).elim
    | 18, h, hi => exact (mm2 hf (i := o + 18) (j := o + 19) (by omega) (fun q => absurd (((h 0 (by decide)).symm.trans q).trans (hP 1 (by decide))) (by decide)) (fun q => absurd (((h 1 (by decide)).symm.trans q).trans (hP 2 (by decide))) (by decide))).elim
    | 19, h, hi => exact (mm2 hf (i := o + 19) (j := o + 20) (by omega) (fun q => absurd (((h 0 (by decide)).symm.trans q).trans (hP 2 (by decide))) (by decide)) (fun q => absurd (((h 1 (by decide)).symm.trans q).trans (hP 3 (by decide))) (by decide))).elim
    | 20, h, hi => exact (mm2 hf (i := o + 20) (j := o + 21) (by omega) (fun q => absurd (((h 0 (by decide)).symm.trans q).trans (hP 3 (by decide))) (by decide)) (fun q => absurd (((h 1 (by decide)).symm.trans q).trans (hP 4 (by decide))) (by decide))).elim
    | 21, h, hi => exact (mm2 hf (i := o + 21) (j := o + 22) (by omega) (fun q => absurd (((h 0 (by decide)).symm.trans q).trans (hP 4 (by decide))) (by decide)) (fun q => absurd (((h 1 (by decide)).symm.trans q).trans (hP 5 (by decide))) (by decide))).elim
    | 22, h, hi => exact (mm2 hf (i := o + 22) (j := o + 23) (by omega) (fun q => absurd (((h 0 (by decide)).symm.trans q).trans (hP 5 (by decide))) (by decide)) (fun q => absurd (((h 1 (by decide)).symm.trans q).trans (hP 6 (by decide))) (by decide))).elim
    | 23, h, hi => exact (mm2 hf (i := o + 23) (j := o + 24) (by omega) (fun q => absurd (((h 0 (by decide)).symm.trans q).trans (hP 6 (by decide))) (by decide)) (fun q => absurd (((h 1 (by decide)).symm.trans q).trans (hP 7 (by decide))) (by decide))).elim
    | 24, h, hi => exact (mm2 hf (i := o + 24) (j := o + 25) (by omega) (fun q => absurd (((h 0 (by decide)).symm.trans q).trans (hP 7 (by decide))) (by decide)) (fun q => absurd (((h 1 (by decide)).symm.trans q).trans (hC 0 (by decide))) (by decide))).elim
    | 25, h, hi => rfl
    | 26, h, hi => exact (mm2 hf (i := o + 26) (j := o + 27) (by omega) (fun q => absurd (((h 0 (by decide)).symm.trans q).trans (hC 1 (by decide))) (by decide)) (fun q => absurd (((h 1 (by decide)).symm.trans q).trans (hC 2 (by decide))) (by decide))).elim
    | 27, h, hi => exact (mm2 hf (i := o + 27) (j := o + 28) (by omega) (fun q => absurd (((h 0 (by decide)).symm.trans q).trans (hC 2 (by decide))) (by decide)) (fun q => absurd (((h 1 (by decide)).symm.trans q).trans (hC 3 (by decide))) (by decide))).elim
    | d + 28, h, hi => exact absurd hi (by omega)
theorem own_mC2 {f g : Nat → Int32} {mu o : Nat} (hf : ∀ i, i ≠ mu → f i = g i) (hO : Mt g o OPN) (hP : Mt g (o + 16 + 2) PRM) (hC : Mt g (o + 16 + 2 + 8) CLO) (ho : o ≤ 3) (hO' : Mt f o OPN) {i : Nat} (h : Mt f i CLO) (hi : i + 17 ≤ o + 16 + 2 + 8 + 17 + 2) : i = o + 26 := by
  rcases Nat.lt_or_ge i o with hlt | hge
  · exfalso
    obtain ⟨e, he, rfl⟩ : ∃ e, (e = 1 ∨ e = 2 ∨ e = 3) ∧ o = i + e := ⟨o - i, by omega, by omega⟩
    rcases he with rfl | rfl | rfl
    · exact absurd ((h 1 (by decide)).symm.trans (hO' 0 (by decide))) (by decide)
    · exact absurd ((h 2 (by decide)).symm.trans (hO' 0 (by decide))) (by decide)
    · exact absurd ((h 3 (by decide)).symm.trans (hO' 0 (by decide))) (by decide)
  · obtain ⟨d, rfl⟩ : ∃ d, i = o + d := ⟨i - o, by omega⟩
    match d, h, hi with
    | 0, h, hi => exact absurd ((h 1 (by decide)).symm.trans (hO' 1 (by decide))) (by decide)
    | 1, h, hi => exact absurd ((h 0 (by decide)).symm.trans (hO' 1 (by decide))) (by decide)
    | 2, h, hi => exact absurd ((h 0 (by decide)).symm.trans (hO' 2 (by decide))) (by decide)
    | 3, h, hi => exact absurd ((h 0 (by decide)).symm.trans (hO' 3 (by decide))) (by decide)
    | 4, h, hi => exact absurd ((h 0 (by decide)).symm.trans (hO' 4 (by decide))) (by decide)
    | 5, h, hi => exact absurd ((h 0 (by decide)).symm.trans (hO' 5 (by decide))) (by decide)
    | 6, h, hi => exact absurd ((h 0 (by decide)).symm.trans (hO' 6 (by decide))) (by decide)
    | 7, h, hi => exact absurd ((h 0 (by decide)).symm.trans (hO' 7 (by decide))) (by decide)
    | 8, h, hi => exact absurd ((h 0 (by decide)).symm.trans (hO' 8 (by decide))) (by decide)
    | 9, h, hi => exact absurd ((h 0 (by decide)).symm.trans (hO' 9 (by decide))) (by decide)
    | 10, h, hi => exact absurd ((h 0 (by decide)).symm.trans (hO' 10 (by decide))) (by decide)
    | 11, h, hi => exact absurd ((h 0 (by decide)).symm.trans (hO' 11 (by decide))) (by decide)
    | 12, h, hi => exact absurd ((h 0 (by decide)).symm.trans (hO' 12 (by decide))) (by decide)
    | 13, h, hi => exact absurd ((h 0 (by decide)).symm.trans (hO' 13 (by decide))) (by decide)
    | 14, h, hi => exact absurd ((h 0 (by decide)).symm.trans (hO' 14 (by decide))) (by decide)
    | 15, h, hi => exact absurd ((h 0 (by decide)).symm.trans (hO' 15 (by decide))) (by decide)
    | 16, h, hi => exact (mm2 hf (i := o + 18) (j := o + 19) (by omega) (fun q => absurd (((h 2 (by decide)).symm.trans q).trans (hP 0 (by decide))) (by decide)) (fun q => absurd (((h 3 (by decide)).symm.trans q).trans (hP 1 (by decide))) (by decide))).elim
    | 17, h, hi => exact (mm2 hf (i := o + 18) (j := o + 19) (by omega) (fun q => absurd (((h 1 (by decide)).symm.trans q).trans (hP 0 (by decide))) (by decide)) (fun q => absurd (((h 2 (by decide)).symm.trans q).trans (hP 1 (by decide))) (by decide))).elim
    | 18, h, hi => exact (mm2 hf (i := o + 19) (j := o + 20) (by omega) (fun q => absurd (((h 1 (by decide)).symm.trans q).trans (hP 1 (by decide))) (by decide)) (fun q => absurd (((h 2 (by decide)).symm.trans q).trans (hP 2 (by decide))) (by decide))).elim
    | 19, h, hi => exact (mm2 hf (i := o + 19) (j := o + 20) (by omega) (fun q => absurd (((h 0 (by decide)).symm.trans q).trans (hP 1 (by decide))) (by decide)) (fun q => absurd (((h 1 (by decide)).symm.trans q).trans (hP 2 (by decide))) (by decide))).elim
    | 20, h, hi => exact (mm2 hf (i := o + 20) (j := o + 21) (by omega) (fun q => absurd (((h 0 (by decide)).symm.trans q).trans (hP 2 (by decide))) (by decide)) (fun q => absurd (((h 1 (by decide)).symm.trans q).trans (hP 3 (by decide))) (by decide))).elim
    | 21, h, hi => exact (mm2 hf (i := o + 21) (j := o + 22) (by omega) (fun q => absurd (((h 0 (by decide)).symm.trans q).trans (hP 3 (by decide))) (by decide)) (fun q => absurd (((h 1 (by decide)).symm.trans q).trans (hP 4 (by decide))) (by decide))).elim
    | 22, h, hi => exact (mm2 hf (i := o + 22) (j := o + 23) (by omega) (fun q => absurd (((h 0 (by decide)).symm.trans q).trans (hP 4 (by decide))) (by decide)) (fun q => absurd (((h 1 (by decide)).symm.trans q).trans (hP 5 (by decide))) (by decide))).elim
    | 23, h, hi => exact (mm2 hf (i := o + 23) (j := o + 24) (by omega) (fun q => absurd (((h 0 (by decide)).symm.trans q).trans (hP 5 (by decide))) (by decide)) (fun q => absurd (((h 1 (by decide)).symm.trans q).trans (hP 6 (by decide))) (by decide))).elim
    | 24, h, hi => exact (mm2 hf (i := o + 24) (j := o + 25) (by omega) (fun q => absurd (((h 0 (by decide)).symm.trans q).trans (hP 6 (by decide))) (by decide)) (fun q => absurd (((h 1 (by decide)).symm.trans q).trans (hP 7 (by decide))) (by decide))).elim
    | 25, h, hi => exact (mm2 hf (i := o + 25) (j := o + 26) (by omega) (fun q => absurd (((h 0 (by decide)).symm.trans q).trans (hP 7 (by decide))) (by decide)) (fun q => absurd (((h 1 (by decide)).symm.trans q).trans (hC 0 (by decide))) (by decide))).elim
    | 26, h, hi => rfl
    | 27, h, hi => exact (mm2 hf (i := o + 27) (j := o + 28) (by omega) (fun q => absurd (((h 0 (by decide)).symm.trans q).trans (hC 1 (by decide))) (by decide)) (fun q => absurd (((h 1 (by decide)).symm.trans q).trans (hC 2 (by decide))) (by decide))).elim
    | 28, h, hi => exact (mm2 hf (i := o + 28) (j := o + 29) (by omega) (fun q => absurd (((h 0 (by decide)).symm.trans q).trans (hC 2 (by decide))) (by decide)) (fun q => absurd (((h 1 (by decide)).symm.trans q).trans (hC 3 (by decide))) (by decide))).elim
    | d + 29, h, hi => exact absurd hi (by omega)
theorem own_mP0 {f g : Nat → Int32} {mu o : Nat} (hf : ∀ i, i ≠ mu → f i = g i) (hP : Mt g (o + 16 + 0) PRM) {x : Nat} (h : Mt f x PRM) (h1 : o + 16 ≤ x) (hs : ∀ j, o + 16 ≤ j → j < x → isSp (f j)) : x = o + 16 + 0 := by
  rcases Nat.lt_or_ge x (o + 16 + 0) with hlt | hge
  · exfalso
    omega
  · rcases Nat.lt_or_ge (o + 16 + 0) x with hgt | hle
    · exfalso
      have s0 := hs (o + 16 + 0) (by omega) hgt
      have p0 : g (o + 16 + 0) = 60 := hP 0 (by decide)
      have p1 : g (o + 16 + 0 + 1) = 112 := hP 1 (by decide)
      have m0 : ¬ f (o + 16 + 0) = g (o + 16 + 0) := fun q => by rw [q, p0] at s0; exact own_n60 s0
      have n1 : f (o + 16 + 0 + 1) = 112 := (Classical.byContradiction fun q => mm2 hf (i := o + 16 + 0) (j := o + 16 + 0 + 1) (by omega) m0 (fun z => q z)).trans p1
      rcases Nat.lt_or_ge (o + 16 + 0 + 1) x with hg2 | hl2
      · have s1 := hs (o + 16 + 0 + 1) (by omega) hg2
        rw [n1] at s1; exact own_n112 s1
      · obtain rfl : x = o + 16 + 0 + 1 := by omega
        exact absurd ((h 0 (by decide)).symm.trans n1) (by decide)
    · omega
theorem own_mP1 {f g : Nat → Int32} {mu o : Nat} (hf : ∀ i, i ≠ mu → f i = g i) (hP : Mt g (o + 16 + 1) PRM) {x : Nat} (h : Mt f x PRM) (h1 : o + 16 ≤ x) (hs : ∀ j, o + 16 ≤ j → j < x → isSp (f j)) : x = o + 16 + 1 := by
  rcases Nat.lt_or_ge x (o + 16 + 1) with hlt | hge
  · exfalso
    obtain ⟨e, he, hx⟩ : ∃ e, (e = 1) ∧ o + 16 + 1 = x + e := ⟨o + 16 + 1 - x, by omega, by omega⟩
    rw [hx] at hP
    rcases he with rfl
    · exact mm2 hf (i := x + 1) (j := x + 2) (by omega) (fun q => absurd (((h 1 (by decide)).symm.trans q).trans (hP 0 (by decide))) (by decide)) (fun q => absurd (((h 2 (by decide)).symm.trans q).trans (hP 1 (by decide))) (by decide))
  · rcases Nat.lt_or_ge (o + 16 + 1) x with hgt | hle
    · exfalso
      have s0 := hs (o + 16 + 1) (by omega) hgt
      have p0 : g (o + 16 + 1) = 60 := hP 0 (by decide)
      have p1 : g (o + 16 + 1 + 1) = 112 := hP 1 (by decide)
      have m0 : ¬ f (o + 16 + 1) = g (o + 16 + 1) := fun q => by rw [q, p0] at s0; exact own_n60 s0
      have n1 : f (o + 16 + 1 + 1) = 112 := (Classical.byContradiction fun q => mm2 hf (i := o + 16 + 1) (j := o + 16 + 1 + 1) (by omega) m0 (fun z => q z)).trans p1
      rcases Nat.lt_or_ge (o + 16 + 1 + 1) x with hg2 | hl2
      · have s1 := hs (o + 16 + 1 + 1) (by omega) hg2
        rw [n1] at s1; exact own_n112 s1
      · obtain rfl : x = o + 16 + 1 + 1 := by omega
        exact absurd ((h 0 (by decide)).symm.trans n1) (by decide)
    · omega
theorem own_mP2 {f g : Nat → Int32} {mu o : Nat} (hf : ∀ i, i ≠ mu → f i = g i) (hP : Mt g (o + 16 + 2) PRM) {x : Nat} (h : Mt f x PRM) (h1 : o + 16 ≤ x) (hs : ∀ j, o + 16 ≤ j → j < x → isSp (f j)) : x = o + 16 + 2 := by
  rcases Nat.lt_or_ge x (o + 16 + 2) with hlt | hge
  · exfalso
    obtain ⟨e, he, hx⟩ : ∃ e, (e = 1 ∨ e = 2) ∧ o + 16 + 2 = x + e := ⟨o + 16 + 2 - x, by omega, by omega⟩
    rw [hx] at hP
    rcases he with rfl | rfl
    · exact mm2 hf (i := x + 1) (j := x + 2) (by omega) (fun q => absurd (((h 1 (by decide)).symm.trans q).trans (hP 0 (by decide))) (by decide)) (fun q => absurd (((h 2 (by decide)).symm.trans q).trans (hP 1 (by decide))) (by decide))
    · exact mm2 hf (i := x + 2) (j := x + 3) (by omega) (fun q => absurd (((h 2 (by decide)).symm.trans q).trans (hP 0 (by decide))) (by decide)) (fun q => absurd (((h 3 (by decide)).symm.trans q).trans (hP 1 (by decide))) (by decide))
  · rcases Nat.lt_or_ge (o + 16 + 2) x with hgt | hle
    · exfalso
      have s0 := hs (o + 16 + 2) (by omega) hgt
      have p0 : g (o + 16 + 2) = 60 := hP 0 (by decide)
      have p1 : g (o + 16 + 2 + 1) = 112 := hP 1 (by decide)
      have m0 : ¬ f (o + 16 + 2) = g (o + 16 + 2) := fun q => by rw [q, p0] at s0; exact own_n60 s0
      have n1 : f (o + 16 + 2 + 1) = 112 := (Classical.byContradiction fun q => mm2 hf (i := o + 16 + 2) (j := o + 16 + 2 + 1) (by omega) m0 (fun z => q z)).trans p1
      rcases Nat.lt_or_ge (o + 16 + 2 + 1) x with hg2 | hl2
      · have s1 := hs (o + 16 + 2 + 1) (by omega) hg2
        rw [n1] at s1; exact own_n112 s1
      · obtain rfl : x = o + 16 + 2 + 1 := by omega
        exact absurd ((h 0 (by decide)).symm.trans n1) (by decide)
    · omega
/-! what isResult says, and what the law expects -/
def Fst (f : Nat → Int32) (len i : Nat) : Prop := i + 16 ≤ len ∧ Mt f i OPN ∧ ∀ j, j < i → ¬ Mt f j OPN
def EndT (f : Nat → Int32) (len e : Nat) : Prop := e ≤ len ∧ (∀ j, e ≤ j → j < len → isSp (f j)) ∧ (e = 0 ∨ ¬ isSp (f (e - 1)))
def Nxt (f : Nat → Int32) (s e x : Nat) : Prop := s ≤ x ∧ (∀ j, s ≤ j → j < x → isSp (f j)) ∧ (e ≤ x ∨ ¬ isSp (f x)) ∧ (x ≤ e ∨ x = s)
def Yes (f : Nat → Int32) (len : Nat) : Prop := ∃ i e x, Fst f len i ∧ EndT f len e ∧ (17 ≤ e ∧ Mt f (e - 17) CLO) ∧ Nxt f (i + 16) e x ∧ x + 8 ≤ e ∧ Mt f x PRM
def No (f : Nat → Int32) (len : Nat) : Prop := (∀ j, j + 16 ≤ len → ¬ Mt f j OPN) ∨ (∃ i e, Fst f len i ∧ EndT f len e ∧ ¬ (17 ≤ e ∧ Mt f (e - 17) CLO)) ∨ (∃ i e x, Fst f len i ∧ EndT f len e ∧ Nxt f (i + 16) e x ∧ ¬ (x + 8 ≤ e ∧ Mt f x PRM))
theorem own_end_u {f : Nat → Int32} {len a b : Nat} (h : EndT f len a) (g : EndT f len b) : a = b := by
  obtain ⟨h1, h2, h3⟩ := h
  obtain ⟨g1, g2, g3⟩ := g
  rcases Nat.lt_trichotomy a b with q | q | q
  · exact absurd (h2 (b - 1) (by omega) (by omega)) (g3.resolve_left (by omega))
  · exact q
  · exact absurd (g2 (a - 1) (by omega) (by omega)) (h3.resolve_left (by omega))
def Exp0 (f : Nat → Int32) (o len : Nat) : Prop := (Mt f o OPN ∧ Mt f (o + 16 + 0) PRM ∧ Mt f (o + 16 + 0 + 8) CLO) ∧ (∀ j, j < 0 → isSp (f (o + 16 + j))) ∧ o + 16 + 0 + 8 + 17 ≤ len ∧ (∀ j, o + 16 + 0 + 8 + 17 ≤ j → j < len → isSp (f j))
theorem own_yes0 {f g : Nat → Int32} {mu o : Nat} (hf : ∀ i, i ≠ mu → f i = g i) (hO : Mt g o OPN) (hP : Mt g (o + 16 + 0) PRM) (hC : Mt g (o + 16 + 0 + 8) CLO) (ho : o ≤ 3) {t len : Nat} (ht : t ≤ 2) (hl : len ≤ o + 16 + 0 + 8 + 17 + t) (hmu : mu < o + 16 ∨ True) (h : Yes f len) : Exp0 f o len := by
  obtain ⟨i, e, x, ⟨h1, h2, h3⟩, ⟨e1, e2, e3⟩, ⟨c1, c2⟩, ⟨n1, n2, n3, n4⟩, p1, p2⟩ := h
  have hio : i = o := by
    rcases own_mO0 hf hO hP hC ho h2 (by omega) with q | ⟨q, q2⟩
    · exact q
    · exfalso
      refine h3 o (by omega) (fun k hk => ?_)
      rw [hf (o + k) (by have : OPN.length = 16 := rfl; omega)]
      exact hO k hk
  subst hio
  have hcl := own_mC0 hf hO hP hC ho h2 c2 (by omega)
  have hpr := own_mP0 hf hP p2 n1 n2
  subst hpr
  have he : e = i + 16 + 0 + 8 + 17 := by omega
  subst he
  refine ⟨⟨h2, p2, ?_⟩, fun j hj => n2 _ (by omega) (by omega), e1, e2⟩
  have q : i + 16 + 0 + 8 + 17 - 17 = i + 16 + 0 + 8 := by omega
  rw [q] at c2; exact c2
theorem own_no0 {f g : Nat → Int32} {mu o : Nat} (hf : ∀ i, i ≠ mu → f i = g i) (hO : Mt g o OPN) (hP : Mt g (o + 16 + 0) PRM) (hC : Mt g (o + 16 + 0 + 8) CLO) (ho : o ≤ 3) {t len : Nat} (ht : t ≤ 2) (hl : len ≤ o + 16 + 0 + 8 + 17 + t) (h : No f len) : ¬ Exp0 f o len := by
  rintro ⟨⟨x1, x2, x3⟩, x4, x5, x6⟩
  have hE : EndT f len (o + 16 + 0 + 8 + 17) := ⟨x5, x6, Or.inr (by have q : f (o + 16 + 0 + 8 + 16) = 62 := x3 16 (by decide); show ¬ isSp (f (o + 16 + 0 + 8 + 16)); rw [q]; exact own_n62)⟩
  have uF : ∀ i, Fst f len i → i = o := fun i hF => by
    rcases own_mO0 hf hO hP hC ho hF.2.1 (by have := hF.1; omega) with q | ⟨q, -⟩
    · exact q
    · exact absurd x1 (hF.2.2 o (by omega))
  rcases h with h | ⟨i, e, hF, hE', hn⟩ | ⟨i, e, x, hF, hE', ⟨n1, n2, n3, n4⟩, hn⟩
  · exact h o (by omega) x1
  · obtain rfl := own_end_u hE' hE
    refine hn ⟨by omega, ?_⟩
    have q : o + 16 + 0 + 8 + 17 - 17 = o + 16 + 0 + 8 := by omega
    rw [q]; exact x3
  · obtain rfl := own_end_u hE' hE
    obtain rfl := uF i hF
    have pf : f (i + 16 + 0) = 60 := x2 0 (by decide)
    have hx : x = i + 16 + 0 := by
      rcases Nat.lt_trichotomy x (i + 16 + 0) with q | q | q
      · exfalso
        rcases n3 with n3 | n3
        · omega
        · refine n3 ?_
          have z := x4 (x - (i + 16)) (by omega)
          rwa [show i + 16 + (x - (i + 16)) = x by omega] at z
      · exact q
      · have z := n2 (i + 16 + 0) (by omega) q
        rw [pf] at z; exact absurd z own_n60
    subst hx
    exact hn ⟨by omega, x2⟩
def Exp1 (f : Nat → Int32) (o len : Nat) : Prop := (Mt f o OPN ∧ Mt f (o + 16 + 1) PRM ∧ Mt f (o + 16 + 1 + 8) CLO) ∧ (∀ j, j < 1 → isSp (f (o + 16 + j))) ∧ o + 16 + 1 + 8 + 17 ≤ len ∧ (∀ j, o + 16 + 1 + 8 + 17 ≤ j → j < len → isSp (f j))
theorem own_yes1 {f g : Nat → Int32} {mu o : Nat} (hf : ∀ i, i ≠ mu → f i = g i) (hO : Mt g o OPN) (hP : Mt g (o + 16 + 1) PRM) (hC : Mt g (o + 16 + 1 + 8) CLO) (ho : o ≤ 3) {t len : Nat} (ht : t ≤ 2) (hl : len ≤ o + 16 + 1 + 8 + 17 + t) (hmu : mu < o + 16 ∨ True) (h : Yes f len) : Exp1 f o len := by
  obtain ⟨i, e, x, ⟨h1, h2, h3⟩, ⟨e1, e2, e3⟩, ⟨c1, c2⟩, ⟨n1, n2, n3, n4⟩, p1, p2⟩ := h
  have hio : i = o := by
    rcases own_mO1 hf hO hP hC ho h2 (by omega) with q | ⟨q, q2⟩
    · exact q
    · exfalso
      refine h3 o (by omega) (fun k hk => ?_)
      rw [hf (o + k) (by have : OPN.length = 16 := rfl; omega)]
      exact hO k hk
  subst hio
  have hcl := own_mC1 hf hO hP hC ho h2 c2 (by omega)
  have hpr := own_mP1 hf hP p2 n1 n2
  subst hpr
  have he : e = i + 16 + 1 + 8 + 17 := by omega
  subst he
  refine ⟨⟨h2, p2, ?_⟩, fun j hj => n2 _ (by omega) (by omega), e1, e2⟩
  have q : i + 16 + 1 + 8 + 17 - 17 = i + 16 + 1 + 8 := by omega
  rw [q] at c2; exact c2
theorem own_no1 {f g : Nat → Int32} {mu o : Nat} (hf : ∀ i, i ≠ mu → f i = g i) (hO : Mt g o OPN) (hP : Mt g (o + 16 + 1) PRM) (hC : Mt g (o + 16 + 1 + 8) CLO) (ho : o ≤ 3) {t len : Nat} (ht : t ≤ 2) (hl : len ≤ o + 16 + 1 + 8 + 17 + t) (h : No f len) : ¬ Exp1 f o len := by
  rintro ⟨⟨x1, x2, x3⟩, x4, x5, x6⟩
  have hE : EndT f len (o + 16 + 1 + 8 + 17) := ⟨x5, x6, Or.inr (by have q : f (o + 16 + 1 + 8 + 16) = 62 := x3 16 (by decide); show ¬ isSp (f (o + 16 + 1 + 8 + 16)); rw [q]; exact own_n62)⟩
  have uF : ∀ i, Fst f len i → i = o := fun i hF => by
    rcases own_mO1 hf hO hP hC ho hF.2.1 (by have := hF.1; omega) with q | ⟨q, -⟩
    · exact q
    · exact absurd x1 (hF.2.2 o (by omega))
  rcases h with h | ⟨i, e, hF, hE', hn⟩ | ⟨i, e, x, hF, hE', ⟨n1, n2, n3, n4⟩, hn⟩
  · exact h o (by omega) x1
  · obtain rfl := own_end_u hE' hE
    refine hn ⟨by omega, ?_⟩
    have q : o + 16 + 1 + 8 + 17 - 17 = o + 16 + 1 + 8 := by omega
    rw [q]; exact x3
  · obtain rfl := own_end_u hE' hE
    obtain rfl := uF i hF
    have pf : f (i + 16 + 1) = 60 := x2 0 (by decide)
    have hx : x = i + 16 + 1 := by
      rcases Nat.lt_trichotomy x (i + 16 + 1) with q | q | q
      · exfalso
        rcases n3 with n3 | n3
        · omega
        · refine n3 ?_
          have z := x4 (x - (i + 16)) (by omega)
          rwa [show i + 16 + (x - (i + 16)) = x by omega] at z
      · exact q
      · have z := n2 (i + 16 + 1) (by omega) q
        rw [pf] at z; exact absurd z own_n60
    subst hx
    exact hn ⟨by omega, x2⟩
def Exp2 (f : Nat → Int32) (o len : Nat) : Prop := (Mt f o OPN ∧ Mt f (o + 16 + 2) PRM ∧ Mt f (o + 16 + 2 + 8) CLO) ∧ (∀ j, j < 2 → isSp (f (o + 16 + j))) ∧ o + 16 + 2 + 8 + 17 ≤ len ∧ (∀ j, o + 16 + 2 + 8 + 17 ≤ j → j < len → isSp (f j))
theorem own_yes2 {f g : Nat → Int32} {mu o : Nat} (hf : ∀ i, i ≠ mu → f i = g i) (hO : Mt g o OPN) (hP : Mt g (o + 16 + 2) PRM) (hC : Mt g (o + 16 + 2 + 8) CLO) (ho : o ≤ 3) {t len : Nat} (ht : t ≤ 2) (hl : len ≤ o + 16 + 2 + 8 + 17 + t) (hmu : mu < o + 16 ∨ True) (h : Yes f len) : Exp2 f o len := by
  obtain ⟨i, e, x, ⟨h1, h2, h3⟩, ⟨e1, e2, e3⟩, ⟨c1, c2⟩, ⟨n1, n2, n3, n4⟩, p1, p2⟩ := h
  have hio : i = o := by
    rcases own_mO2 hf hO hP hC ho h2 (by omega) with q | ⟨q, q2⟩
    · exact q
    · exfalso
      refine h3 o (by omega) (fun k hk => ?_)
      rw [hf (o + k) (by have : OPN.length = 16 := rfl; omega)]
      exact hO k hk
  subst hio
  have hcl := own_mC2 hf hO hP hC ho h2 c2 (by omega)
  have hpr := own_mP2 hf hP p2 n1 n2
  subst hpr
  have he : e = i + 16 + 2 + 8 + 17 := by omega
  subst he
  refine ⟨⟨h2, p2, ?_⟩, fun j hj => n2 _ (by omega) (by omega), e1, e2⟩
  have q : i + 16 + 2 + 8 + 17 - 17 = i + 16 + 2 + 8 := by omega
  rw [q] at c2; exact c2
theorem own_no2 {f g : Nat → Int32} {mu o : Nat} (hf : ∀ i, i ≠ mu → f i = g i) (hO : Mt g o OPN) (hP : Mt g (o + 16 + 2) PRM) (hC : Mt g (o + 16 + 2 + 8) CLO) (ho : o ≤ 3) {t len : Nat} (ht : t ≤ 2) (hl : len ≤ o + 16 + 2 + 8 + 17 + t) (h : No f len) : ¬ Exp2 f o len := by
  rintro ⟨⟨x1, x2, x3⟩, x4, x5, x6⟩
  have hE : EndT f len (o + 16 + 2 + 8 + 17) := ⟨x5, x6, Or.inr (by have q : f (o + 16 + 2 + 8 + 16) = 62 := x3 16 (by decide); show ¬ isSp (f (o + 16 + 2 + 8 + 16)); rw [q]; exact own_n62)⟩
  have uF : ∀ i, Fst f len i → i = o := fun i hF => by
    rcases own_mO2 hf hO hP hC ho hF.2.1 (by have := hF.1; omega) with q | ⟨q, -⟩
    · exact q
    · exact absurd x1 (hF.2.2 o (by omega))
  rcases h with h | ⟨i, e, hF, hE', hn⟩ | ⟨i, e, x, hF, hE', ⟨n1, n2, n3, n4⟩, hn⟩
  · exact h o (by omega) x1
  · obtain rfl := own_end_u hE' hE
    refine hn ⟨by omega, ?_⟩
    have q : o + 16 + 2 + 8 + 17 - 17 = o + 16 + 2 + 8 := by omega
    rw [q]; exact x3
  · obtain rfl := own_end_u hE' hE
    obtain rfl := uF i hF
    have pf : f (i + 16 + 2) = 60 := x2 0 (by decide)
    have hx : x = i + 16 + 2 := by
      rcases Nat.lt_trichotomy x (i + 16 + 2) with q | q | q
      · exfalso
        rcases n3 with n3 | n3
        · omega
        · refine n3 ?_
          have z := x4 (x - (i + 16)) (by omega)
          rwa [show i + 16 + (x - (i + 16)) = x by omega] at z
      · exact q
      · have z := n2 (i + 16 + 2) (by omega) q
        rw [pf] at z; exact absurd z own_n60
    subst hx
    exact hn ⟨by omega, x2⟩
theorem own_narbb (z : Int32) : nar .byte (nar .byte z) = nar .byte z := by simp [nar]
def puts : List Int32 → Nat → List Int32 → List Int32
  | bs, _, [] => bs
  | bs, a, c :: cs => puts (bs.set a c) (a + 1) cs
def SA (bs wl : List Int32) (at_ : Int) (len : Nat) : Prop := 0 ≤ at_ ∧ at_ + (wl.length : Int) ≤ (len : Int) ∧ Mt (fun i => bs.getD i 0) at_.toNat wl
theorem own_sac {bs : List Int32} (e : Int32) (eN : Nat) (he : e.toInt = ((eN : Nat) : Int)) (hb : eN ≤ 1000) : SA bs CLO (e - (17 : Int32)).toInt eN ↔ (17 ≤ eN ∧ Mt (fun i => bs.getD i 0) (eN - 17) CLO) := by
  have l17 : (17 : Int32).toInt = 17 := rfl
  have lc : CLO.length = 17 := rfl
  have q := own_sub e 17 (by omega) (by decide)
  constructor
  · rintro ⟨h1, h2, h3⟩
    refine ⟨by omega, ?_⟩
    have z : (e - (17 : Int32)).toInt.toNat = eN - 17 := by omega
    rw [z] at h3; exact h3
  · rintro ⟨h1, h2⟩
    refine ⟨by omega, by omega, ?_⟩
    have z : (e - (17 : Int32)).toInt.toNat = eN - 17 := by omega
    rw [z]; exact h2
theorem own_sap {bs : List Int32} (x : Int32) (eN xN : Nat) (hx : x.toInt = ((xN : Nat) : Int)) : SA bs PRM x.toInt eN ↔ (xN + 8 ≤ eN ∧ Mt (fun i => bs.getD i 0) xN PRM) := by
  have lc : PRM.length = 8 := rfl
  have z : x.toInt.toNat = xN := by omega
  unfold SA
  rw [z]
  constructor
  · rintro ⟨h1, h2, h3⟩; exact ⟨by omega, h3⟩
  · rintro ⟨h1, h2⟩; exact ⟨by omega, by omega, h2⟩
def Hid (P : Prop) : Prop := P
theorem own_t1 : Tn (1 : Int32) 1 := rfl
theorem own_t2 : Tn (2 : Int32) 2 := rfl
theorem own_lt1 {o w : Nat} (q : 0 < w) : o + 16 < o + 16 + w := by omega
theorem own_lt2 {o w : Nat} (q : 1 < w) : o + 17 < o + 16 + w := by omega
theorem own_lt3 {o w : Nat} (q : 0 < w) : o + 16 < o + 16 + w + 8 := by omega
theorem own_lt4 {o w : Nat} (q : 1 < w) : o + 17 < o + 16 + w + 8 := by omega
theorem own_nn {a b c : Nat} (h : a < b) (g : b < c) (k : c ≤ a + 1) : False := by omega
theorem own_neg1 {x : Int32} (h : x.toInt = -1) : x < 0 := by
  rw [Int32.lt_iff_toInt_lt]
  have l0 : (0 : Int32).toInt = 0 := rfl
  omega
theorem own_nz {x : Int32} {k : Nat} (h : Tn x (k + 1)) : ¬ x = 0 := fun q => by
  have q2 := congrArg Int32.toInt q
  have h2 : x.toInt = ((k + 1 : Nat) : Int) := h
  have l0 : (0 : Int32).toInt = 0 := rfl
  omega
theorem own_c29 (x : Int32) {n : Nat} (h : 3 ≤ n) : 0 ≤ (x &&& (3 : Int32)).toInt ∧ (x &&& (3 : Int32)).toInt ≤ ((n : Nat) : Int) := by
  have q := c_and x 3 (by decide)
  have l3 : (3 : Int32).toInt = 3 := rfl
  omega
theorem own_reg {m oN wN tN jN : Nat} (h : ((oN ≤ m ∧ m < oN + 16) ∨ (oN + 16 + wN ≤ m ∧ m < oN + 16 + wN + 8) ∨ (oN + 16 + wN + 8 ≤ m ∧ m < oN + 16 + wN + 8 + 17))) : m < (oN + 16 + wN + 8 + 17 + tN + jN) := by omega
theorem own_narb (y : Int32) : nar .byte ((y).toInt8.toInt32) = (y).toInt8.toInt32 := by simp [nar]
theorem own_p9 (x : Int64) : 0 ≤ ((x &&& (3 : Int64)).toInt32).toInt ∧ ((x &&& (3 : Int64)).toInt32).toInt ≤ 3 := by
  have h1 := c_maskL x 3 2 (by decide) (by decide)
  have h2 := c_l2i (x &&& (3 : Int64))
  have h3 := rng32 (x &&& (3 : Int64)).toInt32
  omega
theorem own_w10 (x : Int64) : 0 ≤ (((x &&& (255 : Int64)) - ((x &&& (255 : Int64)) / (3 : Int64)) * (3 : Int64)).toInt32).toInt ∧ (((x &&& (255 : Int64)) - ((x &&& (255 : Int64)) / (3 : Int64)) * (3 : Int64)).toInt32).toInt ≤ 2 := by
  have h1 := c_maskL x 255 8 (by decide) (by decide)
  have h4 := (c_lrem (x &&& (255 : Int64)) 3 3 rfl).1 (by omega)
  have h2 := c_l2i ((x &&& (255 : Int64)) - ((x &&& (255 : Int64)) / (3 : Int64)) * (3 : Int64))
  have h3 := rng32 ((x &&& (255 : Int64)) - ((x &&& (255 : Int64)) / (3 : Int64)) * (3 : Int64)).toInt32
  omega
theorem own_j12 (x : Int32) : 0 ≤ ((x &&& (255 : Int32)) % (3 : Int32)).toInt ∧ ((x &&& (255 : Int32)) % (3 : Int32)).toInt ≤ 2 := by
  have h1 := c_and x 255 (by decide)
  have h2 := (c_irem (x &&& (255 : Int32)) 3 3 rfl).1 h1.1
  omega
theorem own_ge0 {x : Int32} {k : Nat} (h : x.toInt = ((k : Nat) : Int)) : ¬ x < 0 := fun q => by
  rw [Int32.lt_iff_toInt_lt] at q
  have l0 : (0 : Int32).toInt = 0 := rfl
  omega
theorem own_cap {x : Int32} {k m : Nat} (h : x.toInt = ((k : Nat) : Int)) (hk : k ≤ m) : x.toNatClampNeg ≤ m := by
  have q := nat_of (own_ge0 h)
  omega
theorem own_rep (m : Nat) : ∀ i, ((List.replicate m (0 : Int32)).map Value.int).getD i (.int (0 : Int32)) = ([] : List Value).getD i (.int (0 : Int32)) := fun i => by
  rw [own_get]
  simp only [List.getD_eq_getElem?_getD, List.getElem?_replicate, List.getElem?_nil]
  split <;> rfl
theorem own_puts_len : ∀ (W bs : List Int32) (a : Nat), (puts bs a W).length = bs.length
  | [], bs, a => rfl
  | c :: cs, bs, a => by rw [puts, own_puts_len cs, List.length_set]
theorem own_gd_ne {bs : List Int32} {i j : Nat} {v : Int32} (h : i ≠ j) : (bs.set i v).getD j 0 = bs.getD j 0 := by
  simp only [List.getD_eq_getElem?_getD]; rw [List.getElem?_set_ne h]
theorem own_gd_eq {bs : List Int32} {i : Nat} {v : Int32} (h : i < bs.length) : (bs.set i v).getD i 0 = v := by
  simp only [List.getD_eq_getElem?_getD]; rw [List.getElem?_set_self h]; rfl
theorem own_gd_same {bs : List Int32} {m i : Nat} {v : Int32} (h : bs.getD m 0 = v) : (bs.set m v).getD i 0 = bs.getD i 0 := by
  by_cases q : m = i
  · subst q
    by_cases z : m < bs.length
    · rw [own_gd_eq z, h]
    · rw [List.set_eq_of_length_le (by omega)]
  · exact own_gd_ne q
theorem own_gd_puts : ∀ (bs : List Int32) (a : Nat) (W : List Int32) (j : Nat), (j < a ∨ a + W.length ≤ j) → (puts bs a W).getD j 0 = bs.getD j 0
  | bs, a, [], j, _ => rfl
  | bs, a, c :: cs, j, h => by
    rw [puts, own_gd_puts (bs.set a c) (a + 1) cs j (by simp only [List.length_cons] at h; omega)]
    exact own_gd_ne (by simp only [List.length_cons] at h; omega)
theorem own_puts_self : ∀ (bs : List Int32) (a : Nat) (W : List Int32), a + W.length ≤ bs.length → Mt (fun i => (puts bs a W).getD i 0) a W
  | bs, a, [], h => fun k hk => absurd hk (Nat.not_lt_zero _)
  | bs, a, c :: cs, h => fun k hk => by
    simp only [List.length_cons] at h hk
    cases k with
    | zero =>
      show (puts bs a (c :: cs)).getD (a + 0) 0 = c
      rw [puts, own_gd_puts (bs.set a c) (a + 1) cs (a + 0) (by omega)]
      exact own_gd_eq (by omega)
    | succ k =>
      have q := own_puts_self (bs.set a c) (a + 1) cs (by rw [List.length_set]; omega) k (by omega)
      show (puts bs a (c :: cs)).getD (a + (k + 1)) 0 = cs.getD k 0
      rw [puts, show a + (k + 1) = a + 1 + k by omega]; exact q
theorem own_Mt_set {bs W : List Int32} {a i : Nat} {v : Int32} (h : Mt (fun i => bs.getD i 0) a W) (hi : i < a ∨ a + W.length ≤ i) : Mt (fun j => (bs.set i v).getD j 0) a W := fun k hk => (own_gd_ne (by omega)).trans (h k hk)
theorem own_Mt_puts {bs W V : List Int32} {a b : Nat} (h : Mt (fun i => bs.getD i 0) b W) (hi : b + W.length ≤ a ∨ a + V.length ≤ b) : Mt (fun j => (puts bs a V).getD j 0) b W := fun k hk => (own_gd_puts bs a V (b + k) (by omega)).trans (h k hk)
theorem own_at {p : Int32} {k : Nat} (h : p.toInt = ((k : Nat) : Int)) (hk : k ≤ 100) (x : Int32) (hx : 0 ≤ x.toInt) (m : Int32) (mi : Nat) (hm : m.toInt = ((mi : Nat) : Int)) (h0 : 0 < mi ∧ mi ≤ 100) : ∃ q : Nat, (p + x % m).toInt = ((q : Nat) : Int) ∧ k ≤ q ∧ q < k + mi := by
  have h1 := (c_iremV x m).1 hx (by omega)
  have h2 := own_add p (x % m) (by omega) (by omega)
  exact ⟨(p + x % m).toInt.toNat, by omega, by omega, by omega⟩
theorem own_cut (x : Int32) {n : Int32} {k : Nat} (h : n.toInt = ((k : Nat) : Int)) (hk : k ≤ 100) : 0 ≤ ((((x).toUInt32 >>> ((1 : Int32) &&& 31).toUInt32).toInt32) % (n + (1 : Int32))).toInt ∧ ((((x).toUInt32 >>> ((1 : Int32) &&& 31).toUInt32).toInt32) % (n + (1 : Int32))).toInt ≤ ((k : Nat) : Int) := by
  have h1 := c_iushr x 1 1 (by decide) (by decide)
  have h2 := own_add n 1 (by omega) (by decide)
  have l1 : (1 : Int32).toInt = 1 := rfl
  have h3 := (c_iremV ((x).toUInt32 >>> ((1 : Int32) &&& 31).toUInt32).toInt32 (n + 1)).1 (by omega) (by omega)
  omega
theorem own_final {bs gs : List Int32} {e28 w0 w1 t0 t1 : Int32} {mu oN wN tN lenN : Nat} (hmu : ∀ i, i ≠ mu → bs.getD i 0 = gs.getD i 0) (h28 : (e28 = 1 ∧ ∀ i, bs.getD i 0 = gs.getD i 0) ∨ (e28 = 0 ∧ ((oN ≤ mu ∧ mu < oN + 16) ∨ (oN + 16 + wN ≤ mu ∧ mu < oN + 16 + wN + 8) ∨ (oN + 16 + wN + 8 ≤ mu ∧ mu < oN + 16 + wN + 8 + 17)) ∧ ¬ bs.getD mu 0 = gs.getD mu 0))
    (HO : Mt (fun i => gs.getD i 0) oN OPN) (HP : Mt (fun i => gs.getD i 0) (oN + 16 + wN) PRM) (HC : Mt (fun i => gs.getD i 0) (oN + 16 + wN + 8) CLO) (HA : 0 < wN → gs.getD (oN + 16) 0 = w0) (HB : 1 < wN → gs.getD (oN + 17) 0 = w1) (HT : 0 < tN → gs.getD (oN + 16 + wN + 8 + 17) 0 = t0) (HU : 1 < tN → gs.getD (oN + 16 + wN + 8 + 17 + 1) 0 = t1)
    (ho : oN ≤ 3) (hw : wN ≤ 2) (ht : tN ≤ 2) (hl : lenN ≤ oN + 16 + wN + 8 + 17 + tN) :
    (Yes (fun i => bs.getD i 0) lenN → (e28 = 1 ∧ ((0 < wN → isSp w0) ∧ (1 < wN → isSp w1)) ∧ oN + 16 + wN + 8 + 17 ≤ lenN ∧ ((0 < tN → oN + 16 + wN + 8 + 17 < lenN → isSp t0) ∧ (1 < tN → oN + 16 + wN + 8 + 17 + 1 < lenN → isSp t1)))) ∧
    (No (fun i => bs.getD i 0) lenN → ¬ (e28 = 1 ∧ ((0 < wN → isSp w0) ∧ (1 < wN → isSp w1)) ∧ oN + 16 + wN + 8 + 17 ≤ lenN ∧ ((0 < tN → oN + 16 + wN + 8 + 17 < lenN → isSp t0) ∧ (1 < tN → oN + 16 + wN + 8 + 17 + 1 < lenN → isSp t1)))) := by
  have hE : ∀ E : Prop, ((Mt (fun i => bs.getD i 0) oN OPN ∧ Mt (fun i => bs.getD i 0) (oN + 16 + wN) PRM ∧ Mt (fun i => bs.getD i 0) (oN + 16 + wN + 8) CLO) ∧ E → e28 = 1 ∧ ∀ i, bs.getD i 0 = gs.getD i 0) := by
    rintro E ⟨⟨a, b, c⟩, -⟩
    rcases h28 with h | ⟨-, hr, hn⟩
    · exact h
    · exfalso
      have lo : OPN.length = 16 := rfl
      have lp : PRM.length = 8 := rfl
      have lc : CLO.length = 17 := rfl
      rcases hr with ⟨r1, r2⟩ | ⟨r1, r2⟩ | ⟨r1, r2⟩
      · have x := a (mu - oN) (by omega)
        have y := HO (mu - oN) (by omega)
        rw [show oN + (mu - oN) = mu by omega] at x y
        exact hn (x.trans y.symm)
      · have x := b (mu - (oN + 16 + wN)) (by omega)
        have y := HP (mu - (oN + 16 + wN)) (by omega)
        rw [show oN + 16 + wN + (mu - (oN + 16 + wN)) = mu by omega] at x y
        exact hn (x.trans y.symm)
      · have x := c (mu - (oN + 16 + wN + 8)) (by omega)
        have y := HC (mu - (oN + 16 + wN + 8)) (by omega)
        rw [show oN + 16 + wN + 8 + (mu - (oN + 16 + wN + 8)) = mu by omega] at x y
        exact hn (x.trans y.symm)
  have hw3 : wN = 0 ∨ wN = 1 ∨ wN = 2 := by omega
  rcases hw3 with rfl | rfl | rfl
  · refine ⟨fun h => ?_, fun h => ?_⟩
    · have q := own_yes0 (t := tN) hmu HO HP HC ho ht hl (Or.inr trivial) h
      obtain ⟨e1, e2⟩ := hE _ q
      obtain ⟨-, q1, q2, q3⟩ := q
      refine ⟨e1, ⟨fun z => ?_, fun z => ?_⟩, q2, fun z y => ?_, fun z y => ?_⟩
      · exact absurd z (by decide)
      · exact absurd z (by decide)
      · have p := q3 (oN + 16 + 0 + 8 + 17) (by omega) y; rw [← HT z, ← e2]; exact p
      · have p := q3 (oN + 16 + 0 + 8 + 17 + 1) (by omega) y; rw [← HU z, ← e2]; exact p
    · rintro ⟨e1, ⟨a1, a2⟩, a3, a4, a5⟩
      have e2 : ∀ i, bs.getD i 0 = gs.getD i 0 := (h28.resolve_right (fun z => absurd (e1.symm.trans z.1) (by decide))).2
      refine own_no0 (t := tN) hmu HO HP HC ho ht hl h ⟨⟨fun k hk => (e2 _).trans (HO k hk), fun k hk => (e2 _).trans (HP k hk), fun k hk => (e2 _).trans (HC k hk)⟩, fun j hj => ?_, a3, fun j h1 h2 => ?_⟩
      · show isSp (bs.getD (oN + 16 + j) 0)
        rw [e2]
        omega
      · show isSp (bs.getD j 0)
        rw [e2]
        rcases (by omega : j = oN + 16 + 0 + 8 + 17 ∨ j = oN + 16 + 0 + 8 + 17 + 1) with rfl | rfl
        · rw [HT (by omega)]; exact a4 (by omega) h2
        · rw [HU (by omega)]; exact a5 (by omega) h2
  · refine ⟨fun h => ?_, fun h => ?_⟩
    · have q := own_yes1 (t := tN) hmu HO HP HC ho ht hl (Or.inr trivial) h
      obtain ⟨e1, e2⟩ := hE _ q
      obtain ⟨-, q1, q2, q3⟩ := q
      refine ⟨e1, ⟨fun z => ?_, fun z => ?_⟩, q2, fun z y => ?_, fun z y => ?_⟩
      · have p := q1 0 (by decide); rw [← HA z, ← e2]; exact p
      · exact absurd z (by decide)
      · have p := q3 (oN + 16 + 1 + 8 + 17) (by omega) y; rw [← HT z, ← e2]; exact p
      · have p := q3 (oN + 16 + 1 + 8 + 17 + 1) (by omega) y; rw [← HU z, ← e2]; exact p
    · rintro ⟨e1, ⟨a1, a2⟩, a3, a4, a5⟩
      have e2 : ∀ i, bs.getD i 0 = gs.getD i 0 := (h28.resolve_right (fun z => absurd (e1.symm.trans z.1) (by decide))).2
      refine own_no1 (t := tN) hmu HO HP HC ho ht hl h ⟨⟨fun k hk => (e2 _).trans (HO k hk), fun k hk => (e2 _).trans (HP k hk), fun k hk => (e2 _).trans (HC k hk)⟩, fun j hj => ?_, a3, fun j h1 h2 => ?_⟩
      · show isSp (bs.getD (oN + 16 + j) 0)
        rw [e2]
        obtain rfl : j = 0 := by omega
        rw [show oN + 16 + 0 = oN + 16 from rfl, HA (by decide)]; exact a1 (by decide)
      · show isSp (bs.getD j 0)
        rw [e2]
        rcases (by omega : j = oN + 16 + 1 + 8 + 17 ∨ j = oN + 16 + 1 + 8 + 17 + 1) with rfl | rfl
        · rw [HT (by omega)]; exact a4 (by omega) h2
        · rw [HU (by omega)]; exact a5 (by omega) h2
  · refine ⟨fun h => ?_, fun h => ?_⟩
    · have q := own_yes2 (t := tN) hmu HO HP HC ho ht hl (Or.inr trivial) h
      obtain ⟨e1, e2⟩ := hE _ q
      obtain ⟨-, q1, q2, q3⟩ := q
      refine ⟨e1, ⟨fun z => ?_, fun z => ?_⟩, q2, fun z y => ?_, fun z y => ?_⟩
      · have p := q1 0 (by decide); rw [← HA z, ← e2]; exact p
      · have p := q1 1 (by decide); rw [← HB z, ← e2]; exact p
      · have p := q3 (oN + 16 + 2 + 8 + 17) (by omega) y; rw [← HT z, ← e2]; exact p
      · have p := q3 (oN + 16 + 2 + 8 + 17 + 1) (by omega) y; rw [← HU z, ← e2]; exact p
    · rintro ⟨e1, ⟨a1, a2⟩, a3, a4, a5⟩
      have e2 : ∀ i, bs.getD i 0 = gs.getD i 0 := (h28.resolve_right (fun z => absurd (e1.symm.trans z.1) (by decide))).2
      refine own_no2 (t := tN) hmu HO HP HC ho ht hl h ⟨⟨fun k hk => (e2 _).trans (HO k hk), fun k hk => (e2 _).trans (HP k hk), fun k hk => (e2 _).trans (HC k hk)⟩, fun j hj => ?_, a3, fun j h1 h2 => ?_⟩
      · show isSp (bs.getD (oN + 16 + j) 0)
        rw [e2]
        rcases (by omega : j = 0 ∨ j = 1) with rfl | rfl
        · rw [show oN + 16 + 0 = oN + 16 from rfl, HA (by decide)]; exact a1 (by decide)
        · rw [show oN + 16 + 1 = oN + 17 from rfl, HB (by decide)]; exact a2 (by decide)
      · show isSp (bs.getD j 0)
        rw [e2]
        rcases (by omega : j = oN + 16 + 2 + 8 + 17 ∨ j = oN + 16 + 2 + 8 + 17 + 1) with rfl | rfl
        · rw [HT (by omega)]; exact a4 (by omega) h2
        · rw [HU (by omega)]; exact a5 (by omega) h2
theorem own_arvS {s : State} {args : Array Value} {t : Term} {x : Addr} (ev : t.eval args s none [] s = some (.ref x)) (ha : (Cond.arrayOf t .byte).value args s none s [] = some true) {z : Int32} (hl : (Cond.eq (.length t) (.int z)).value args s none s [] = some true) {ws : List Int32} (hz : z.toInt = ((ws.length : Nat) : Int))
    (he : ∀ k, k < ws.length → (Cond.eq (.elem t (.int (Int32.ofNat k))) (.int (ws.getD k 0))).value args s none s [] = some true) (hf : ∀ k, k < ws.length → fits .byte (.int (ws.getD k 0)) = true) : ∃ k, Arv s s.heap x k .byte z (ws.map Value.int) (.int (0 : Int32)) := by
  obtain ⟨c, A⟩ := Arr.start ev ha
  have hL := own_eqi (Cond.before_iff.mpr hl)
  obtain ⟨a2, c2, m1, m2, m3, m4⟩ := SB.Term.length_small hL
  cases ev.symm.trans m1
  have hc2 : c2 = c := by
    have q := Arr.fin (U := s) (Vm.Alike.refl _) A
    exact Option.some.inj (m2.symm.trans q)
  subst hc2
  have hsz : c2.slots.size = ws.length := by
    have q : z = c2.slots.size.toInt32 := Value.int.inj m3
    have q2 := len_toInt m4
    rw [← q] at q2
    omega
  have hg : ¬ z < 0 := fun q => by rw [Int32.lt_iff_toInt_lt] at q; have l0 : (0 : Int32).toInt = 0 := rfl; omega
  have hn : z.toNatClampNeg = ws.length := by have q := nat_of hg; omega
  have hat : ∀ i, i < c2.slots.size → c2.slots[i]? = some ((ws.map Value.int).getD i (.int (0 : Int32))) := by
    intro i hi
    have hE := own_eqi (Cond.before_iff.mpr (he i (by omega)))
    have q := (elem_in (j := Int32.ofNat i) hE ev rfl A.1).2
    have h2 : (Int32.ofNat i).toNatClampNeg = i := by
      have z1 : (Int32.ofNat i).toInt = (i : Int) := Int32.toInt_ofNat_of_lt (by omega)
      have z2 := nat_of (j := Int32.ofNat i) (fun q => by rw [Int32.lt_iff_toInt_lt] at q; have l0 : (0 : Int32).toInt = 0 := rfl; omega)
      omega
    rw [h2] at q
    rw [q, own_get]
  exact ⟨c2.cls, c2, A, rfl, by rw [hsz, hn], hg, hat, fun i hi => by rw [own_get]; exact hf i (by omega)⟩
theorem pn_0 : plainName "com/example/wirecall/wirecall/bench/Answers" = true := by first | (simp [plainName, overriddenIn]; done) | decide +kernel
theorem pn_1 : plainName "com/example/wirecall/wirecall/bench/AnswersIsResultPinLaw" = true := by first | (simp [plainName, overriddenIn]; done) | decide +kernel
theorem pd_0 : parseMethodDescriptor "([BII[B)Z" = some ⟨[(.array .byte), .int, .int, (.array .byte)], some .boolean⟩ := by decide +kernel
theorem pd_1 : parseMethodDescriptor "([BI[B)I" = some ⟨[(.array .byte), .int, (.array .byte)], some .int⟩ := by decide +kernel
theorem pd_2 : parseMethodDescriptor "(B)Z" = some ⟨[.byte], some .boolean⟩ := by decide +kernel
theorem pd_3 : parseMethodDescriptor "([BI)V" = some ⟨[(.array .byte), .int], none⟩ := by decide +kernel
theorem pd_4 : parseMethodDescriptor "(I)B" = some ⟨[.int], some .byte⟩ := by decide +kernel
theorem pd_5 : parseMethodDescriptor "([BI)Z" = some ⟨[(.array .byte), .int], some .boolean⟩ := by decide +kernel
theorem d9_0 : decode prog_39_method_6_code 0 = .ok (.iload_n 0, 1) := by decide +kernel
theorem d9_1 : decode prog_39_method_6_code 1 = .ok (.bipush 32, 2) := by decide +kernel
theorem d9_3 : decode prog_39_method_6_code 3 = .ok (.if_icmp .eq 21, 3) := by decide +kernel
theorem d9_6 : decode prog_39_method_6_code 6 = .ok (.iload_n 0, 1) := by decide +kernel
theorem d9_7 : decode prog_39_method_6_code 7 = .ok (.bipush 9, 2) := by decide +kernel
theorem d9_9 : decode prog_39_method_6_code 9 = .ok (.if_icmp .eq 15, 3) := by decide +kernel
theorem d9_12 : decode prog_39_method_6_code 12 = .ok (.iload_n 0, 1) := by decide +kernel
theorem d9_13 : decode prog_39_method_6_code 13 = .ok (.bipush 13, 2) := by decide +kernel
theorem d9_15 : decode prog_39_method_6_code 15 = .ok (.if_icmp .eq 9, 3) := by decide +kernel
theorem d9_18 : decode prog_39_method_6_code 18 = .ok (.iload_n 0, 1) := by decide +kernel
theorem d9_19 : decode prog_39_method_6_code 19 = .ok (.bipush 10, 2) := by decide +kernel
theorem d9_21 : decode prog_39_method_6_code 21 = .ok (.if_icmp .ne 7, 3) := by decide +kernel
theorem d9_24 : decode prog_39_method_6_code 24 = .ok (.iconst 1, 1) := by decide +kernel
theorem d9_25 : decode prog_39_method_6_code 25 = .ok (.goto 4, 3) := by decide +kernel
theorem d9_28 : decode prog_39_method_6_code 28 = .ok (.iconst 0, 1) := by decide +kernel
theorem d9_29 : decode prog_39_method_6_code 29 = .ok (.ireturn, 1) := by decide +kernel
theorem ef_isp (m : MethodId) (x0 : Int32) : entryFrame m #[(.int x0)] 1 = mkF m 0 #[.val (.int x0)] [] := by first | (simp [entryFrame, mkF, argsToLocals, Value.category]; done) | rfl
def Q_isp (Z : State) (wOPEN : Addr) (kOPEN : ClassId) (wCLOSE : Addr) (kCLOSE : ClassId) (wPARAMS : Addr) (kPARAMS : ClassId) (p0 : Int32) (h0 : Heap) (n0 : Nat) (v : Option Value) (h : Heap) (L : List Loc) : Prop := ∃ (r : Int32), v = some (.int r) ∧ Fr n0 L ∧ h = h0 ∧ ((r = 1 ∧ isSp p0) ∨ (r = 0 ∧ ¬ isSp p0))
set_option maxRecDepth 65536 in
set_option maxHeartbeats 40000000 in
theorem rm_isp (l : Launch) (Z : State) (a0 : Array Value) (hw : ∀ d ∈ tables_1, d.before a0 Z = true) (ws : List Jvm.Cond) (wOPEN : Addr) (kOPEN : ClassId) (wCLOSE : Addr) (kCLOSE : ClassId) (wPARAMS : Addr) (kPARAMS : ClassId) (hG : Glob Z wOPEN kOPEN wCLOSE kCLOSE wPARAMS kPARAMS) (p0 : Int32) (h0 : Heap) (n0 : Nat) (Z0 : n0 ≤ h0.size) (O0 : Old Z n0 h0) :
    MetFree l (⟨"com/example/wirecall/wirecall/bench/Answers", "isSpace", "(B)Z"⟩ : MethodName) (head1 (Jvm.Cond.code (⟨"com/example/wirecall/wirecall/bench/Answers", "isSpace", "(B)Z"⟩ : MethodName) prog_39_method_6_code 1 (some .boolean) :: ws) ({ frames := 0, cells := 0, slots := 0, locals := 0 } : Room)) (fun a U => a = #[(.int p0)] ∧ Z.Warmed39 U.vm ∧ U.heap = h0) (fun _ _ _ _ _ => True) (fun _ U o U' => ∃ v L, o = .returned v ∧ Q_isp Z wOPEN kOPEN wCLOSE kCLOSE wPARAMS kPARAMS p0 h0 n0 v U'.heap L ∧ FrameEnd U o U' L ({ frames := 0, cells := 0, slots := 0, locals := 0 } : Room).cells ({ frames := 0, cells := 0, slots := 0, locals := 0 } : Room).slots) := by
  refine MetFree.of_bodySF (plainFor_of_name pn_0) hisR ?_
  intro p e s m args below meth c s₁ Bd hml0 hP hK
  obtain ⟨rfl, hZ, hh⟩ := hP
  have hx := Bd.exec
  have hby := Bd.bytes
  have hml : c.maxLocals = 1 := hml0
  have hown : s.vm.findClass "com/example/wirecall/wirecall/bench/Answers" = some m.cls := findClass_of_methodNamed Bd.named
  have hnm := (name_of_methodNamed Bd.named Bd.method).1
  have hlk : meth.locks = false := BodyLoose.notSynchronized Bd
  have X0 : Stand p l e ({ frames := 0, cells := 0, slots := 0, locals := 0 } : Room) s m #[(.int p0)] below meth c s₁ [] 0 0 := Stand.of_body Bd
  have e0 : s₁.heap = h0 := by rw [← hh, Bd.state]; rfl
  have N0 := Fr.nil n0
  obtain ⟨G0, G1, G2, G3, G4, G5⟩ := id hG
  show Go p e below (End s (Q_isp Z wOPEN kOPEN wCLOSE kCLOSE wPARAMS kPARAMS p0 h0 n0) ({ frames := 0, cells := 0, slots := 0, locals := 0 } : Room).cells ({ frames := 0, cells := 0, slots := 0, locals := 0 } : Room).slots) (s₁.setTop (entryFrame m #[(.int p0)] 1))
  rw [ef_isp]
  generalize hP : End s (Q_isp Z wOPEN kOPEN wCLOSE kCLOSE wPARAMS kPARAMS p0 h0 n0) ({ frames := 0, cells := 0, slots := 0, locals := 0 } : Room).cells ({ frames := 0, cells := 0, slots := 0, locals := 0 } : Room).slots = P
  show Go p e below P (s₁.setTop (mkF m 0 #[.val (.int p0)] []))
  refine Go.by (fun _ => XS.iloadN X0.here hx rfl (hb hby d9_0) rfl) ?_
  show Go p e below P (s₁.setTop (mkF m 1 #[.val (.int p0)] [(.int p0)]))
  refine Go.by (fun _ => XS.bipush X0.here hx rfl (hb hby d9_1)) ?_
  show Go p e below P (s₁.setTop (mkF m 3 #[.val (.int p0)] [(.int (32 : Int32)), (.int p0)]))
  by_cases hc3 : p0 = (32 : Int32)
  · refine Go.by (fun _ => XS.icmpYes X0.here hx rfl (pc0 := 3) (pc' := 24) rfl (hb hby d9_3) rfl (teq hc3).1 (by decide) (by decide)) ?_
    show Go p e below P (s₁.setTop (mkF m 24 #[.val (.int p0)] []))
    refine Go.by (fun _ => XS.iconst X0.here hx rfl (hb hby d9_24)) ?_
    show Go p e below P (s₁.setTop (mkF m 25 #[.val (.int p0)] [(.int (1 : Int32))]))
    refine Go.by (fun _ => XS.goto X0.here hx rfl (pc0 := 25) (pc' := 29) rfl (hb hby d9_25) (by decide) (by decide)) ?_
    show Go p e below P (s₁.setTop (mkF m 29 #[.val (.int p0)] [(.int (1 : Int32))]))
    subst hP
    refine Go.retZ X0 hx (t := .boolean) Bd.returns (by simp) hlk (hb hby d9_29) (Nat.le_of_ble_eq_true rfl) (Nat.le_of_ble_eq_true rfl) ?_
    rw [e0]
    exact ⟨_, rfl, N0, rfl, Or.inl ⟨rfl, by simp [isSp, hc3]⟩⟩
  · refine Go.by (fun _ => XS.icmpNo X0.here hx rfl (hb hby d9_3) rfl (feq hc3).1) ?_
    show Go p e below P (s₁.setTop (mkF m 6 #[.val (.int p0)] []))
    refine Go.by (fun _ => XS.iloadN X0.here hx rfl (hb hby d9_6) rfl) ?_
    show Go p e below P (s₁.setTop (mkF m 7 #[.val (.int p0)] [(.int p0)]))
    refine Go.by (fun _ => XS.bipush X0.here hx rfl (hb hby d9_7)) ?_
    show Go p e below P (s₁.setTop (mkF m 9 #[.val (.int p0)] [(.int (9 : Int32)), (.int p0)]))
    by_cases hc9 : p0 = (9 : Int32)
    · refine Go.by (fun _ => XS.icmpYes X0.here hx rfl (pc0 := 9) (pc' := 24) rfl (hb hby d9_9) rfl (teq hc9).1 (by decide) (by decide)) ?_
      show Go p e below P (s₁.setTop (mkF m 24 #[.val (.int p0)] []))
      refine Go.by (fun _ => XS.iconst X0.here hx rfl (hb hby d9_24)) ?_
      show Go p e below P (s₁.setTop (mkF m 25 #[.val (.int p0)] [(.int (1 : Int32))]))
      refine Go.by (fun _ => XS.goto X0.here hx rfl (pc0 := 25) (pc' := 29) rfl (hb hby d9_25) (by decide) (by decide)) ?_
      show Go p e below P (s₁.setTop (mkF m 29 #[.val (.int p0)] [(.int (1 : Int32))]))
      subst hP
      refine Go.retZ X0 hx (t := .boolean) Bd.returns (by simp) hlk (hb hby d9_29) (Nat.le_of_ble_eq_true rfl) (Nat.le_of_ble_eq_true rfl) ?_
      rw [e0]
      exact ⟨_, rfl, N0, rfl, Or.inl ⟨rfl, by simp [isSp, hc3, hc9]⟩⟩
    · refine Go.by (fun _ => XS.icmpNo X0.here hx rfl (hb hby d9_9) rfl (feq hc9).1) ?_
      show Go p e below P (s₁.setTop (mkF m 12 #[.val (.int p0)] []))
      refine Go.by (fun _ => XS.iloadN X0.here hx rfl (hb hby d9_12) rfl) ?_
      show Go p e below P (s₁.setTop (mkF m 13 #[.val (.int p0)] [(.int p0)]))
      refine Go.by (fun _ => XS.bipush X0.here hx rfl (hb hby d9_13)) ?_
      show Go p e below P (s₁.setTop (mkF m 15 #[.val (.int p0)] [(.int (13 : Int32)), (.int p0)]))
      by_cases hc15 : p0 = (13 : Int32)
      · refine Go.by (fun _ => XS.icmpYes X0.here hx rfl (pc0 := 15) (pc' := 24) rfl (hb hby d9_15) rfl (teq hc15).1 (by decide) (by decide)) ?_
        show Go p e below P (s₁.setTop (mkF m 24 #[.val (.int p0)] []))
        refine Go.by (fun _ => XS.iconst X0.here hx rfl (hb hby d9_24)) ?_
        show Go p e below P (s₁.setTop (mkF m 25 #[.val (.int p0)] [(.int (1 : Int32))]))
        refine Go.by (fun _ => XS.goto X0.here hx rfl (pc0 := 25) (pc' := 29) rfl (hb hby d9_25) (by decide) (by decide)) ?_
        show Go p e below P (s₁.setTop (mkF m 29 #[.val (.int p0)] [(.int (1 : Int32))]))
        subst hP
        refine Go.retZ X0 hx (t := .boolean) Bd.returns (by simp) hlk (hb hby d9_29) (Nat.le_of_ble_eq_true rfl) (Nat.le_of_ble_eq_true rfl) ?_
        rw [e0]
        exact ⟨_, rfl, N0, rfl, Or.inl ⟨rfl, by simp [isSp, hc3, hc9, hc15]⟩⟩
      · refine Go.by (fun _ => XS.icmpNo X0.here hx rfl (hb hby d9_15) rfl (feq hc15).1) ?_
        show Go p e below P (s₁.setTop (mkF m 18 #[.val (.int p0)] []))
        refine Go.by (fun _ => XS.iloadN X0.here hx rfl (hb hby d9_18) rfl) ?_
        show Go p e below P (s₁.setTop (mkF m 19 #[.val (.int p0)] [(.int p0)]))
        refine Go.by (fun _ => XS.bipush X0.here hx rfl (hb hby d9_19)) ?_
        show Go p e below P (s₁.setTop (mkF m 21 #[.val (.int p0)] [(.int (10 : Int32)), (.int p0)]))
        by_cases hc21 : p0 = (10 : Int32)
        · refine Go.by (fun _ => XS.icmpNo X0.here hx rfl (hb hby d9_21) rfl (teq hc21).2) ?_
          show Go p e below P (s₁.setTop (mkF m 24 #[.val (.int p0)] []))
          refine Go.by (fun _ => XS.iconst X0.here hx rfl (hb hby d9_24)) ?_
          show Go p e below P (s₁.setTop (mkF m 25 #[.val (.int p0)] [(.int (1 : Int32))]))
          refine Go.by (fun _ => XS.goto X0.here hx rfl (pc0 := 25) (pc' := 29) rfl (hb hby d9_25) (by decide) (by decide)) ?_
          show Go p e below P (s₁.setTop (mkF m 29 #[.val (.int p0)] [(.int (1 : Int32))]))
          subst hP
          refine Go.retZ X0 hx (t := .boolean) Bd.returns (by simp) hlk (hb hby d9_29) (Nat.le_of_ble_eq_true rfl) (Nat.le_of_ble_eq_true rfl) ?_
          rw [e0]
          exact ⟨_, rfl, N0, rfl, Or.inl ⟨rfl, by simp [isSp, hc3, hc9, hc15, hc21]⟩⟩
        · refine Go.by (fun _ => XS.icmpYes X0.here hx rfl (pc0 := 21) (pc' := 28) rfl (hb hby d9_21) rfl (feq hc21).2 (by decide) (by decide)) ?_
          show Go p e below P (s₁.setTop (mkF m 28 #[.val (.int p0)] []))
          refine Go.by (fun _ => XS.iconst X0.here hx rfl (hb hby d9_28)) ?_
          show Go p e below P (s₁.setTop (mkF m 29 #[.val (.int p0)] [(.int (0 : Int32))]))
          subst hP
          refine Go.retZ X0 hx (t := .boolean) Bd.returns (by simp) hlk (hb hby d9_29) (Nat.le_of_ble_eq_true rfl) (Nat.le_of_ble_eq_true rfl) ?_
          rw [e0]
          exact ⟨_, rfl, N0, rfl, Or.inr ⟨rfl, by simp [isSp, hc3, hc9, hc15, hc21]⟩⟩
theorem d5_0 : decode method_2_code 0 = .ok (.iload_n 0, 1) := by decide +kernel
theorem d5_1 : decode method_2_code 1 = .ok (.bipush 32, 2) := by decide +kernel
theorem d5_3 : decode method_2_code 3 = .ok (.if_icmp .eq 21, 3) := by decide +kernel
theorem d5_6 : decode method_2_code 6 = .ok (.iload_n 0, 1) := by decide +kernel
theorem d5_7 : decode method_2_code 7 = .ok (.bipush 9, 2) := by decide +kernel
theorem d5_9 : decode method_2_code 9 = .ok (.if_icmp .eq 15, 3) := by decide +kernel
theorem d5_12 : decode method_2_code 12 = .ok (.iload_n 0, 1) := by decide +kernel
theorem d5_13 : decode method_2_code 13 = .ok (.bipush 13, 2) := by decide +kernel
theorem d5_15 : decode method_2_code 15 = .ok (.if_icmp .eq 9, 3) := by decide +kernel
theorem d5_18 : decode method_2_code 18 = .ok (.iload_n 0, 1) := by decide +kernel
theorem d5_19 : decode method_2_code 19 = .ok (.bipush 10, 2) := by decide +kernel
theorem d5_21 : decode method_2_code 21 = .ok (.if_icmp .ne 7, 3) := by decide +kernel
theorem d5_24 : decode method_2_code 24 = .ok (.iconst 1, 1) := by decide +kernel
theorem d5_25 : decode method_2_code 25 = .ok (.goto 4, 3) := by decide +kernel
theorem d5_28 : decode method_2_code 28 = .ok (.iconst 0, 1) := by decide +kernel
theorem d5_29 : decode method_2_code 29 = .ok (.ireturn, 1) := by decide +kernel
theorem ef_sp (m : MethodId) (x0 : Int32) : entryFrame m #[(.int x0)] 1 = mkF m 0 #[.val (.int x0)] [] := by first | (simp [entryFrame, mkF, argsToLocals, Value.category]; done) | rfl
def Q_sp (Z : State) (wOPEN : Addr) (kOPEN : ClassId) (wCLOSE : Addr) (kCLOSE : ClassId) (wPARAMS : Addr) (kPARAMS : ClassId) (p0 : Int32) (h0 : Heap) (n0 : Nat) (v : Option Value) (h : Heap) (L : List Loc) : Prop := ∃ (r : Int32), v = some (.int r) ∧ Fr n0 L ∧ h = h0 ∧ ((r = 1 ∧ isSp p0) ∨ (r = 0 ∧ ¬ isSp p0))
set_option maxRecDepth 65536 in
set_option maxHeartbeats 40000000 in
theorem rm_sp (l : Launch) (Z : State) (a0 : Array Value) (hw : ∀ d ∈ tables_1, d.before a0 Z = true) (ws : List Jvm.Cond) (wOPEN : Addr) (kOPEN : ClassId) (wCLOSE : Addr) (kCLOSE : ClassId) (wPARAMS : Addr) (kPARAMS : ClassId) (hG : Glob Z wOPEN kOPEN wCLOSE kCLOSE wPARAMS kPARAMS) (p0 : Int32) (h0 : Heap) (n0 : Nat) (Z0 : n0 ≤ h0.size) (O0 : Old Z n0 h0) :
    MetFree l (⟨"com/example/wirecall/wirecall/bench/AnswersIsResultPinLaw", "sp", "(B)Z"⟩ : MethodName) (head1 (Jvm.Cond.code (⟨"com/example/wirecall/wirecall/bench/AnswersIsResultPinLaw", "sp", "(B)Z"⟩ : MethodName) method_2_code 1 (some .boolean) :: ws) ({ frames := 0, cells := 0, slots := 0, locals := 0 } : Room)) (fun a U => a = #[(.int p0)] ∧ Z.Warmed39 U.vm ∧ U.heap = h0) (fun _ _ _ _ _ => True) (fun _ U o U' => ∃ v L, o = .returned v ∧ Q_sp Z wOPEN kOPEN wCLOSE kCLOSE wPARAMS kPARAMS p0 h0 n0 v U'.heap L ∧ FrameEnd U o U' L ({ frames := 0, cells := 0, slots := 0, locals := 0 } : Room).cells ({ frames := 0, cells := 0, slots := 0, locals := 0 } : Room).slots) := by
  refine MetFree.of_bodySF (plainFor_of_name pn_1) hisR ?_
  intro p e s m args below meth c s₁ Bd hml0 hP hK
  obtain ⟨rfl, hZ, hh⟩ := hP
  have hx := Bd.exec
  have hby := Bd.bytes
  have hml : c.maxLocals = 1 := hml0
  have hown : s.vm.findClass "com/example/wirecall/wirecall/bench/AnswersIsResultPinLaw" = some m.cls := findClass_of_methodNamed Bd.named
  have hnm := (name_of_methodNamed Bd.named Bd.method).1
  have hlk : meth.locks = false := BodyLoose.notSynchronized Bd
  have X0 : Stand p l e ({ frames := 0, cells := 0, slots := 0, locals := 0 } : Room) s m #[(.int p0)] below meth c s₁ [] 0 0 := Stand.of_body Bd
  have e0 : s₁.heap = h0 := by rw [← hh, Bd.state]; rfl
  have N0 := Fr.nil n0
  obtain ⟨G0, G1, G2, G3, G4, G5⟩ := id hG
  show Go p e below (End s (Q_sp Z wOPEN kOPEN wCLOSE kCLOSE wPARAMS kPARAMS p0 h0 n0) ({ frames := 0, cells := 0, slots := 0, locals := 0 } : Room).cells ({ frames := 0, cells := 0, slots := 0, locals := 0 } : Room).slots) (s₁.setTop (entryFrame m #[(.int p0)] 1))
  rw [ef_sp]
  generalize hP : End s (Q_sp Z wOPEN kOPEN wCLOSE kCLOSE wPARAMS kPARAMS p0 h0 n0) ({ frames := 0, cells := 0, slots := 0, locals := 0 } : Room).cells ({ frames := 0, cells := 0, slots := 0, locals := 0 } : Room).slots = P
  show Go p e below P (s₁.setTop (mkF m 0 #[.val (.int p0)] []))
  refine Go.by (fun _ => XS.iloadN X0.here hx rfl (hb hby d5_0) rfl) ?_
  show Go p e below P (s₁.setTop (mkF m 1 #[.val (.int p0)] [(.int p0)]))
  refine Go.by (fun _ => XS.bipush X0.here hx rfl (hb hby d5_1)) ?_
  show Go p e below P (s₁.setTop (mkF m 3 #[.val (.int p0)] [(.int (32 : Int32)), (.int p0)]))
  by_cases hc3 : p0 = (32 : Int32)
  · refine Go.by (fun _ => XS.icmpYes X0.here hx rfl (pc0 := 3) (pc' := 24) rfl (hb hby d5_3) rfl (teq hc3).1 (by decide) (by decide)) ?_
    show Go p e below P (s₁.setTop (mkF m 24 #[.val (.int p0)] []))
    refine Go.by (fun _ => XS.iconst X0.here hx rfl (hb hby d5_24)) ?_
    show Go p e below P (s₁.setTop (mkF m 25 #[.val (.int p0)] [(.int (1 : Int32))]))
    refine Go.by (fun _ => XS.goto X0.here hx rfl (pc0 := 25) (pc' := 29) rfl (hb hby d5_25) (by decide) (by decide)) ?_
    show Go p e below P (s₁.setTop (mkF m 29 #[.val (.int p0)] [(.int (1 : Int32))]))
    subst hP
    refine Go.retZ X0 hx (t := .boolean) Bd.returns (by simp) hlk (hb hby d5_29) (Nat.le_of_ble_eq_true rfl) (Nat.le_of_ble_eq_true rfl) ?_
    rw [e0]
    exact ⟨_, rfl, N0, rfl, Or.inl ⟨rfl, by simp [isSp, hc3]⟩⟩
  · refine Go.by (fun _ => XS.icmpNo X0.here hx rfl (hb hby d5_3) rfl (feq hc3).1) ?_
    show Go p e below P (s₁.setTop (mkF m 6 #[.val (.int p0)] []))
    refine Go.by (fun _ => XS.iloadN X0.here hx rfl (hb hby d5_6) rfl) ?_
    show Go p e below P (s₁.setTop (mkF m 7 #[.val (.int p0)] [(.int p0)]))
    refine Go.by (fun _ => XS.bipush X0.here hx rfl (hb hby d5_7)) ?_
    show Go p e below P (s₁.setTop (mkF m 9 #[.val (.int p0)] [(.int (9 : Int32)), (.int p0)]))
    by_cases hc9 : p0 = (9 : Int32)
    · refine Go.by (fun _ => XS.icmpYes X0.here hx rfl (pc0 := 9) (pc' := 24) rfl (hb hby d5_9) rfl (teq hc9).1 (by decide) (by decide)) ?_
      show Go p e below P (s₁.setTop (mkF m 24 #[.val (.int p0)] []))
      refine Go.by (fun _ => XS.iconst X0.here hx rfl (hb hby d5_24)) ?_
      show Go p e below P (s₁.setTop (mkF m 25 #[.val (.int p0)] [(.int (1 : Int32))]))
      refine Go.by (fun _ => XS.goto X0.here hx rfl (pc0 := 25) (pc' := 29) rfl (hb hby d5_25) (by decide) (by decide)) ?_
      show Go p e below P (s₁.setTop (mkF m 29 #[.val (.int p0)] [(.int (1 : Int32))]))
      subst hP
      refine Go.retZ X0 hx (t := .boolean) Bd.returns (by simp) hlk (hb hby d5_29) (Nat.le_of_ble_eq_true rfl) (Nat.le_of_ble_eq_true rfl) ?_
      rw [e0]
      exact ⟨_, rfl, N0, rfl, Or.inl ⟨rfl, by simp [isSp, hc3, hc9]⟩⟩
    · refine Go.by (fun _ => XS.icmpNo X0.here hx rfl (hb hby d5_9) rfl (feq hc9).1) ?_
      show Go p e below P (s₁.setTop (mkF m 12 #[.val (.int p0)] []))
      refine Go.by (fun _ => XS.iloadN X0.here hx rfl (hb hby d5_12) rfl) ?_
      show Go p e below P (s₁.setTop (mkF m 13 #[.val (.int p0)] [(.int p0)]))
      refine Go.by (fun _ => XS.bipush X0.here hx rfl (hb hby d5_13)) ?_
      show Go p e below P (s₁.setTop (mkF m 15 #[.val (.int p0)] [(.int (13 : Int32)), (.int p0)]))
      by_cases hc15 : p0 = (13 : Int32)
      · refine Go.by (fun _ => XS.icmpYes X0.here hx rfl (pc0 := 15) (pc' := 24) rfl (hb hby d5_15) rfl (teq hc15).1 (by decide) (by decide)) ?_
        show Go p e below P (s₁.setTop (mkF m 24 #[.val (.int p0)] []))
        refine Go.by (fun _ => XS.iconst X0.here hx rfl (hb hby d5_24)) ?_
        show Go p e below P (s₁.setTop (mkF m 25 #[.val (.int p0)] [(.int (1 : Int32))]))
        refine Go.by (fun _ => XS.goto X0.here hx rfl (pc0 := 25) (pc' := 29) rfl (hb hby d5_25) (by decide) (by decide)) ?_
        show Go p e below P (s₁.setTop (mkF m 29 #[.val (.int p0)] [(.int (1 : Int32))]))
        subst hP
        refine Go.retZ X0 hx (t := .boolean) Bd.returns (by simp) hlk (hb hby d5_29) (Nat.le_of_ble_eq_true rfl) (Nat.le_of_ble_eq_true rfl) ?_
        rw [e0]
        exact ⟨_, rfl, N0, rfl, Or.inl ⟨rfl, by simp [isSp, hc3, hc9, hc15]⟩⟩
      · refine Go.by (fun _ => XS.icmpNo X0.here hx rfl (hb hby d5_15) rfl (feq hc15).1) ?_
        show Go p e below P (s₁.setTop (mkF m 18 #[.val (.int p0)] []))
        refine Go.by (fun _ => XS.iloadN X0.here hx rfl (hb hby d5_18) rfl) ?_
        show Go p e below P (s₁.setTop (mkF m 19 #[.val (.int p0)] [(.int p0)]))
        refine Go.by (fun _ => XS.bipush X0.here hx rfl (hb hby d5_19)) ?_
        show Go p e below P (s₁.setTop (mkF m 21 #[.val (.int p0)] [(.int (10 : Int32)), (.int p0)]))
        by_cases hc21 : p0 = (10 : Int32)
        · refine Go.by (fun _ => XS.icmpNo X0.here hx rfl (hb hby d5_21) rfl (teq hc21).2) ?_
          show Go p e below P (s₁.setTop (mkF m 24 #[.val (.int p0)] []))
          refine Go.by (fun _ => XS.iconst X0.here hx rfl (hb hby d5_24)) ?_
          show Go p e below P (s₁.setTop (mkF m 25 #[.val (.int p0)] [(.int (1 : Int32))]))
          refine Go.by (fun _ => XS.goto X0.here hx rfl (pc0 := 25) (pc' := 29) rfl (hb hby d5_25) (by decide) (by decide)) ?_
          show Go p e below P (s₁.setTop (mkF m 29 #[.val (.int p0)] [(.int (1 : Int32))]))
          subst hP
          refine Go.retZ X0 hx (t := .boolean) Bd.returns (by simp) hlk (hb hby d5_29) (Nat.le_of_ble_eq_true rfl) (Nat.le_of_ble_eq_true rfl) ?_
          rw [e0]
          exact ⟨_, rfl, N0, rfl, Or.inl ⟨rfl, by simp [isSp, hc3, hc9, hc15, hc21]⟩⟩
        · refine Go.by (fun _ => XS.icmpYes X0.here hx rfl (pc0 := 21) (pc' := 28) rfl (hb hby d5_21) rfl (feq hc21).2 (by decide) (by decide)) ?_
          show Go p e below P (s₁.setTop (mkF m 28 #[.val (.int p0)] []))
          refine Go.by (fun _ => XS.iconst X0.here hx rfl (hb hby d5_28)) ?_
          show Go p e below P (s₁.setTop (mkF m 29 #[.val (.int p0)] [(.int (0 : Int32))]))
          subst hP
          refine Go.retZ X0 hx (t := .boolean) Bd.returns (by simp) hlk (hb hby d5_29) (Nat.le_of_ble_eq_true rfl) (Nat.le_of_ble_eq_true rfl) ?_
          rw [e0]
          exact ⟨_, rfl, N0, rfl, Or.inr ⟨rfl, by simp [isSp, hc3, hc9, hc15, hc21]⟩⟩
theorem d2_0 : decode method_3_code 0 = .ok (.iload_n 0, 1) := by decide +kernel
theorem d2_1 : decode method_3_code 1 = .ok (.bipush 7, 2) := by decide +kernel
theorem d2_3 : decode method_3_code 3 = .ok (.iand, 1) := by decide +kernel
theorem d2_4 : decode method_3_code 4 = .ok (.istore_n 1, 1) := by decide +kernel
theorem d2_5 : decode method_3_code 5 = .ok (.iload_n 1, 1) := by decide +kernel
theorem d2_6 : decode method_3_code 6 = .ok (.ifCond .ne 6, 3) := by decide +kernel
theorem d2_9 : decode method_3_code 9 = .ok (.bipush 32, 2) := by decide +kernel
theorem d2_11 : decode method_3_code 11 = .ok (.ireturn, 1) := by decide +kernel
theorem d2_12 : decode method_3_code 12 = .ok (.iload_n 1, 1) := by decide +kernel
theorem d2_13 : decode method_3_code 13 = .ok (.iconst 1, 1) := by decide +kernel
theorem d2_14 : decode method_3_code 14 = .ok (.if_icmp .ne 6, 3) := by decide +kernel
theorem d2_17 : decode method_3_code 17 = .ok (.bipush 9, 2) := by decide +kernel
theorem d2_19 : decode method_3_code 19 = .ok (.ireturn, 1) := by decide +kernel
theorem d2_20 : decode method_3_code 20 = .ok (.iload_n 1, 1) := by decide +kernel
theorem d2_21 : decode method_3_code 21 = .ok (.iconst 2, 1) := by decide +kernel
theorem d2_22 : decode method_3_code 22 = .ok (.if_icmp .ne 6, 3) := by decide +kernel
theorem d2_25 : decode method_3_code 25 = .ok (.bipush 13, 2) := by decide +kernel
theorem d2_27 : decode method_3_code 27 = .ok (.ireturn, 1) := by decide +kernel
theorem d2_28 : decode method_3_code 28 = .ok (.iload_n 1, 1) := by decide +kernel
theorem d2_29 : decode method_3_code 29 = .ok (.iconst 3, 1) := by decide +kernel
theorem d2_30 : decode method_3_code 30 = .ok (.if_icmp .ne 6, 3) := by decide +kernel
theorem d2_33 : decode method_3_code 33 = .ok (.bipush 10, 2) := by decide +kernel
theorem d2_35 : decode method_3_code 35 = .ok (.ireturn, 1) := by decide +kernel
theorem d2_36 : decode method_3_code 36 = .ok (.iload_n 0, 1) := by decide +kernel
theorem d2_37 : decode method_3_code 37 = .ok (.iconst 3, 1) := by decide +kernel
theorem d2_38 : decode method_3_code 38 = .ok (.iushr, 1) := by decide +kernel
theorem d2_39 : decode method_3_code 39 = .ok (.i2b, 1) := by decide +kernel
theorem d2_40 : decode method_3_code 40 = .ok (.ireturn, 1) := by decide +kernel
theorem ef_pick (m : MethodId) (x0 : Int32) : entryFrame m #[(.int x0)] 2 = mkF m 0 #[.val (.int x0), .unset] [] := by first | (simp [entryFrame, mkF, argsToLocals, Value.category]; done) | rfl
def Q_pick (Z : State) (wOPEN : Addr) (kOPEN : ClassId) (wCLOSE : Addr) (kCLOSE : ClassId) (wPARAMS : Addr) (kPARAMS : ClassId) (p0 : Int32) (h0 : Heap) (n0 : Nat) (v : Option Value) (h : Heap) (L : List Loc) : Prop := ∃ (r : Int32), v = some (.int r) ∧ Fr n0 L ∧ h = h0 ∧ nar .byte r = r
set_option maxRecDepth 65536 in
set_option maxHeartbeats 40000000 in
theorem rm_pick (l : Launch) (Z : State) (a0 : Array Value) (hw : ∀ d ∈ tables_1, d.before a0 Z = true) (ws : List Jvm.Cond) (wOPEN : Addr) (kOPEN : ClassId) (wCLOSE : Addr) (kCLOSE : ClassId) (wPARAMS : Addr) (kPARAMS : ClassId) (hG : Glob Z wOPEN kOPEN wCLOSE kCLOSE wPARAMS kPARAMS) (p0 : Int32) (h0 : Heap) (n0 : Nat) (Z0 : n0 ≤ h0.size) (O0 : Old Z n0 h0) :
    MetFree l (⟨"com/example/wirecall/wirecall/bench/AnswersIsResultPinLaw", "pick", "(I)B"⟩ : MethodName) (head1 (Jvm.Cond.code (⟨"com/example/wirecall/wirecall/bench/AnswersIsResultPinLaw", "pick", "(I)B"⟩ : MethodName) method_3_code 2 (some .byte) :: ws) ({ frames := 0, cells := 0, slots := 0, locals := 0 } : Room)) (fun a U => a = #[(.int p0)] ∧ Z.Warmed39 U.vm ∧ U.heap = h0) (fun _ _ _ _ _ => True) (fun _ U o U' => ∃ v L, o = .returned v ∧ Q_pick Z wOPEN kOPEN wCLOSE kCLOSE wPARAMS kPARAMS p0 h0 n0 v U'.heap L ∧ FrameEnd U o U' L ({ frames := 0, cells := 0, slots := 0, locals := 0 } : Room).cells ({ frames := 0, cells := 0, slots := 0, locals := 0 } : Room).slots) := by
  refine MetFree.of_bodySF (plainFor_of_name pn_1) hisR ?_
  intro p e s m args below meth c s₁ Bd hml0 hP hK
  obtain ⟨rfl, hZ, hh⟩ := hP
  have hx := Bd.exec
  have hby := Bd.bytes
  have hml : c.maxLocals = 2 := hml0
  have hown : s.vm.findClass "com/example/wirecall/wirecall/bench/AnswersIsResultPinLaw" = some m.cls := findClass_of_methodNamed Bd.named
  have hnm := (name_of_methodNamed Bd.named Bd.method).1
  have hlk : meth.locks = false := BodyLoose.notSynchronized Bd
  have X0 : Stand p l e ({ frames := 0, cells := 0, slots := 0, locals := 0 } : Room) s m #[(.int p0)] below meth c s₁ [] 0 0 := Stand.of_body Bd
  have e0 : s₁.heap = h0 := by rw [← hh, Bd.state]; rfl
  have N0 := Fr.nil n0
  obtain ⟨G0, G1, G2, G3, G4, G5⟩ := id hG
  show Go p e below (End s (Q_pick Z wOPEN kOPEN wCLOSE kCLOSE wPARAMS kPARAMS p0 h0 n0) ({ frames := 0, cells := 0, slots := 0, locals := 0 } : Room).cells ({ frames := 0, cells := 0, slots := 0, locals := 0 } : Room).slots) (s₁.setTop (entryFrame m #[(.int p0)] 2))
  rw [ef_pick]
  generalize hP : End s (Q_pick Z wOPEN kOPEN wCLOSE kCLOSE wPARAMS kPARAMS p0 h0 n0) ({ frames := 0, cells := 0, slots := 0, locals := 0 } : Room).cells ({ frames := 0, cells := 0, slots := 0, locals := 0 } : Room).slots = P
  show Go p e below P (s₁.setTop (mkF m 0 #[.val (.int p0), .unset] []))
  refine Go.by (fun _ => XS.iloadN X0.here hx rfl (hb hby d2_0) rfl) ?_
  show Go p e below P (s₁.setTop (mkF m 1 #[.val (.int p0), .unset] [(.int p0)]))
  refine Go.by (fun _ => XS.bipush X0.here hx rfl (hb hby d2_1)) ?_
  show Go p e below P (s₁.setTop (mkF m 3 #[.val (.int p0), .unset] [(.int (7 : Int32)), (.int p0)]))
  refine Go.by (fun _ => XS.iand X0.here hx rfl (hb hby d2_3) rfl) ?_
  show Go p e below P (s₁.setTop (mkF m 4 #[.val (.int p0), .unset] [(.int (p0 &&& (7 : Int32)))]))
  refine Go.by (fun _ => XS.istoreN X0.here hx rfl (g := (mkF m 4 #[.val (.int p0), .unset] [(.int (p0 &&& (7 : Int32)))])) (hb hby d2_4) rfl (l' := #[.val (.int p0), .val (.int (p0 &&& (7 : Int32)))]) rfl) ?_
  show Go p e below P (s₁.setTop (mkF m 5 #[.val (.int p0), .val (.int (p0 &&& (7 : Int32)))] []))
  refine Go.by (fun _ => XS.iloadN X0.here hx rfl (hb hby d2_5) rfl) ?_
  show Go p e below P (s₁.setTop (mkF m 6 #[.val (.int p0), .val (.int (p0 &&& (7 : Int32)))] [(.int (p0 &&& (7 : Int32)))]))
  by_cases hc6 : (p0 &&& (7 : Int32)) = (0 : Int32)
  · refine Go.by (fun _ => XS.ifNo X0.here hx rfl (hb hby d2_6) rfl ((if0 _ _).trans (teq hc6).2)) ?_
    show Go p e below P (s₁.setTop (mkF m 9 #[.val (.int p0), .val (.int (p0 &&& (7 : Int32)))] []))
    refine Go.by (fun _ => XS.bipush X0.here hx rfl (hb hby d2_9)) ?_
    show Go p e below P (s₁.setTop (mkF m 11 #[.val (.int p0), .val (.int (p0 &&& (7 : Int32)))] [(.int (32 : Int32))]))
    subst hP
    refine Go.retZ X0 hx (t := .byte) Bd.returns (by simp) hlk (hb hby d2_11) (Nat.le_of_ble_eq_true rfl) (Nat.le_of_ble_eq_true rfl) ?_
    rw [e0]
    exact ⟨_, rfl, N0, rfl, own_narbb _⟩
  · refine Go.by (fun _ => XS.ifYes X0.here hx rfl (pc0 := 6) (pc' := 12) rfl (hb hby d2_6) rfl ((if0 _ _).trans (feq hc6).2) (by decide) (by decide)) ?_
    show Go p e below P (s₁.setTop (mkF m 12 #[.val (.int p0), .val (.int (p0 &&& (7 : Int32)))] []))
    refine Go.by (fun _ => XS.iloadN X0.here hx rfl (hb hby d2_12) rfl) ?_
    show Go p e below P (s₁.setTop (mkF m 13 #[.val (.int p0), .val (.int (p0 &&& (7 : Int32)))] [(.int (p0 &&& (7 : Int32)))]))
    refine Go.by (fun _ => XS.iconst X0.here hx rfl (hb hby d2_13)) ?_
    show Go p e below P (s₁.setTop (mkF m 14 #[.val (.int p0), .val (.int (p0 &&& (7 : Int32)))] [(.int (1 : Int32)), (.int (p0 &&& (7 : Int32)))]))
    by_cases hc14 : (p0 &&& (7 : Int32)) = (1 : Int32)
    · refine Go.by (fun _ => XS.icmpNo X0.here hx rfl (hb hby d2_14) rfl (teq hc14).2) ?_
      show Go p e below P (s₁.setTop (mkF m 17 #[.val (.int p0), .val (.int (p0 &&& (7 : Int32)))] []))
      refine Go.by (fun _ => XS.bipush X0.here hx rfl (hb hby d2_17)) ?_
      show Go p e below P (s₁.setTop (mkF m 19 #[.val (.int p0), .val (.int (p0 &&& (7 : Int32)))] [(.int (9 : Int32))]))
      subst hP
      refine Go.retZ X0 hx (t := .byte) Bd.returns (by simp) hlk (hb hby d2_19) (Nat.le_of_ble_eq_true rfl) (Nat.le_of_ble_eq_true rfl) ?_
      rw [e0]
      exact ⟨_, rfl, N0, rfl, own_narbb _⟩
    · refine Go.by (fun _ => XS.icmpYes X0.here hx rfl (pc0 := 14) (pc' := 20) rfl (hb hby d2_14) rfl (feq hc14).2 (by decide) (by decide)) ?_
      show Go p e below P (s₁.setTop (mkF m 20 #[.val (.int p0), .val (.int (p0 &&& (7 : Int32)))] []))
      refine Go.by (fun _ => XS.iloadN X0.here hx rfl (hb hby d2_20) rfl) ?_
      show Go p e below P (s₁.setTop (mkF m 21 #[.val (.int p0), .val (.int (p0 &&& (7 : Int32)))] [(.int (p0 &&& (7 : Int32)))]))
      refine Go.by (fun _ => XS.iconst X0.here hx rfl (hb hby d2_21)) ?_
      show Go p e below P (s₁.setTop (mkF m 22 #[.val (.int p0), .val (.int (p0 &&& (7 : Int32)))] [(.int (2 : Int32)), (.int (p0 &&& (7 : Int32)))]))
      by_cases hc22 : (p0 &&& (7 : Int32)) = (2 : Int32)
      · refine Go.by (fun _ => XS.icmpNo X0.here hx rfl (hb hby d2_22) rfl (teq hc22).2) ?_
        show Go p e below P (s₁.setTop (mkF m 25 #[.val (.int p0), .val (.int (p0 &&& (7 : Int32)))] []))
        refine Go.by (fun _ => XS.bipush X0.here hx rfl (hb hby d2_25)) ?_
        show Go p e below P (s₁.setTop (mkF m 27 #[.val (.int p0), .val (.int (p0 &&& (7 : Int32)))] [(.int (13 : Int32))]))
        subst hP
        refine Go.retZ X0 hx (t := .byte) Bd.returns (by simp) hlk (hb hby d2_27) (Nat.le_of_ble_eq_true rfl) (Nat.le_of_ble_eq_true rfl) ?_
        rw [e0]
        exact ⟨_, rfl, N0, rfl, own_narbb _⟩
      · refine Go.by (fun _ => XS.icmpYes X0.here hx rfl (pc0 := 22) (pc' := 28) rfl (hb hby d2_22) rfl (feq hc22).2 (by decide) (by decide)) ?_
        show Go p e below P (s₁.setTop (mkF m 28 #[.val (.int p0), .val (.int (p0 &&& (7 : Int32)))] []))
        refine Go.by (fun _ => XS.iloadN X0.here hx rfl (hb hby d2_28) rfl) ?_
        show Go p e below P (s₁.setTop (mkF m 29 #[.val (.int p0), .val (.int (p0 &&& (7 : Int32)))] [(.int (p0 &&& (7 : Int32)))]))
        refine Go.by (fun _ => XS.iconst X0.here hx rfl (hb hby d2_29)) ?_
        show Go p e below P (s₁.setTop (mkF m 30 #[.val (.int p0), .val (.int (p0 &&& (7 : Int32)))] [(.int (3 : Int32)), (.int (p0 &&& (7 : Int32)))]))
        by_cases hc30 : (p0 &&& (7 : Int32)) = (3 : Int32)
        · refine Go.by (fun _ => XS.icmpNo X0.here hx rfl (hb hby d2_30) rfl (teq hc30).2) ?_
          show Go p e below P (s₁.setTop (mkF m 33 #[.val (.int p0), .val (.int (p0 &&& (7 : Int32)))] []))
          refine Go.by (fun _ => XS.bipush X0.here hx rfl (hb hby d2_33)) ?_
          show Go p e below P (s₁.setTop (mkF m 35 #[.val (.int p0), .val (.int (p0 &&& (7 : Int32)))] [(.int (10 : Int32))]))
          subst hP
          refine Go.retZ X0 hx (t := .byte) Bd.returns (by simp) hlk (hb hby d2_35) (Nat.le_of_ble_eq_true rfl) (Nat.le_of_ble_eq_true rfl) ?_
          rw [e0]
          exact ⟨_, rfl, N0, rfl, own_narbb _⟩
        · refine Go.by (fun _ => XS.icmpYes X0.here hx rfl (pc0 := 30) (pc' := 36) rfl (hb hby d2_30) rfl (feq hc30).2 (by decide) (by decide)) ?_
          show Go p e below P (s₁.setTop (mkF m 36 #[.val (.int p0), .val (.int (p0 &&& (7 : Int32)))] []))
          refine Go.by (fun _ => XS.iloadN X0.here hx rfl (hb hby d2_36) rfl) ?_
          show Go p e below P (s₁.setTop (mkF m 37 #[.val (.int p0), .val (.int (p0 &&& (7 : Int32)))] [(.int p0)]))
          refine Go.by (fun _ => XS.iconst X0.here hx rfl (hb hby d2_37)) ?_
          show Go p e below P (s₁.setTop (mkF m 38 #[.val (.int p0), .val (.int (p0 &&& (7 : Int32)))] [(.int (3 : Int32)), (.int p0)]))
          refine Go.by (fun _ => XS.iushr X0.here hx rfl (hb hby d2_38) rfl) ?_
          show Go p e below P (s₁.setTop (mkF m 39 #[.val (.int p0), .val (.int (p0 &&& (7 : Int32)))] [(.int (((p0).toUInt32 >>> ((3 : Int32) &&& 31).toUInt32).toInt32))]))
          refine Go.by (fun _ => XS.i2b X0.here hx rfl (hb hby d2_39) rfl) ?_
          show Go p e below P (s₁.setTop (mkF m 40 #[.val (.int p0), .val (.int (p0 &&& (7 : Int32)))] [(.int (((((p0).toUInt32 >>> ((3 : Int32) &&& 31).toUInt32).toInt32)).toInt8.toInt32))]))
          subst hP
          refine Go.retZ X0 hx (t := .byte) Bd.returns (by simp) hlk (hb hby d2_40) (Nat.le_of_ble_eq_true rfl) (Nat.le_of_ble_eq_true rfl) ?_
          rw [e0]
          exact ⟨_, rfl, N0, rfl, own_narbb _⟩
theorem d1_0 : decode method_4_code 0 = .ok (.aload_n 0, 1) := by decide +kernel
theorem d1_1 : decode method_4_code 1 = .ok (.iload_n 1, 1) := by decide +kernel
theorem d1_2 : decode method_4_code 2 = .ok (.bipush 60, 2) := by decide +kernel
theorem d1_4 : decode method_4_code 4 = .ok (.bastore, 1) := by decide +kernel
theorem d1_5 : decode method_4_code 5 = .ok (.aload_n 0, 1) := by decide +kernel
theorem d1_6 : decode method_4_code 6 = .ok (.iload_n 1, 1) := by decide +kernel
theorem d1_7 : decode method_4_code 7 = .ok (.iconst 1, 1) := by decide +kernel
theorem d1_8 : decode method_4_code 8 = .ok (.iadd, 1) := by decide +kernel
theorem d1_9 : decode method_4_code 9 = .ok (.bipush 109, 2) := by decide +kernel
theorem d1_11 : decode method_4_code 11 = .ok (.bastore, 1) := by decide +kernel
theorem d1_12 : decode method_4_code 12 = .ok (.aload_n 0, 1) := by decide +kernel
theorem d1_13 : decode method_4_code 13 = .ok (.iload_n 1, 1) := by decide +kernel
theorem d1_14 : decode method_4_code 14 = .ok (.iconst 2, 1) := by decide +kernel
theorem d1_15 : decode method_4_code 15 = .ok (.iadd, 1) := by decide +kernel
theorem d1_16 : decode method_4_code 16 = .ok (.bipush 101, 2) := by decide +kernel
theorem d1_18 : decode method_4_code 18 = .ok (.bastore, 1) := by decide +kernel
theorem d1_19 : decode method_4_code 19 = .ok (.aload_n 0, 1) := by decide +kernel
theorem d1_20 : decode method_4_code 20 = .ok (.iload_n 1, 1) := by decide +kernel
theorem d1_21 : decode method_4_code 21 = .ok (.iconst 3, 1) := by decide +kernel
theorem d1_22 : decode method_4_code 22 = .ok (.iadd, 1) := by decide +kernel
theorem d1_23 : decode method_4_code 23 = .ok (.bipush 116, 2) := by decide +kernel
theorem d1_25 : decode method_4_code 25 = .ok (.bastore, 1) := by decide +kernel
theorem d1_26 : decode method_4_code 26 = .ok (.aload_n 0, 1) := by decide +kernel
theorem d1_27 : decode method_4_code 27 = .ok (.iload_n 1, 1) := by decide +kernel
theorem d1_28 : decode method_4_code 28 = .ok (.iconst 4, 1) := by decide +kernel
theorem d1_29 : decode method_4_code 29 = .ok (.iadd, 1) := by decide +kernel
theorem d1_30 : decode method_4_code 30 = .ok (.bipush 104, 2) := by decide +kernel
theorem d1_32 : decode method_4_code 32 = .ok (.bastore, 1) := by decide +kernel
theorem d1_33 : decode method_4_code 33 = .ok (.aload_n 0, 1) := by decide +kernel
theorem d1_34 : decode method_4_code 34 = .ok (.iload_n 1, 1) := by decide +kernel
theorem d1_35 : decode method_4_code 35 = .ok (.iconst 5, 1) := by decide +kernel
theorem d1_36 : decode method_4_code 36 = .ok (.iadd, 1) := by decide +kernel
theorem d1_37 : decode method_4_code 37 = .ok (.bipush 111, 2) := by decide +kernel
theorem d1_39 : decode method_4_code 39 = .ok (.bastore, 1) := by decide +kernel
theorem d1_40 : decode method_4_code 40 = .ok (.aload_n 0, 1) := by decide +kernel
theorem d1_41 : decode method_4_code 41 = .ok (.iload_n 1, 1) := by decide +kernel
theorem d1_42 : decode method_4_code 42 = .ok (.bipush 6, 2) := by decide +kernel
theorem d1_44 : decode method_4_code 44 = .ok (.iadd, 1) := by decide +kernel
theorem d1_45 : decode method_4_code 45 = .ok (.bipush 100, 2) := by decide +kernel
theorem d1_47 : decode method_4_code 47 = .ok (.bastore, 1) := by decide +kernel
theorem d1_48 : decode method_4_code 48 = .ok (.aload_n 0, 1) := by decide +kernel
theorem d1_49 : decode method_4_code 49 = .ok (.iload_n 1, 1) := by decide +kernel
theorem d1_50 : decode method_4_code 50 = .ok (.bipush 7, 2) := by decide +kernel
theorem d1_52 : decode method_4_code 52 = .ok (.iadd, 1) := by decide +kernel
theorem d1_53 : decode method_4_code 53 = .ok (.bipush 82, 2) := by decide +kernel
theorem d1_55 : decode method_4_code 55 = .ok (.bastore, 1) := by decide +kernel
theorem d1_56 : decode method_4_code 56 = .ok (.aload_n 0, 1) := by decide +kernel
theorem d1_57 : decode method_4_code 57 = .ok (.iload_n 1, 1) := by decide +kernel
theorem d1_58 : decode method_4_code 58 = .ok (.bipush 8, 2) := by decide +kernel
theorem d1_60 : decode method_4_code 60 = .ok (.iadd, 1) := by decide +kernel
theorem d1_61 : decode method_4_code 61 = .ok (.bipush 101, 2) := by decide +kernel
theorem d1_63 : decode method_4_code 63 = .ok (.bastore, 1) := by decide +kernel
theorem d1_64 : decode method_4_code 64 = .ok (.aload_n 0, 1) := by decide +kernel
theorem d1_65 : decode method_4_code 65 = .ok (.iload_n 1, 1) := by decide +kernel
theorem d1_66 : decode method_4_code 66 = .ok (.bipush 9, 2) := by decide +kernel
theorem d1_68 : decode method_4_code 68 = .ok (.iadd, 1) := by decide +kernel
theorem d1_69 : decode method_4_code 69 = .ok (.bipush 115, 2) := by decide +kernel
theorem d1_71 : decode method_4_code 71 = .ok (.bastore, 1) := by decide +kernel
theorem d1_72 : decode method_4_code 72 = .ok (.aload_n 0, 1) := by decide +kernel
theorem d1_73 : decode method_4_code 73 = .ok (.iload_n 1, 1) := by decide +kernel
theorem d1_74 : decode method_4_code 74 = .ok (.bipush 10, 2) := by decide +kernel
theorem d1_76 : decode method_4_code 76 = .ok (.iadd, 1) := by decide +kernel
theorem d1_77 : decode method_4_code 77 = .ok (.bipush 112, 2) := by decide +kernel
theorem d1_79 : decode method_4_code 79 = .ok (.bastore, 1) := by decide +kernel
theorem d1_80 : decode method_4_code 80 = .ok (.aload_n 0, 1) := by decide +kernel
theorem d1_81 : decode method_4_code 81 = .ok (.iload_n 1, 1) := by decide +kernel
theorem d1_82 : decode method_4_code 82 = .ok (.bipush 11, 2) := by decide +kernel
theorem d1_84 : decode method_4_code 84 = .ok (.iadd, 1) := by decide +kernel
theorem d1_85 : decode method_4_code 85 = .ok (.bipush 111, 2) := by decide +kernel
theorem d1_87 : decode method_4_code 87 = .ok (.bastore, 1) := by decide +kernel
theorem d1_88 : decode method_4_code 88 = .ok (.aload_n 0, 1) := by decide +kernel
theorem d1_89 : decode method_4_code 89 = .ok (.iload_n 1, 1) := by decide +kernel
theorem d1_90 : decode method_4_code 90 = .ok (.bipush 12, 2) := by decide +kernel
theorem d1_92 : decode method_4_code 92 = .ok (.iadd, 1) := by decide +kernel
theorem d1_93 : decode method_4_code 93 = .ok (.bipush 110, 2) := by decide +kernel
theorem d1_95 : decode method_4_code 95 = .ok (.bastore, 1) := by decide +kernel
theorem d1_96 : decode method_4_code 96 = .ok (.aload_n 0, 1) := by decide +kernel
theorem d1_97 : decode method_4_code 97 = .ok (.iload_n 1, 1) := by decide +kernel
theorem d1_98 : decode method_4_code 98 = .ok (.bipush 13, 2) := by decide +kernel
theorem d1_100 : decode method_4_code 100 = .ok (.iadd, 1) := by decide +kernel
theorem d1_101 : decode method_4_code 101 = .ok (.bipush 115, 2) := by decide +kernel
theorem d1_103 : decode method_4_code 103 = .ok (.bastore, 1) := by decide +kernel
theorem d1_104 : decode method_4_code 104 = .ok (.aload_n 0, 1) := by decide +kernel
theorem d1_105 : decode method_4_code 105 = .ok (.iload_n 1, 1) := by decide +kernel
theorem d1_106 : decode method_4_code 106 = .ok (.bipush 14, 2) := by decide +kernel
theorem d1_108 : decode method_4_code 108 = .ok (.iadd, 1) := by decide +kernel
theorem d1_109 : decode method_4_code 109 = .ok (.bipush 101, 2) := by decide +kernel
theorem d1_111 : decode method_4_code 111 = .ok (.bastore, 1) := by decide +kernel
theorem d1_112 : decode method_4_code 112 = .ok (.aload_n 0, 1) := by decide +kernel
theorem d1_113 : decode method_4_code 113 = .ok (.iload_n 1, 1) := by decide +kernel
theorem d1_114 : decode method_4_code 114 = .ok (.bipush 15, 2) := by decide +kernel
theorem d1_116 : decode method_4_code 116 = .ok (.iadd, 1) := by decide +kernel
theorem d1_117 : decode method_4_code 117 = .ok (.bipush 62, 2) := by decide +kernel
theorem d1_119 : decode method_4_code 119 = .ok (.bastore, 1) := by decide +kernel
theorem d1_120 : decode method_4_code 120 = .ok (.return_, 1) := by decide +kernel
theorem ef_po (m : MethodId) (x0 : Addr) (x1 : Int32) : entryFrame m #[(.ref x0), (.int x1)] 2 = mkF m 0 #[.val (.ref x0), .val (.int x1)] [] := by first | (simp [entryFrame, mkF, argsToLocals, Value.category]; done) | rfl
def Q_po (Z : State) (wOPEN : Addr) (kOPEN : ClassId) (wCLOSE : Addr) (kCLOSE : ClassId) (wPARAMS : Addr) (kPARAMS : ClassId) (b : Addr) (p1 : Int32) (kb : ClassId) (nB : Int32) (bs : List Int32) (aN : Nat) (h0 : Heap) (n0 : Nat) (v : Option Value) (h : Heap) (L : List Loc) : Prop := v = none ∧ Fr n0 L ∧ Keep h0 h [b] ∧ Arv Z h b kb .byte nB ((puts bs aN OPN).map Value.int) (.int (0 : Int32))
set_option maxRecDepth 65536 in
set_option maxHeartbeats 40000000 in
theorem rm_po (l : Launch) (Z : State) (a0 : Array Value) (hw : ∀ d ∈ tables_1, d.before a0 Z = true) (ws : List Jvm.Cond) (wOPEN : Addr) (kOPEN : ClassId) (wCLOSE : Addr) (kCLOSE : ClassId) (wPARAMS : Addr) (kPARAMS : ClassId) (hG : Glob Z wOPEN kOPEN wCLOSE kCLOSE wPARAMS kPARAMS) (b : Addr) (p1 : Int32) (kb : ClassId) (nB : Int32) (bs : List Int32) (aN : Nat) (h0 : Heap) (n0 : Nat) (Z0 : n0 ≤ h0.size) (O0 : Old Z n0 h0) (P0 : Arv Z h0 b kb .byte nB (bs.map Value.int) (.int (0 : Int32))) (gb : n0 ≤ b) (hN : nB.toInt = ((bs.length : Nat) : Int)) (ha : p1.toInt = ((aN : Nat) : Int)) (hb_ : aN + 16 ≤ bs.length) (hbl : bs.length ≤ 100) :
    MetFree l (⟨"com/example/wirecall/wirecall/bench/AnswersIsResultPinLaw", "putOpen", "([BI)V"⟩ : MethodName) (head1 (Jvm.Cond.code (⟨"com/example/wirecall/wirecall/bench/AnswersIsResultPinLaw", "putOpen", "([BI)V"⟩ : MethodName) method_4_code 2 none :: ws) ({ frames := 0, cells := 0, slots := 0, locals := 0 } : Room)) (fun a U => a = #[(.ref b), (.int p1)] ∧ Z.Warmed39 U.vm ∧ U.heap = h0) (fun _ _ _ _ _ => True) (fun _ U o U' => ∃ v L, o = .returned v ∧ Q_po Z wOPEN kOPEN wCLOSE kCLOSE wPARAMS kPARAMS b p1 kb nB bs aN h0 n0 v U'.heap L ∧ FrameEnd U o U' L ({ frames := 0, cells := 0, slots := 0, locals := 0 } : Room).cells ({ frames := 0, cells := 0, slots := 0, locals := 0 } : Room).slots) := by
  refine MetFree.of_bodySF (plainFor_of_name pn_1) hisR ?_
  intro p e s m args below meth c s₁ Bd hml0 hP hK
  obtain ⟨rfl, hZ, hh⟩ := hP
  have hx := Bd.exec
  have hby := Bd.bytes
  have hml : c.maxLocals = 2 := hml0
  have hown : s.vm.findClass "com/example/wirecall/wirecall/bench/AnswersIsResultPinLaw" = some m.cls := findClass_of_methodNamed Bd.named
  have hnm := (name_of_methodNamed Bd.named Bd.method).1
  have hlk : meth.locks = false := BodyLoose.notSynchronized Bd
  have X0 : Stand p l e ({ frames := 0, cells := 0, slots := 0, locals := 0 } : Room) s m #[(.ref b), (.int p1)] below meth c s₁ [] 0 0 := Stand.of_body Bd
  have e0 : s₁.heap = h0 := by rw [← hh, Bd.state]; rfl
  have N0 := Fr.nil n0
  obtain ⟨G0, G1, G2, G3, G4, G5⟩ := id hG
  show Go p e below (End s (Q_po Z wOPEN kOPEN wCLOSE kCLOSE wPARAMS kPARAMS b p1 kb nB bs aN h0 n0) ({ frames := 0, cells := 0, slots := 0, locals := 0 } : Room).cells ({ frames := 0, cells := 0, slots := 0, locals := 0 } : Room).slots) (s₁.setTop (entryFrame m #[(.ref b), (.int p1)] 2))
  rw [ef_po]
  generalize hP : End s (Q_po Z wOPEN kOPEN wCLOSE kCLOSE wPARAMS kPARAMS b p1 kb nB bs aN h0 n0) ({ frames := 0, cells := 0, slots := 0, locals := 0 } : Room).cells ({ frames := 0, cells := 0, slots := 0, locals := 0 } : Room).slots = P
  show Go p e below P (s₁.setTop (mkF m 0 #[.val (.ref b), .val (.int p1)] []))
  refine Go.by (fun _ => XS.aloadN X0.here hx rfl (hb hby d1_0) rfl rfl) ?_
  show Go p e below P (s₁.setTop (mkF m 1 #[.val (.ref b), .val (.int p1)] [(.ref b)]))
  refine Go.by (fun _ => XS.iloadN X0.here hx rfl (hb hby d1_1) rfl) ?_
  show Go p e below P (s₁.setTop (mkF m 2 #[.val (.ref b), .val (.int p1)] [(.int p1), (.ref b)]))
  refine Go.by (fun _ => XS.bipush X0.here hx rfl (hb hby d1_2)) ?_
  show Go p e below P (s₁.setTop (mkF m 4 #[.val (.ref b), .val (.int p1)] [(.int (60 : Int32)), (.int p1), (.ref b)]))
  have hj1 : (p1).toInt = ((aN : Nat) : Int) := ha
  have hi1 : aN < (bs).length := (own_pi (k := 0) hb_ (by decide))
  obtain ⟨hx1, hy1, hz1⟩ := own_ix hj1 hN hi1
  obtain ⟨cl1, Ar1, qc1, Sz1, Ng1, Hs1, Gf1⟩ := id (P0)
  have hin1 : ¬ (p1 < 0 ∨ cl1.slots.size ≤ (p1).toNatClampNeg) := inb_of Sz1 ⟨hx1, hy1⟩
  obtain ⟨T1, h1, X1, e1, W1, st1⟩ := stB X0 hx hZ e0 Ar1 (j := p1) hin1 (g := (mkF m 4 #[.val (.ref b), .val (.int p1)] [(.int (60 : Int32)), (.int p1), (.ref b)])) rfl rfl (hb hby d1_4)
  refine Go.by (fun _ => st1 _) ?_
  have O1 := O0.wr W1 gb
  have Z1 : n0 ≤ h1.size := Nat.le_trans Z0 (Keep.of_wr W1).1
  have K1 : Keep h0 h1 [b] := (Keep.refl h0 [b]).wr W1 (Or.inl (List.mem_of_getElem? (i := 0) rfl))
  have F2 : Arv Z h1 b kb .byte nB ((bs.set (aN) (60 : Int32)).map Value.int) (.int (0 : Int32)) := own_arvB Ar1 qc1 Sz1 Ng1 Hs1 Gf1 W1 (by decide) (aN) hz1 (by rw [List.length_map]; exact hi1)
  have N1 := Fr.snoc X1 N0 gb
  show Go p e below P (T1.setTop (mkF m 5 #[.val (.ref b), .val (.int p1)] []))
  refine Go.by (fun _ => XS.aloadN X1.here hx rfl (hb hby d1_5) rfl rfl) ?_
  show Go p e below P (T1.setTop (mkF m 6 #[.val (.ref b), .val (.int p1)] [(.ref b)]))
  refine Go.by (fun _ => XS.iloadN X1.here hx rfl (hb hby d1_6) rfl) ?_
  show Go p e below P (T1.setTop (mkF m 7 #[.val (.ref b), .val (.int p1)] [(.int p1), (.ref b)]))
  refine Go.by (fun _ => XS.iconst X1.here hx rfl (hb hby d1_7)) ?_
  show Go p e below P (T1.setTop (mkF m 8 #[.val (.ref b), .val (.int p1)] [(.int (1 : Int32)), (.int p1), (.ref b)]))
  refine Go.by (fun _ => XS.iadd X1.here hx rfl (hb hby d1_8) rfl) ?_
  show Go p e below P (T1.setTop (mkF m 9 #[.val (.ref b), .val (.int p1)] [(.int (p1 + (1 : Int32))), (.ref b)]))
  refine Go.by (fun _ => XS.bipush X1.here hx rfl (hb hby d1_9)) ?_
  show Go p e below P (T1.setTop (mkF m 11 #[.val (.ref b), .val (.int p1)] [(.int (109 : Int32)), (.int (p1 + (1 : Int32))), (.ref b)]))
  have hj3 : ((p1 + (1 : Int32))).toInt = ((aN + 1 : Nat) : Int) := (own_pj (k := 1) (kN := 1) ha rfl hb_ hbl (by decide))
  have hi3 : aN + 1 < ((bs.set (aN) (60 : Int32))).length := (by simp only [List.length_set]; exact own_pi hb_ (by decide))
  obtain ⟨hx3, hy3, hz3⟩ := own_ix hj3 (by simp only [List.length_set]; exact hN) hi3
  obtain ⟨cl3, Ar3, qc3, Sz3, Ng3, Hs3, Gf3⟩ := id (F2)
  have hin3 : ¬ ((p1 + (1 : Int32)) < 0 ∨ cl3.slots.size ≤ ((p1 + (1 : Int32))).toNatClampNeg) := inb_of Sz3 ⟨hx3, hy3⟩
  obtain ⟨T3, h3, X3, e3, W3, st3⟩ := stB X1 hx hZ e1 Ar3 (j := (p1 + (1 : Int32))) hin3 (g := (mkF m 11 #[.val (.ref b), .val (.int p1)] [(.int (109 : Int32)), (.int (p1 + (1 : Int32))), (.ref b)])) rfl rfl (hb hby d1_11)
  refine Go.by (fun _ => st3 _) ?_
  have O3 := O1.wr W3 gb
  have Z3 : n0 ≤ h3.size := Nat.le_trans Z1 (Keep.of_wr W3).1
  have K3 : Keep h0 h3 [b] := K1.wr W3 (Or.inl (List.mem_of_getElem? (i := 0) rfl))
  have F4 : Arv Z h3 b kb .byte nB (((bs.set (aN) (60 : Int32)).set (aN + 1) (109 : Int32)).map Value.int) (.int (0 : Int32)) := own_arvB Ar3 qc3 Sz3 Ng3 Hs3 Gf3 W3 (by decide) (aN + 1) hz3 (by rw [List.length_map]; exact hi3)
  have N3 := Fr.snoc X3 N1 gb
  show Go p e below P (T3.setTop (mkF m 12 #[.val (.ref b), .val (.int p1)] []))
  refine Go.by (fun _ => XS.aloadN X3.here hx rfl (hb hby d1_12) rfl rfl) ?_
  show Go p e below P (T3.setTop (mkF m 13 #[.val (.ref b), .val (.int p1)] [(.ref b)]))
  refine Go.by (fun _ => XS.iloadN X3.here hx rfl (hb hby d1_13) rfl) ?_
  show Go p e below P (T3.setTop (mkF m 14 #[.val (.ref b), .val (.int p1)] [(.int p1), (.ref b)]))
  refine Go.by (fun _ => XS.iconst X3.here hx rfl (hb hby d1_14)) ?_
  show Go p e below P (T3.setTop (mkF m 15 #[.val (.ref b), .val (.int p1)] [(.int (2 : Int32)), (.int p1), (.ref b)]))
  refine Go.by (fun _ => XS.iadd X3.here hx rfl (hb hby d1_15) rfl) ?_
  show Go p e below P (T3.setTop (mkF m 16 #[.val (.ref b), .val (.int p1)] [(.int (p1 + (2 : Int32))), (.ref b)]))
  refine Go.by (fun _ => XS.bipush X3.here hx rfl (hb hby d1_16)) ?_
  show Go p e below P (T3.setTop (mkF m 18 #[.val (.ref b), .val (.int p1)] [(.int (101 : Int32)), (.int (p1 + (2 : Int32))), (.ref b)]))
  have hj5 : ((p1 + (2 : Int32))).toInt = ((aN + 2 : Nat) : Int) := (own_pj (k := 2) (kN := 2) ha rfl hb_ hbl (by decide))
  have hi5 : aN + 2 < (((bs.set (aN) (60 : Int32)).set (aN + 1) (109 : Int32))).length := (by simp only [List.length_set]; exact own_pi hb_ (by decide))
  obtain ⟨hx5, hy5, hz5⟩ := own_ix hj5 (by simp only [List.length_set]; exact hN) hi5
  obtain ⟨cl5, Ar5, qc5, Sz5, Ng5, Hs5, Gf5⟩ := id (F4)
  have hin5 : ¬ ((p1 + (2 : Int32)) < 0 ∨ cl5.slots.size ≤ ((p1 + (2 : Int32))).toNatClampNeg) := inb_of Sz5 ⟨hx5, hy5⟩
  obtain ⟨T5, h5, X5, e5, W5, st5⟩ := stB X3 hx hZ e3 Ar5 (j := (p1 + (2 : Int32))) hin5 (g := (mkF m 18 #[.val (.ref b), .val (.int p1)] [(.int (101 : Int32)), (.int (p1 + (2 : Int32))), (.ref b)])) rfl rfl (hb hby d1_18)
  refine Go.by (fun _ => st5 _) ?_
  have O5 := O3.wr W5 gb
  have Z5 : n0 ≤ h5.size := Nat.le_trans Z3 (Keep.of_wr W5).1
  have K5 : Keep h0 h5 [b] := K3.wr W5 (Or.inl (List.mem_of_getElem? (i := 0) rfl))
  have F6 : Arv Z h5 b kb .byte nB ((((bs.set (aN) (60 : Int32)).set (aN + 1) (109 : Int32)).set (aN + 2) (101 : Int32)).map Value.int) (.int (0 : Int32)) := own_arvB Ar5 qc5 Sz5 Ng5 Hs5 Gf5 W5 (by decide) (aN + 2) hz5 (by rw [List.length_map]; exact hi5)
  have N5 := Fr.snoc X5 N3 gb
  show Go p e below P (T5.setTop (mkF m 19 #[.val (.ref b), .val (.int p1)] []))
  refine Go.by (fun _ => XS.aloadN X5.here hx rfl (hb hby d1_19) rfl rfl) ?_
  show Go p e below P (T5.setTop (mkF m 20 #[.val (.ref b), .val (.int p1)] [(.ref b)]))
  refine Go.by (fun _ => XS.iloadN X5.here hx rfl (hb hby d1_20) rfl) ?_
  show Go p e below P (T5.setTop (mkF m 21 #[.val (.ref b), .val (.int p1)] [(.int p1), (.ref b)]))
  refine Go.by (fun _ => XS.iconst X5.here hx rfl (hb hby d1_21)) ?_
  show Go p e below P (T5.setTop (mkF m 22 #[.val (.ref b), .val (.int p1)] [(.int (3 : Int32)), (.int p1), (.ref b)]))
  refine Go.by (fun _ => XS.iadd X5.here hx rfl (hb hby d1_22) rfl) ?_
  show Go p e below P (T5.setTop (mkF m 23 #[.val (.ref b), .val (.int p1)] [(.int (p1 + (3 : Int32))), (.ref b)]))
  refine Go.by (fun _ => XS.bipush X5.here hx rfl (hb hby d1_23)) ?_
  show Go p e below P (T5.setTop (mkF m 25 #[.val (.ref b), .val (.int p1)] [(.int (116 : Int32)), (.int (p1 + (3 : Int32))), (.ref b)]))
  have hj7 : ((p1 + (3 : Int32))).toInt = ((aN + 3 : Nat) : Int) := (own_pj (k := 3) (kN := 3) ha rfl hb_ hbl (by decide))
  have hi7 : aN + 3 < ((((bs.set (aN) (60 : Int32)).set (aN + 1) (109 : Int32)).set (aN + 2) (101 : Int32))).length := (by simp only [List.length_set]; exact own_pi hb_ (by decide))
  obtain ⟨hx7, hy7, hz7⟩ := own_ix hj7 (by simp only [List.length_set]; exact hN) hi7
  obtain ⟨cl7, Ar7, qc7, Sz7, Ng7, Hs7, Gf7⟩ := id (F6)
  have hin7 : ¬ ((p1 + (3 : Int32)) < 0 ∨ cl7.slots.size ≤ ((p1 + (3 : Int32))).toNatClampNeg) := inb_of Sz7 ⟨hx7, hy7⟩
  obtain ⟨T7, h7, X7, e7, W7, st7⟩ := stB X5 hx hZ e5 Ar7 (j := (p1 + (3 : Int32))) hin7 (g := (mkF m 25 #[.val (.ref b), .val (.int p1)] [(.int (116 : Int32)), (.int (p1 + (3 : Int32))), (.ref b)])) rfl rfl (hb hby d1_25)
  refine Go.by (fun _ => st7 _) ?_
  have O7 := O5.wr W7 gb
  have Z7 : n0 ≤ h7.size := Nat.le_trans Z5 (Keep.of_wr W7).1
  have K7 : Keep h0 h7 [b] := K5.wr W7 (Or.inl (List.mem_of_getElem? (i := 0) rfl))
  have F8 : Arv Z h7 b kb .byte nB (((((bs.set (aN) (60 : Int32)).set (aN + 1) (109 : Int32)).set (aN + 2) (101 : Int32)).set (aN + 3) (116 : Int32)).map Value.int) (.int (0 : Int32)) := own_arvB Ar7 qc7 Sz7 Ng7 Hs7 Gf7 W7 (by decide) (aN + 3) hz7 (by rw [List.length_map]; exact hi7)
  have N7 := Fr.snoc X7 N5 gb
  show Go p e below P (T7.setTop (mkF m 26 #[.val (.ref b), .val (.int p1)] []))
  refine Go.by (fun _ => XS.aloadN X7.here hx rfl (hb hby d1_26) rfl rfl) ?_
  show Go p e below P (T7.setTop (mkF m 27 #[.val (.ref b), .val (.int p1)] [(.ref b)]))
  refine Go.by (fun _ => XS.iloadN X7.here hx rfl (hb hby d1_27) rfl) ?_
  show Go p e below P (T7.setTop (mkF m 28 #[.val (.ref b), .val (.int p1)] [(.int p1), (.ref b)]))
  refine Go.by (fun _ => XS.iconst X7.here hx rfl (hb hby d1_28)) ?_
  show Go p e below P (T7.setTop (mkF m 29 #[.val (.ref b), .val (.int p1)] [(.int (4 : Int32)), (.int p1), (.ref b)]))
  refine Go.by (fun _ => XS.iadd X7.here hx rfl (hb hby d1_29) rfl) ?_
  show Go p e below P (T7.setTop (mkF m 30 #[.val (.ref b), .val (.int p1)] [(.int (p1 + (4 : Int32))), (.ref b)]))
  refine Go.by (fun _ => XS.bipush X7.here hx rfl (hb hby d1_30)) ?_
  show Go p e below P (T7.setTop (mkF m 32 #[.val (.ref b), .val (.int p1)] [(.int (104 : Int32)), (.int (p1 + (4 : Int32))), (.ref b)]))
  have hj9 : ((p1 + (4 : Int32))).toInt = ((aN + 4 : Nat) : Int) := (own_pj (k := 4) (kN := 4) ha rfl hb_ hbl (by decide))
  have hi9 : aN + 4 < (((((bs.set (aN) (60 : Int32)).set (aN + 1) (109 : Int32)).set (aN + 2) (101 : Int32)).set (aN + 3) (116 : Int32))).length := (by simp only [List.length_set]; exact own_pi hb_ (by decide))
  obtain ⟨hx9, hy9, hz9⟩ := own_ix hj9 (by simp only [List.length_set]; exact hN) hi9
  obtain ⟨cl9, Ar9, qc9, Sz9, Ng9, Hs9, Gf9⟩ := id (F8)
  have hin9 : ¬ ((p1 + (4 : Int32)) < 0 ∨ cl9.slots.size ≤ ((p1 + (4 : Int32))).toNatClampNeg) := inb_of Sz9 ⟨hx9, hy9⟩
  obtain ⟨T9, h9, X9, e9, W9, st9⟩ := stB X7 hx hZ e7 Ar9 (j := (p1 + (4 : Int32))) hin9 (g := (mkF m 32 #[.val (.ref b), .val (.int p1)] [(.int (104 : Int32)), (.int (p1 + (4 : Int32))), (.ref b)])) rfl rfl (hb hby d1_32)
  refine Go.by (fun _ => st9 _) ?_
  have O9 := O7.wr W9 gb
  have Z9 : n0 ≤ h9.size := Nat.le_trans Z7 (Keep.of_wr W9).1
  have K9 : Keep h0 h9 [b] := K7.wr W9 (Or.inl (List.mem_of_getElem? (i := 0) rfl))
  have F10 : Arv Z h9 b kb .byte nB ((((((bs.set (aN) (60 : Int32)).set (aN + 1) (109 : Int32)).set (aN + 2) (101 : Int32)).set (aN + 3) (116 : Int32)).set (aN + 4) (104 : Int32)).map Value.int) (.int (0 : Int32)) := own_arvB Ar9 qc9 Sz9 Ng9 Hs9 Gf9 W9 (by decide) (aN + 4) hz9 (by rw [List.length_map]; exact hi9)
  have N9 := Fr.snoc X9 N7 gb
  show Go p e below P (T9.setTop (mkF m 33 #[.val (.ref b), .val (.int p1)] []))
  refine Go.by (fun _ => XS.aloadN X9.here hx rfl (hb hby d1_33) rfl rfl) ?_
  show Go p e below P (T9.setTop (mkF m 34 #[.val (.ref b), .val (.int p1)] [(.ref b)]))
  refine Go.by (fun _ => XS.iloadN X9.here hx rfl (hb hby d1_34) rfl) ?_
  show Go p e below P (T9.setTop (mkF m 35 #[.val (.ref b), .val (.int p1)] [(.int p1), (.ref b)]))
  refine Go.by (fun _ => XS.iconst X9.here hx rfl (hb hby d1_35)) ?_
  show Go p e below P (T9.setTop (mkF m 36 #[.val (.ref b), .val (.int p1)] [(.int (5 : Int32)), (.int p1), (.ref b)]))
  refine Go.by (fun _ => XS.iadd X9.here hx rfl (hb hby d1_36) rfl) ?_
  show Go p e below P (T9.setTop (mkF m 37 #[.val (.ref b), .val (.int p1)] [(.int (p1 + (5 : Int32))), (.ref b)]))
  refine Go.by (fun _ => XS.bipush X9.here hx rfl (hb hby d1_37)) ?_
  show Go p e below P (T9.setTop (mkF m 39 #[.val (.ref b), .val (.int p1)] [(.int (111 : Int32)), (.int (p1 + (5 : Int32))), (.ref b)]))
  have hj11 : ((p1 + (5 : Int32))).toInt = ((aN + 5 : Nat) : Int) := (own_pj (k := 5) (kN := 5) ha rfl hb_ hbl (by decide))
  have hi11 : aN + 5 < ((((((bs.set (aN) (60 : Int32)).set (aN + 1) (109 : Int32)).set (aN + 2) (101 : Int32)).set (aN + 3) (116 : Int32)).set (aN + 4) (104 : Int32))).length := (by simp only [List.length_set]; exact own_pi hb_ (by decide))
  obtain ⟨hx11, hy11, hz11⟩ := own_ix hj11 (by simp only [List.length_set]; exact hN) hi11
  obtain ⟨cl11, Ar11, qc11, Sz11, Ng11, Hs11, Gf11⟩ := id (F10)
  have hin11 : ¬ ((p1 + (5 : Int32)) < 0 ∨ cl11.slots.size ≤ ((p1 + (5 : Int32))).toNatClampNeg) := inb_of Sz11 ⟨hx11, hy11⟩
  obtain ⟨T11, h11, X11, e11, W11, st11⟩ := stB X9 hx hZ e9 Ar11 (j := (p1 + (5 : Int32))) hin11 (g := (mkF m 39 #[.val (.ref b), .val (.int p1)] [(.int (111 : Int32)), (.int (p1 + (5 : Int32))), (.ref b)])) rfl rfl (hb hby d1_39)
  refine Go.by (fun _ => st11 _) ?_
  have O11 := O9.wr W11 gb
  have Z11 : n0 ≤ h11.size := Nat.le_trans Z9 (Keep.of_wr W11).1
  have K11 : Keep h0 h11 [b] := K9.wr W11 (Or.inl (List.mem_of_getElem? (i := 0) rfl))
  have F12 : Arv Z h11 b kb .byte nB (((((((bs.set (aN) (60 : Int32)).set (aN + 1) (109 : Int32)).set (aN + 2) (101 : Int32)).set (aN + 3) (116 : Int32)).set (aN + 4) (104 : Int32)).set (aN + 5) (111 : Int32)).map Value.int) (.int (0 : Int32)) := own_arvB Ar11 qc11 Sz11 Ng11 Hs11 Gf11 W11 (by decide) (aN + 5) hz11 (by rw [List.length_map]; exact hi11)
  have N11 := Fr.snoc X11 N9 gb
  show Go p e below P (T11.setTop (mkF m 40 #[.val (.ref b), .val (.int p1)] []))
  refine Go.by (fun _ => XS.aloadN X11.here hx rfl (hb hby d1_40) rfl rfl) ?_
  show Go p e below P (T11.setTop (mkF m 41 #[.val (.ref b), .val (.int p1)] [(.ref b)]))
  refine Go.by (fun _ => XS.iloadN X11.here hx rfl (hb hby d1_41) rfl) ?_
  show Go p e below P (T11.setTop (mkF m 42 #[.val (.ref b), .val (.int p1)] [(.int p1), (.ref b)]))
  refine Go.by (fun _ => XS.bipush X11.here hx rfl (hb hby d1_42)) ?_
  show Go p e below P (T11.setTop (mkF m 44 #[.val (.ref b), .val (.int p1)] [(.int (6 : Int32)), (.int p1), (.ref b)]))
  refine Go.by (fun _ => XS.iadd X11.here hx rfl (hb hby d1_44) rfl) ?_
  show Go p e below P (T11.setTop (mkF m 45 #[.val (.ref b), .val (.int p1)] [(.int (p1 + (6 : Int32))), (.ref b)]))
  refine Go.by (fun _ => XS.bipush X11.here hx rfl (hb hby d1_45)) ?_
  show Go p e below P (T11.setTop (mkF m 47 #[.val (.ref b), .val (.int p1)] [(.int (100 : Int32)), (.int (p1 + (6 : Int32))), (.ref b)]))
  have hj13 : ((p1 + (6 : Int32))).toInt = ((aN + 6 : Nat) : Int) := (own_pj (k := 6) (kN := 6) ha rfl hb_ hbl (by decide))
  have hi13 : aN + 6 < (((((((bs.set (aN) (60 : Int32)).set (aN + 1) (109 : Int32)).set (aN + 2) (101 : Int32)).set (aN + 3) (116 : Int32)).set (aN + 4) (104 : Int32)).set (aN + 5) (111 : Int32))).length := (by simp only [List.length_set]; exact own_pi hb_ (by decide))
  obtain ⟨hx13, hy13, hz13⟩ := own_ix hj13 (by simp only [List.length_set]; exact hN) hi13
  obtain ⟨cl13, Ar13, qc13, Sz13, Ng13, Hs13, Gf13⟩ := id (F12)
  have hin13 : ¬ ((p1 + (6 : Int32)) < 0 ∨ cl13.slots.size ≤ ((p1 + (6 : Int32))).toNatClampNeg) := inb_of Sz13 ⟨hx13, hy13⟩
  obtain ⟨T13, h13, X13, e13, W13, st13⟩ := stB X11 hx hZ e11 Ar13 (j := (p1 + (6 : Int32))) hin13 (g := (mkF m 47 #[.val (.ref b), .val (.int p1)] [(.int (100 : Int32)), (.int (p1 + (6 : Int32))), (.ref b)])) rfl rfl (hb hby d1_47)
  refine Go.by (fun _ => st13 _) ?_
  have O13 := O11.wr W13 gb
  have Z13 : n0 ≤ h13.size := Nat.le_trans Z11 (Keep.of_wr W13).1
  have K13 : Keep h0 h13 [b] := K11.wr W13 (Or.inl (List.mem_of_getElem? (i := 0) rfl))
  have F14 : Arv Z h13 b kb .byte nB ((((((((bs.set (aN) (60 : Int32)).set (aN + 1) (109 : Int32)).set (aN + 2) (101 : Int32)).set (aN + 3) (116 : Int32)).set (aN + 4) (104 : Int32)).set (aN + 5) (111 : Int32)).set (aN + 6) (100 : Int32)).map Value.int) (.int (0 : Int32)) := own_arvB Ar13 qc13 Sz13 Ng13 Hs13 Gf13 W13 (by decide) (aN + 6) hz13 (by rw [List.length_map]; exact hi13)
  have N13 := Fr.snoc X13 N11 gb
  show Go p e below P (T13.setTop (mkF m 48 #[.val (.ref b), .val (.int p1)] []))
  refine Go.by (fun _ => XS.aloadN X13.here hx rfl (hb hby d1_48) rfl rfl) ?_
  show Go p e below P (T13.setTop (mkF m 49 #[.val (.ref b), .val (.int p1)] [(.ref b)]))
  refine Go.by (fun _ => XS.iloadN X13.here hx rfl (hb hby d1_49) rfl) ?_
  show Go p e below P (T13.setTop (mkF m 50 #[.val (.ref b), .val (.int p1)] [(.int p1), (.ref b)]))
  refine Go.by (fun _ => XS.bipush X13.here hx rfl (hb hby d1_50)) ?_
  show Go p e below P (T13.setTop (mkF m 52 #[.val (.ref b), .val (.int p1)] [(.int (7 : Int32)), (.int p1), (.ref b)]))
  refine Go.by (fun _ => XS.iadd X13.here hx rfl (hb hby d1_52) rfl) ?_
  show Go p e below P (T13.setTop (mkF m 53 #[.val (.ref b), .val (.int p1)] [(.int (p1 + (7 : Int32))), (.ref b)]))
  refine Go.by (fun _ => XS.bipush X13.here hx rfl (hb hby d1_53)) ?_
  show Go p e below P (T13.setTop (mkF m 55 #[.val (.ref b), .val (.int p1)] [(.int (82 : Int32)), (.int (p1 + (7 : Int32))), (.ref b)]))
  have hj15 : ((p1 + (7 : Int32))).toInt = ((aN + 7 : Nat) : Int) := (own_pj (k := 7) (kN := 7) ha rfl hb_ hbl (by decide))
  have hi15 : aN + 7 < ((((((((bs.set (aN) (60 : Int32)).set (aN + 1) (109 : Int32)).set (aN + 2) (101 : Int32)).set (aN + 3) (116 : Int32)).set (aN + 4) (104 : Int32)).set (aN + 5) (111 : Int32)).set (aN + 6) (100 : Int32))).length := (by simp only [List.length_set]; exact own_pi hb_ (by decide))
  obtain ⟨hx15, hy15, hz15⟩ := own_ix hj15 (by simp only [List.length_set]; exact hN) hi15
  obtain ⟨cl15, Ar15, qc15, Sz15, Ng15, Hs15, Gf15⟩ := id (F14)
  have hin15 : ¬ ((p1 + (7 : Int32)) < 0 ∨ cl15.slots.size ≤ ((p1 + (7 : Int32))).toNatClampNeg) := inb_of Sz15 ⟨hx15, hy15⟩
  obtain ⟨T15, h15, X15, e15, W15, st15⟩ := stB X13 hx hZ e13 Ar15 (j := (p1 + (7 : Int32))) hin15 (g := (mkF m 55 #[.val (.ref b), .val (.int p1)] [(.int (82 : Int32)), (.int (p1 + (7 : Int32))), (.ref b)])) rfl rfl (hb hby d1_55)
  refine Go.by (fun _ => st15 _) ?_
  have O15 := O13.wr W15 gb
  have Z15 : n0 ≤ h15.size := Nat.le_trans Z13 (Keep.of_wr W15).1
  have K15 : Keep h0 h15 [b] := K13.wr W15 (Or.inl (List.mem_of_getElem? (i := 0) rfl))
  have F16 : Arv Z h15 b kb .byte nB (((((((((bs.set (aN) (60 : Int32)).set (aN + 1) (109 : Int32)).set (aN + 2) (101 : Int32)).set (aN + 3) (116 : Int32)).set (aN + 4) (104 : Int32)).set (aN + 5) (111 : Int32)).set (aN + 6) (100 : Int32)).set (aN + 7) (82 : Int32)).map Value.int) (.int (0 : Int32)) := own_arvB Ar15 qc15 Sz15 Ng15 Hs15 Gf15 W15 (by decide) (aN + 7) hz15 (by rw [List.length_map]; exact hi15)
  have N15 := Fr.snoc X15 N13 gb
  show Go p e below P (T15.setTop (mkF m 56 #[.val (.ref b), .val (.int p1)] []))
  refine Go.by (fun _ => XS.aloadN X15.here hx rfl (hb hby d1_56) rfl rfl) ?_
  show Go p e below P (T15.setTop (mkF m 57 #[.val (.ref b), .val (.int p1)] [(.ref b)]))
  refine Go.by (fun _ => XS.iloadN X15.here hx rfl (hb hby d1_57) rfl) ?_
  show Go p e below P (T15.setTop (mkF m 58 #[.val (.ref b), .val (.int p1)] [(.int p1), (.ref b)]))
  refine Go.by (fun _ => XS.bipush X15.here hx rfl (hb hby d1_58)) ?_
  show Go p e below P (T15.setTop (mkF m 60 #[.val (.ref b), .val (.int p1)] [(.int (8 : Int32)), (.int p1), (.ref b)]))
  refine Go.by (fun _ => XS.iadd X15.here hx rfl (hb hby d1_60) rfl) ?_
  show Go p e below P (T15.setTop (mkF m 61 #[.val (.ref b), .val (.int p1)] [(.int (p1 + (8 : Int32))), (.ref b)]))
  refine Go.by (fun _ => XS.bipush X15.here hx rfl (hb hby d1_61)) ?_
  show Go p e below P (T15.setTop (mkF m 63 #[.val (.ref b), .val (.int p1)] [(.int (101 : Int32)), (.int (p1 + (8 : Int32))), (.ref b)]))
  have hj17 : ((p1 + (8 : Int32))).toInt = ((aN + 8 : Nat) : Int) := (own_pj (k := 8) (kN := 8) ha rfl hb_ hbl (by decide))
  have hi17 : aN + 8 < (((((((((bs.set (aN) (60 : Int32)).set (aN + 1) (109 : Int32)).set (aN + 2) (101 : Int32)).set (aN + 3) (116 : Int32)).set (aN + 4) (104 : Int32)).set (aN + 5) (111 : Int32)).set (aN + 6) (100 : Int32)).set (aN + 7) (82 : Int32))).length := (by simp only [List.length_set]; exact own_pi hb_ (by decide))
  obtain ⟨hx17, hy17, hz17⟩ := own_ix hj17 (by simp only [List.length_set]; exact hN) hi17
  obtain ⟨cl17, Ar17, qc17, Sz17, Ng17, Hs17, Gf17⟩ := id (F16)
  have hin17 : ¬ ((p1 + (8 : Int32)) < 0 ∨ cl17.slots.size ≤ ((p1 + (8 : Int32))).toNatClampNeg) := inb_of Sz17 ⟨hx17, hy17⟩
  obtain ⟨T17, h17, X17, e17, W17, st17⟩ := stB X15 hx hZ e15 Ar17 (j := (p1 + (8 : Int32))) hin17 (g := (mkF m 63 #[.val (.ref b), .val (.int p1)] [(.int (101 : Int32)), (.int (p1 + (8 : Int32))), (.ref b)])) rfl rfl (hb hby d1_63)
  refine Go.by (fun _ => st17 _) ?_
  have O17 := O15.wr W17 gb
  have Z17 : n0 ≤ h17.size := Nat.le_trans Z15 (Keep.of_wr W17).1
  have K17 : Keep h0 h17 [b] := K15.wr W17 (Or.inl (List.mem_of_getElem? (i := 0) rfl))
  have F18 : Arv Z h17 b kb .byte nB ((((((((((bs.set (aN) (60 : Int32)).set (aN + 1) (109 : Int32)).set (aN + 2) (101 : Int32)).set (aN + 3) (116 : Int32)).set (aN + 4) (104 : Int32)).set (aN + 5) (111 : Int32)).set (aN + 6) (100 : Int32)).set (aN + 7) (82 : Int32)).set (aN + 8) (101 : Int32)).map Value.int) (.int (0 : Int32)) := own_arvB Ar17 qc17 Sz17 Ng17 Hs17 Gf17 W17 (by decide) (aN + 8) hz17 (by rw [List.length_map]; exact hi17)
  have N17 := Fr.snoc X17 N15 gb
  show Go p e below P (T17.setTop (mkF m 64 #[.val (.ref b), .val (.int p1)] []))
  refine Go.by (fun _ => XS.aloadN X17.here hx rfl (hb hby d1_64) rfl rfl) ?_
  show Go p e below P (T17.setTop (mkF m 65 #[.val (.ref b), .val (.int p1)] [(.ref b)]))
  refine Go.by (fun _ => XS.iloadN X17.here hx rfl (hb hby d1_65) rfl) ?_
  show Go p e below P (T17.setTop (mkF m 66 #[.val (.ref b), .val (.int p1)] [(.int p1), (.ref b)]))
  refine Go.by (fun _ => XS.bipush X17.here hx rfl (hb hby d1_66)) ?_
  show Go p e below P (T17.setTop (mkF m 68 #[.val (.ref b), .val (.int p1)] [(.int (9 : Int32)), (.int p1), (.ref b)]))
  refine Go.by (fun _ => XS.iadd X17.here hx rfl (hb hby d1_68) rfl) ?_
  show Go p e below P (T17.setTop (mkF m 69 #[.val (.ref b), .val (.int p1)] [(.int (p1 + (9 : Int32))), (.ref b)]))
  refine Go.by (fun _ => XS.bipush X17.here hx rfl (hb hby d1_69)) ?_
  show Go p e below P (T17.setTop (mkF m 71 #[.val (.ref b), .val (.int p1)] [(.int (115 : Int32)), (.int (p1 + (9 : Int32))), (.ref b)]))
  have hj19 : ((p1 + (9 : Int32))).toInt = ((aN + 9 : Nat) : Int) := (own_pj (k := 9) (kN := 9) ha rfl hb_ hbl (by decide))
  have hi19 : aN + 9 < ((((((((((bs.set (aN) (60 : Int32)).set (aN + 1) (109 : Int32)).set (aN + 2) (101 : Int32)).set (aN + 3) (116 : Int32)).set (aN + 4) (104 : Int32)).set (aN + 5) (111 : Int32)).set (aN + 6) (100 : Int32)).set (aN + 7) (82 : Int32)).set (aN + 8) (101 : Int32))).length := (by simp only [List.length_set]; exact own_pi hb_ (by decide))
  obtain ⟨hx19, hy19, hz19⟩ := own_ix hj19 (by simp only [List.length_set]; exact hN) hi19
  obtain ⟨cl19, Ar19, qc19, Sz19, Ng19, Hs19, Gf19⟩ := id (F18)
  have hin19 : ¬ ((p1 + (9 : Int32)) < 0 ∨ cl19.slots.size ≤ ((p1 + (9 : Int32))).toNatClampNeg) := inb_of Sz19 ⟨hx19, hy19⟩
  obtain ⟨T19, h19, X19, e19, W19, st19⟩ := stB X17 hx hZ e17 Ar19 (j := (p1 + (9 : Int32))) hin19 (g := (mkF m 71 #[.val (.ref b), .val (.int p1)] [(.int (115 : Int32)), (.int (p1 + (9 : Int32))), (.ref b)])) rfl rfl (hb hby d1_71)
  refine Go.by (fun _ => st19 _) ?_
  have O19 := O17.wr W19 gb
  have Z19 : n0 ≤ h19.size := Nat.le_trans Z17 (Keep.of_wr W19).1
  have K19 : Keep h0 h19 [b] := K17.wr W19 (Or.inl (List.mem_of_getElem? (i := 0) rfl))
  have F20 : Arv Z h19 b kb .byte nB (((((((((((bs.set (aN) (60 : Int32)).set (aN + 1) (109 : Int32)).set (aN + 2) (101 : Int32)).set (aN + 3) (116 : Int32)).set (aN + 4) (104 : Int32)).set (aN + 5) (111 : Int32)).set (aN + 6) (100 : Int32)).set (aN + 7) (82 : Int32)).set (aN + 8) (101 : Int32)).set (aN + 9) (115 : Int32)).map Value.int) (.int (0 : Int32)) := own_arvB Ar19 qc19 Sz19 Ng19 Hs19 Gf19 W19 (by decide) (aN + 9) hz19 (by rw [List.length_map]; exact hi19)
  have N19 := Fr.snoc X19 N17 gb
  show Go p e below P (T19.setTop (mkF m 72 #[.val (.ref b), .val (.int p1)] []))
  refine Go.by (fun _ => XS.aloadN X19.here hx rfl (hb hby d1_72) rfl rfl) ?_
  show Go p e below P (T19.setTop (mkF m 73 #[.val (.ref b), .val (.int p1)] [(.ref b)]))
  refine Go.by (fun _ => XS.iloadN X19.here hx rfl (hb hby d1_73) rfl) ?_
  show Go p e below P (T19.setTop (mkF m 74 #[.val (.ref b), .val (.int p1)] [(.int p1), (.ref b)]))
  refine Go.by (fun _ => XS.bipush X19.here hx rfl (hb hby d1_74)) ?_
  show Go p e below P (T19.setTop (mkF m 76 #[.val (.ref b), .val (.int p1)] [(.int (10 : Int32)), (.int p1), (.ref b)]))
  refine Go.by (fun _ => XS.iadd X19.here hx rfl (hb hby d1_76) rfl) ?_
  show Go p e below P (T19.setTop (mkF m 77 #[.val (.ref b), .val (.int p1)] [(.int (p1 + (10 : Int32))), (.ref b)]))
  refine Go.by (fun _ => XS.bipush X19.here hx rfl (hb hby d1_77)) ?_
  show Go p e below P (T19.setTop (mkF m 79 #[.val (.ref b), .val (.int p1)] [(.int (112 : Int32)), (.int (p1 + (10 : Int32))), (.ref b)]))
  have hj21 : ((p1 + (10 : Int32))).toInt = ((aN + 10 : Nat) : Int) := (own_pj (k := 10) (kN := 10) ha rfl hb_ hbl (by decide))
  have hi21 : aN + 10 < (((((((((((bs.set (aN) (60 : Int32)).set (aN + 1) (109 : Int32)).set (aN + 2) (101 : Int32)).set (aN + 3) (116 : Int32)).set (aN + 4) (104 : Int32)).set (aN + 5) (111 : Int32)).set (aN + 6) (100 : Int32)).set (aN + 7) (82 : Int32)).set (aN + 8) (101 : Int32)).set (aN + 9) (115 : Int32))).length := (by simp only [List.length_set]; exact own_pi hb_ (by decide))
  obtain ⟨hx21, hy21, hz21⟩ := own_ix hj21 (by simp only [List.length_set]; exact hN) hi21
  obtain ⟨cl21, Ar21, qc21, Sz21, Ng21, Hs21, Gf21⟩ := id (F20)
  have hin21 : ¬ ((p1 + (10 : Int32)) < 0 ∨ cl21.slots.size ≤ ((p1 + (10 : Int32))).toNatClampNeg) := inb_of Sz21 ⟨hx21, hy21⟩
  obtain ⟨T21, h21, X21, e21, W21, st21⟩ := stB X19 hx hZ e19 Ar21 (j := (p1 + (10 : Int32))) hin21 (g := (mkF m 79 #[.val (.ref b), .val (.int p1)] [(.int (112 : Int32)), (.int (p1 + (10 : Int32))), (.ref b)])) rfl rfl (hb hby d1_79)
  refine Go.by (fun _ => st21 _) ?_
  have O21 := O19.wr W21 gb
  have Z21 : n0 ≤ h21.size := Nat.le_trans Z19 (Keep.of_wr W21).1
  have K21 : Keep h0 h21 [b] := K19.wr W21 (Or.inl (List.mem_of_getElem? (i := 0) rfl))
  have F22 : Arv Z h21 b kb .byte nB ((((((((((((bs.set (aN) (60 : Int32)).set (aN + 1) (109 : Int32)).set (aN + 2) (101 : Int32)).set (aN + 3) (116 : Int32)).set (aN + 4) (104 : Int32)).set (aN + 5) (111 : Int32)).set (aN + 6) (100 : Int32)).set (aN + 7) (82 : Int32)).set (aN + 8) (101 : Int32)).set (aN + 9) (115 : Int32)).set (aN + 10) (112 : Int32)).map Value.int) (.int (0 : Int32)) := own_arvB Ar21 qc21 Sz21 Ng21 Hs21 Gf21 W21 (by decide) (aN + 10) hz21 (by rw [List.length_map]; exact hi21)
  have N21 := Fr.snoc X21 N19 gb
  show Go p e below P (T21.setTop (mkF m 80 #[.val (.ref b), .val (.int p1)] []))
  refine Go.by (fun _ => XS.aloadN X21.here hx rfl (hb hby d1_80) rfl rfl) ?_
  show Go p e below P (T21.setTop (mkF m 81 #[.val (.ref b), .val (.int p1)] [(.ref b)]))
  refine Go.by (fun _ => XS.iloadN X21.here hx rfl (hb hby d1_81) rfl) ?_
  show Go p e below P (T21.setTop (mkF m 82 #[.val (.ref b), .val (.int p1)] [(.int p1), (.ref b)]))
  refine Go.by (fun _ => XS.bipush X21.here hx rfl (hb hby d1_82)) ?_
  show Go p e below P (T21.setTop (mkF m 84 #[.val (.ref b), .val (.int p1)] [(.int (11 : Int32)), (.int p1), (.ref b)]))
  refine Go.by (fun _ => XS.iadd X21.here hx rfl (hb hby d1_84) rfl) ?_
  show Go p e below P (T21.setTop (mkF m 85 #[.val (.ref b), .val (.int p1)] [(.int (p1 + (11 : Int32))), (.ref b)]))
  refine Go.by (fun _ => XS.bipush X21.here hx rfl (hb hby d1_85)) ?_
  show Go p e below P (T21.setTop (mkF m 87 #[.val (.ref b), .val (.int p1)] [(.int (111 : Int32)), (.int (p1 + (11 : Int32))), (.ref b)]))
  have hj23 : ((p1 + (11 : Int32))).toInt = ((aN + 11 : Nat) : Int) := (own_pj (k := 11) (kN := 11) ha rfl hb_ hbl (by decide))
  have hi23 : aN + 11 < ((((((((((((bs.set (aN) (60 : Int32)).set (aN + 1) (109 : Int32)).set (aN + 2) (101 : Int32)).set (aN + 3) (116 : Int32)).set (aN + 4) (104 : Int32)).set (aN + 5) (111 : Int32)).set (aN + 6) (100 : Int32)).set (aN + 7) (82 : Int32)).set (aN + 8) (101 : Int32)).set (aN + 9) (115 : Int32)).set (aN + 10) (112 : Int32))).length := (by simp only [List.length_set]; exact own_pi hb_ (by decide))
  obtain ⟨hx23, hy23, hz23⟩ := own_ix hj23 (by simp only [List.length_set]; exact hN) hi23
  obtain ⟨cl23, Ar23, qc23, Sz23, Ng23, Hs23, Gf23⟩ := id (F22)
  have hin23 : ¬ ((p1 + (11 : Int32)) < 0 ∨ cl23.slots.size ≤ ((p1 + (11 : Int32))).toNatClampNeg) := inb_of Sz23 ⟨hx23, hy23⟩
  obtain ⟨T23, h23, X23, e23, W23, st23⟩ := stB X21 hx hZ e21 Ar23 (j := (p1 + (11 : Int32))) hin23 (g := (mkF m 87 #[.val (.ref b), .val (.int p1)] [(.int (111 : Int32)), (.int (p1 + (11 : Int32))), (.ref b)])) rfl rfl (hb hby d1_87)
  refine Go.by (fun _ => st23 _) ?_
  have O23 := O21.wr W23 gb
  have Z23 : n0 ≤ h23.size := Nat.le_trans Z21 (Keep.of_wr W23).1
  have K23 : Keep h0 h23 [b] := K21.wr W23 (Or.inl (List.mem_of_getElem? (i := 0) rfl))
  have F24 : Arv Z h23 b kb .byte nB (((((((((((((bs.set (aN) (60 : Int32)).set (aN + 1) (109 : Int32)).set (aN + 2) (101 : Int32)).set (aN + 3) (116 : Int32)).set (aN + 4) (104 : Int32)).set (aN + 5) (111 : Int32)).set (aN + 6) (100 : Int32)).set (aN + 7) (82 : Int32)).set (aN + 8) (101 : Int32)).set (aN + 9) (115 : Int32)).set (aN + 10) (112 : Int32)).set (aN + 11) (111 : Int32)).map Value.int) (.int (0 : Int32)) := own_arvB Ar23 qc23 Sz23 Ng23 Hs23 Gf23 W23 (by decide) (aN + 11) hz23 (by rw [List.length_map]; exact hi23)
  have N23 := Fr.snoc X23 N21 gb
  show Go p e below P (T23.setTop (mkF m 88 #[.val (.ref b), .val (.int p1)] []))
  refine Go.by (fun _ => XS.aloadN X23.here hx rfl (hb hby d1_88) rfl rfl) ?_
  show Go p e below P (T23.setTop (mkF m 89 #[.val (.ref b), .val (.int p1)] [(.ref b)]))
  refine Go.by (fun _ => XS.iloadN X23.here hx rfl (hb hby d1_89) rfl) ?_
  show Go p e below P (T23.setTop (mkF m 90 #[.val (.ref b), .val (.int p1)] [(.int p1), (.ref b)]))
  refine Go.by (fun _ => XS.bipush X23.here hx rfl (hb hby d1_90)) ?_
  show Go p e below P (T23.setTop (mkF m 92 #[.val (.ref b), .val (.int p1)] [(.int (12 : Int32)), (.int p1), (.ref b)]))
  refine Go.by (fun _ => XS.iadd X23.here hx rfl (hb hby d1_92) rfl) ?_
  show Go p e below P (T23.setTop (mkF m 93 #[.val (.ref b), .val (.int p1)] [(.int (p1 + (12 : Int32))), (.ref b)]))
  refine Go.by (fun _ => XS.bipush X23.here hx rfl (hb hby d1_93)) ?_
  show Go p e below P (T23.setTop (mkF m 95 #[.val (.ref b), .val (.int p1)] [(.int (110 : Int32)), (.int (p1 + (12 : Int32))), (.ref b)]))
  have hj25 : ((p1 + (12 : Int32))).toInt = ((aN + 12 : Nat) : Int) := (own_pj (k := 12) (kN := 12) ha rfl hb_ hbl (by decide))
  have hi25 : aN + 12 < (((((((((((((bs.set (aN) (60 : Int32)).set (aN + 1) (109 : Int32)).set (aN + 2) (101 : Int32)).set (aN + 3) (116 : Int32)).set (aN + 4) (104 : Int32)).set (aN + 5) (111 : Int32)).set (aN + 6) (100 : Int32)).set (aN + 7) (82 : Int32)).set (aN + 8) (101 : Int32)).set (aN + 9) (115 : Int32)).set (aN + 10) (112 : Int32)).set (aN + 11) (111 : Int32))).length := (by simp only [List.length_set]; exact own_pi hb_ (by decide))
  obtain ⟨hx25, hy25, hz25⟩ := own_ix hj25 (by simp only [List.length_set]; exact hN) hi25
  obtain ⟨cl25, Ar25, qc25, Sz25, Ng25, Hs25, Gf25⟩ := id (F24)
  have hin25 : ¬ ((p1 + (12 : Int32)) < 0 ∨ cl25.slots.size ≤ ((p1 + (12 : Int32))).toNatClampNeg) := inb_of Sz25 ⟨hx25, hy25⟩
  obtain ⟨T25, h25, X25, e25, W25, st25⟩ := stB X23 hx hZ e23 Ar25 (j := (p1 + (12 : Int32))) hin25 (g := (mkF m 95 #[.val (.ref b), .val (.int p1)] [(.int (110 : Int32)), (.int (p1 + (12 : Int32))), (.ref b)])) rfl rfl (hb hby d1_95)
  refine Go.by (fun _ => st25 _) ?_
  have O25 := O23.wr W25 gb
  have Z25 : n0 ≤ h25.size := Nat.le_trans Z23 (Keep.of_wr W25).1
  have K25 : Keep h0 h25 [b] := K23.wr W25 (Or.inl (List.mem_of_getElem? (i := 0) rfl))
  have F26 : Arv Z h25 b kb .byte nB ((((((((((((((bs.set (aN) (60 : Int32)).set (aN + 1) (109 : Int32)).set (aN + 2) (101 : Int32)).set (aN + 3) (116 : Int32)).set (aN + 4) (104 : Int32)).set (aN + 5) (111 : Int32)).set (aN + 6) (100 : Int32)).set (aN + 7) (82 : Int32)).set (aN + 8) (101 : Int32)).set (aN + 9) (115 : Int32)).set (aN + 10) (112 : Int32)).set (aN + 11) (111 : Int32)).set (aN + 12) (110 : Int32)).map Value.int) (.int (0 : Int32)) := own_arvB Ar25 qc25 Sz25 Ng25 Hs25 Gf25 W25 (by decide) (aN + 12) hz25 (by rw [List.length_map]; exact hi25)
  have N25 := Fr.snoc X25 N23 gb
  show Go p e below P (T25.setTop (mkF m 96 #[.val (.ref b), .val (.int p1)] []))
  refine Go.by (fun _ => XS.aloadN X25.here hx rfl (hb hby d1_96) rfl rfl) ?_
  show Go p e below P (T25.setTop (mkF m 97 #[.val (.ref b), .val (.int p1)] [(.ref b)]))
  refine Go.by (fun _ => XS.iloadN X25.here hx rfl (hb hby d1_97) rfl) ?_
  show Go p e below P (T25.setTop (mkF m 98 #[.val (.ref b), .val (.int p1)] [(.int p1), (.ref b)]))
  refine Go.by (fun _ => XS.bipush X25.here hx rfl (hb hby d1_98)) ?_
  show Go p e below P (T25.setTop (mkF m 100 #[.val (.ref b), .val (.int p1)] [(.int (13 : Int32)), (.int p1), (.ref b)]))
  refine Go.by (fun _ => XS.iadd X25.here hx rfl (hb hby d1_100) rfl) ?_
  show Go p e below P (T25.setTop (mkF m 101 #[.val (.ref b), .val (.int p1)] [(.int (p1 + (13 : Int32))), (.ref b)]))
  refine Go.by (fun _ => XS.bipush X25.here hx rfl (hb hby d1_101)) ?_
  show Go p e below P (T25.setTop (mkF m 103 #[.val (.ref b), .val (.int p1)] [(.int (115 : Int32)), (.int (p1 + (13 : Int32))), (.ref b)]))
  have hj27 : ((p1 + (13 : Int32))).toInt = ((aN + 13 : Nat) : Int) := (own_pj (k := 13) (kN := 13) ha rfl hb_ hbl (by decide))
  have hi27 : aN + 13 < ((((((((((((((bs.set (aN) (60 : Int32)).set (aN + 1) (109 : Int32)).set (aN + 2) (101 : Int32)).set (aN + 3) (116 : Int32)).set (aN + 4) (104 : Int32)).set (aN + 5) (111 : Int32)).set (aN + 6) (100 : Int32)).set (aN + 7) (82 : Int32)).set (aN + 8) (101 : Int32)).set (aN + 9) (115 : Int32)).set (aN + 10) (112 : Int32)).set (aN + 11) (111 : Int32)).set (aN + 12) (110 : Int32))).length := (by simp only [List.length_set]; exact own_pi hb_ (by decide))
  obtain ⟨hx27, hy27, hz27⟩ := own_ix hj27 (by simp only [List.length_set]; exact hN) hi27
  obtain ⟨cl27, Ar27, qc27, Sz27, Ng27, Hs27, Gf27⟩ := id (F26)
  have hin27 : ¬ ((p1 + (13 : Int32)) < 0 ∨ cl27.slots.size ≤ ((p1 + (13 : Int32))).toNatClampNeg) := inb_of Sz27 ⟨hx27, hy27⟩
  obtain ⟨T27, h27, X27, e27, W27, st27⟩ := stB X25 hx hZ e25 Ar27 (j := (p1 + (13 : Int32))) hin27 (g := (mkF m 103 #[.val (.ref b), .val (.int p1)] [(.int (115 : Int32)), (.int (p1 + (13 : Int32))), (.ref b)])) rfl rfl (hb hby d1_103)
  refine Go.by (fun _ => st27 _) ?_
  have O27 := O25.wr W27 gb
  have Z27 : n0 ≤ h27.size := Nat.le_trans Z25 (Keep.of_wr W27).1
  have K27 : Keep h0 h27 [b] := K25.wr W27 (Or.inl (List.mem_of_getElem? (i := 0) rfl))
  have F28 : Arv Z h27 b kb .byte nB (((((((((((((((bs.set (aN) (60 : Int32)).set (aN + 1) (109 : Int32)).set (aN + 2) (101 : Int32)).set (aN + 3) (116 : Int32)).set (aN + 4) (104 : Int32)).set (aN + 5) (111 : Int32)).set (aN + 6) (100 : Int32)).set (aN + 7) (82 : Int32)).set (aN + 8) (101 : Int32)).set (aN + 9) (115 : Int32)).set (aN + 10) (112 : Int32)).set (aN + 11) (111 : Int32)).set (aN + 12) (110 : Int32)).set (aN + 13) (115 : Int32)).map Value.int) (.int (0 : Int32)) := own_arvB Ar27 qc27 Sz27 Ng27 Hs27 Gf27 W27 (by decide) (aN + 13) hz27 (by rw [List.length_map]; exact hi27)
  have N27 := Fr.snoc X27 N25 gb
  show Go p e below P (T27.setTop (mkF m 104 #[.val (.ref b), .val (.int p1)] []))
  refine Go.by (fun _ => XS.aloadN X27.here hx rfl (hb hby d1_104) rfl rfl) ?_
  show Go p e below P (T27.setTop (mkF m 105 #[.val (.ref b), .val (.int p1)] [(.ref b)]))
  refine Go.by (fun _ => XS.iloadN X27.here hx rfl (hb hby d1_105) rfl) ?_
  show Go p e below P (T27.setTop (mkF m 106 #[.val (.ref b), .val (.int p1)] [(.int p1), (.ref b)]))
  refine Go.by (fun _ => XS.bipush X27.here hx rfl (hb hby d1_106)) ?_
  show Go p e below P (T27.setTop (mkF m 108 #[.val (.ref b), .val (.int p1)] [(.int (14 : Int32)), (.int p1), (.ref b)]))
  refine Go.by (fun _ => XS.iadd X27.here hx rfl (hb hby d1_108) rfl) ?_
  show Go p e below P (T27.setTop (mkF m 109 #[.val (.ref b), .val (.int p1)] [(.int (p1 + (14 : Int32))), (.ref b)]))
  refine Go.by (fun _ => XS.bipush X27.here hx rfl (hb hby d1_109)) ?_
  show Go p e below P (T27.setTop (mkF m 111 #[.val (.ref b), .val (.int p1)] [(.int (101 : Int32)), (.int (p1 + (14 : Int32))), (.ref b)]))
  have hj29 : ((p1 + (14 : Int32))).toInt = ((aN + 14 : Nat) : Int) := (own_pj (k := 14) (kN := 14) ha rfl hb_ hbl (by decide))
  have hi29 : aN + 14 < (((((((((((((((bs.set (aN) (60 : Int32)).set (aN + 1) (109 : Int32)).set (aN + 2) (101 : Int32)).set (aN + 3) (116 : Int32)).set (aN + 4) (104 : Int32)).set (aN + 5) (111 : Int32)).set (aN + 6) (100 : Int32)).set (aN + 7) (82 : Int32)).set (aN + 8) (101 : Int32)).set (aN + 9) (115 : Int32)).set (aN + 10) (112 : Int32)).set (aN + 11) (111 : Int32)).set (aN + 12) (110 : Int32)).set (aN + 13) (115 : Int32))).length := (by simp only [List.length_set]; exact own_pi hb_ (by decide))
  obtain ⟨hx29, hy29, hz29⟩ := own_ix hj29 (by simp only [List.length_set]; exact hN) hi29
  obtain ⟨cl29, Ar29, qc29, Sz29, Ng29, Hs29, Gf29⟩ := id (F28)
  have hin29 : ¬ ((p1 + (14 : Int32)) < 0 ∨ cl29.slots.size ≤ ((p1 + (14 : Int32))).toNatClampNeg) := inb_of Sz29 ⟨hx29, hy29⟩
  obtain ⟨T29, h29, X29, e29, W29, st29⟩ := stB X27 hx hZ e27 Ar29 (j := (p1 + (14 : Int32))) hin29 (g := (mkF m 111 #[.val (.ref b), .val (.int p1)] [(.int (101 : Int32)), (.int (p1 + (14 : Int32))), (.ref b)])) rfl rfl (hb hby d1_111)
  refine Go.by (fun _ => st29 _) ?_
  have O29 := O27.wr W29 gb
  have Z29 : n0 ≤ h29.size := Nat.le_trans Z27 (Keep.of_wr W29).1
  have K29 : Keep h0 h29 [b] := K27.wr W29 (Or.inl (List.mem_of_getElem? (i := 0) rfl))
  have F30 : Arv Z h29 b kb .byte nB ((((((((((((((((bs.set (aN) (60 : Int32)).set (aN + 1) (109 : Int32)).set (aN + 2) (101 : Int32)).set (aN + 3) (116 : Int32)).set (aN + 4) (104 : Int32)).set (aN + 5) (111 : Int32)).set (aN + 6) (100 : Int32)).set (aN + 7) (82 : Int32)).set (aN + 8) (101 : Int32)).set (aN + 9) (115 : Int32)).set (aN + 10) (112 : Int32)).set (aN + 11) (111 : Int32)).set (aN + 12) (110 : Int32)).set (aN + 13) (115 : Int32)).set (aN + 14) (101 : Int32)).map Value.int) (.int (0 : Int32)) := own_arvB Ar29 qc29 Sz29 Ng29 Hs29 Gf29 W29 (by decide) (aN + 14) hz29 (by rw [List.length_map]; exact hi29)
  have N29 := Fr.snoc X29 N27 gb
  show Go p e below P (T29.setTop (mkF m 112 #[.val (.ref b), .val (.int p1)] []))
  refine Go.by (fun _ => XS.aloadN X29.here hx rfl (hb hby d1_112) rfl rfl) ?_
  show Go p e below P (T29.setTop (mkF m 113 #[.val (.ref b), .val (.int p1)] [(.ref b)]))
  refine Go.by (fun _ => XS.iloadN X29.here hx rfl (hb hby d1_113) rfl) ?_
  show Go p e below P (T29.setTop (mkF m 114 #[.val (.ref b), .val (.int p1)] [(.int p1), (.ref b)]))
  refine Go.by (fun _ => XS.bipush X29.here hx rfl (hb hby d1_114)) ?_
  show Go p e below P (T29.setTop (mkF m 116 #[.val (.ref b), .val (.int p1)] [(.int (15 : Int32)), (.int p1), (.ref b)]))
  refine Go.by (fun _ => XS.iadd X29.here hx rfl (hb hby d1_116) rfl) ?_
  show Go p e below P (T29.setTop (mkF m 117 #[.val (.ref b), .val (.int p1)] [(.int (p1 + (15 : Int32))), (.ref b)]))
  refine Go.by (fun _ => XS.bipush X29.here hx rfl (hb hby d1_117)) ?_
  show Go p e below P (T29.setTop (mkF m 119 #[.val (.ref b), .val (.int p1)] [(.int (62 : Int32)), (.int (p1 + (15 : Int32))), (.ref b)]))
  have hj31 : ((p1 + (15 : Int32))).toInt = ((aN + 15 : Nat) : Int) := (own_pj (k := 15) (kN := 15) ha rfl hb_ hbl (by decide))
  have hi31 : aN + 15 < ((((((((((((((((bs.set (aN) (60 : Int32)).set (aN + 1) (109 : Int32)).set (aN + 2) (101 : Int32)).set (aN + 3) (116 : Int32)).set (aN + 4) (104 : Int32)).set (aN + 5) (111 : Int32)).set (aN + 6) (100 : Int32)).set (aN + 7) (82 : Int32)).set (aN + 8) (101 : Int32)).set (aN + 9) (115 : Int32)).set (aN + 10) (112 : Int32)).set (aN + 11) (111 : Int32)).set (aN + 12) (110 : Int32)).set (aN + 13) (115 : Int32)).set (aN + 14) (101 : Int32))).length := (by simp only [List.length_set]; exact own_pi hb_ (by decide))
  obtain ⟨hx31, hy31, hz31⟩ := own_ix hj31 (by simp only [List.length_set]; exact hN) hi31
  obtain ⟨cl31, Ar31, qc31, Sz31, Ng31, Hs31, Gf31⟩ := id (F30)
  have hin31 : ¬ ((p1 + (15 : Int32)) < 0 ∨ cl31.slots.size ≤ ((p1 + (15 : Int32))).toNatClampNeg) := inb_of Sz31 ⟨hx31, hy31⟩
  obtain ⟨T31, h31, X31, e31, W31, st31⟩ := stB X29 hx hZ e29 Ar31 (j := (p1 + (15 : Int32))) hin31 (g := (mkF m 119 #[.val (.ref b), .val (.int p1)] [(.int (62 : Int32)), (.int (p1 + (15 : Int32))), (.ref b)])) rfl rfl (hb hby d1_119)
  refine Go.by (fun _ => st31 _) ?_
  have O31 := O29.wr W31 gb
  have Z31 : n0 ≤ h31.size := Nat.le_trans Z29 (Keep.of_wr W31).1
  have K31 : Keep h0 h31 [b] := K29.wr W31 (Or.inl (List.mem_of_getElem? (i := 0) rfl))
  have F32 : Arv Z h31 b kb .byte nB (((((((((((((((((bs.set (aN) (60 : Int32)).set (aN + 1) (109 : Int32)).set (aN + 2) (101 : Int32)).set (aN + 3) (116 : Int32)).set (aN + 4) (104 : Int32)).set (aN + 5) (111 : Int32)).set (aN + 6) (100 : Int32)).set (aN + 7) (82 : Int32)).set (aN + 8) (101 : Int32)).set (aN + 9) (115 : Int32)).set (aN + 10) (112 : Int32)).set (aN + 11) (111 : Int32)).set (aN + 12) (110 : Int32)).set (aN + 13) (115 : Int32)).set (aN + 14) (101 : Int32)).set (aN + 15) (62 : Int32)).map Value.int) (.int (0 : Int32)) := own_arvB Ar31 qc31 Sz31 Ng31 Hs31 Gf31 W31 (by decide) (aN + 15) hz31 (by rw [List.length_map]; exact hi31)
  have N31 := Fr.snoc X31 N29 gb
  show Go p e below P (T31.setTop (mkF m 120 #[.val (.ref b), .val (.int p1)] []))
  subst hP
  refine Go.retV X31 hx Bd.returns hlk (hb hby d1_120) (Nat.le_of_ble_eq_true rfl) (Nat.le_of_ble_eq_true rfl) ?_
  rw [e31]
  exact ⟨rfl, N31, K31, F32⟩
theorem d3_0 : decode method_5_code 0 = .ok (.aload_n 0, 1) := by decide +kernel
theorem d3_1 : decode method_5_code 1 = .ok (.iload_n 1, 1) := by decide +kernel
theorem d3_2 : decode method_5_code 2 = .ok (.bipush 60, 2) := by decide +kernel
theorem d3_4 : decode method_5_code 4 = .ok (.bastore, 1) := by decide +kernel
theorem d3_5 : decode method_5_code 5 = .ok (.aload_n 0, 1) := by decide +kernel
theorem d3_6 : decode method_5_code 6 = .ok (.iload_n 1, 1) := by decide +kernel
theorem d3_7 : decode method_5_code 7 = .ok (.iconst 1, 1) := by decide +kernel
theorem d3_8 : decode method_5_code 8 = .ok (.iadd, 1) := by decide +kernel
theorem d3_9 : decode method_5_code 9 = .ok (.bipush 112, 2) := by decide +kernel
theorem d3_11 : decode method_5_code 11 = .ok (.bastore, 1) := by decide +kernel
theorem d3_12 : decode method_5_code 12 = .ok (.aload_n 0, 1) := by decide +kernel
theorem d3_13 : decode method_5_code 13 = .ok (.iload_n 1, 1) := by decide +kernel
theorem d3_14 : decode method_5_code 14 = .ok (.iconst 2, 1) := by decide +kernel
theorem d3_15 : decode method_5_code 15 = .ok (.iadd, 1) := by decide +kernel
theorem d3_16 : decode method_5_code 16 = .ok (.bipush 97, 2) := by decide +kernel
theorem d3_18 : decode method_5_code 18 = .ok (.bastore, 1) := by decide +kernel
theorem d3_19 : decode method_5_code 19 = .ok (.aload_n 0, 1) := by decide +kernel
theorem d3_20 : decode method_5_code 20 = .ok (.iload_n 1, 1) := by decide +kernel
theorem d3_21 : decode method_5_code 21 = .ok (.iconst 3, 1) := by decide +kernel
theorem d3_22 : decode method_5_code 22 = .ok (.iadd, 1) := by decide +kernel
theorem d3_23 : decode method_5_code 23 = .ok (.bipush 114, 2) := by decide +kernel
theorem d3_25 : decode method_5_code 25 = .ok (.bastore, 1) := by decide +kernel
theorem d3_26 : decode method_5_code 26 = .ok (.aload_n 0, 1) := by decide +kernel
theorem d3_27 : decode method_5_code 27 = .ok (.iload_n 1, 1) := by decide +kernel
theorem d3_28 : decode method_5_code 28 = .ok (.iconst 4, 1) := by decide +kernel
theorem d3_29 : decode method_5_code 29 = .ok (.iadd, 1) := by decide +kernel
theorem d3_30 : decode method_5_code 30 = .ok (.bipush 97, 2) := by decide +kernel
theorem d3_32 : decode method_5_code 32 = .ok (.bastore, 1) := by decide +kernel
theorem d3_33 : decode method_5_code 33 = .ok (.aload_n 0, 1) := by decide +kernel
theorem d3_34 : decode method_5_code 34 = .ok (.iload_n 1, 1) := by decide +kernel
theorem d3_35 : decode method_5_code 35 = .ok (.iconst 5, 1) := by decide +kernel
theorem d3_36 : decode method_5_code 36 = .ok (.iadd, 1) := by decide +kernel
theorem d3_37 : decode method_5_code 37 = .ok (.bipush 109, 2) := by decide +kernel
theorem d3_39 : decode method_5_code 39 = .ok (.bastore, 1) := by decide +kernel
theorem d3_40 : decode method_5_code 40 = .ok (.aload_n 0, 1) := by decide +kernel
theorem d3_41 : decode method_5_code 41 = .ok (.iload_n 1, 1) := by decide +kernel
theorem d3_42 : decode method_5_code 42 = .ok (.bipush 6, 2) := by decide +kernel
theorem d3_44 : decode method_5_code 44 = .ok (.iadd, 1) := by decide +kernel
theorem d3_45 : decode method_5_code 45 = .ok (.bipush 115, 2) := by decide +kernel
theorem d3_47 : decode method_5_code 47 = .ok (.bastore, 1) := by decide +kernel
theorem d3_48 : decode method_5_code 48 = .ok (.aload_n 0, 1) := by decide +kernel
theorem d3_49 : decode method_5_code 49 = .ok (.iload_n 1, 1) := by decide +kernel
theorem d3_50 : decode method_5_code 50 = .ok (.bipush 7, 2) := by decide +kernel
theorem d3_52 : decode method_5_code 52 = .ok (.iadd, 1) := by decide +kernel
theorem d3_53 : decode method_5_code 53 = .ok (.bipush 62, 2) := by decide +kernel
theorem d3_55 : decode method_5_code 55 = .ok (.bastore, 1) := by decide +kernel
theorem d3_56 : decode method_5_code 56 = .ok (.return_, 1) := by decide +kernel
theorem ef_pp (m : MethodId) (x0 : Addr) (x1 : Int32) : entryFrame m #[(.ref x0), (.int x1)] 2 = mkF m 0 #[.val (.ref x0), .val (.int x1)] [] := by first | (simp [entryFrame, mkF, argsToLocals, Value.category]; done) | rfl
def Q_pp (Z : State) (wOPEN : Addr) (kOPEN : ClassId) (wCLOSE : Addr) (kCLOSE : ClassId) (wPARAMS : Addr) (kPARAMS : ClassId) (b : Addr) (p1 : Int32) (kb : ClassId) (nB : Int32) (bs : List Int32) (aN : Nat) (h0 : Heap) (n0 : Nat) (v : Option Value) (h : Heap) (L : List Loc) : Prop := v = none ∧ Fr n0 L ∧ Keep h0 h [b] ∧ Arv Z h b kb .byte nB ((puts bs aN PRM).map Value.int) (.int (0 : Int32))
set_option maxRecDepth 65536 in
set_option maxHeartbeats 40000000 in
theorem rm_pp (l : Launch) (Z : State) (a0 : Array Value) (hw : ∀ d ∈ tables_1, d.before a0 Z = true) (ws : List Jvm.Cond) (wOPEN : Addr) (kOPEN : ClassId) (wCLOSE : Addr) (kCLOSE : ClassId) (wPARAMS : Addr) (kPARAMS : ClassId) (hG : Glob Z wOPEN kOPEN wCLOSE kCLOSE wPARAMS kPARAMS) (b : Addr) (p1 : Int32) (kb : ClassId) (nB : Int32) (bs : List Int32) (aN : Nat) (h0 : Heap) (n0 : Nat) (Z0 : n0 ≤ h0.size) (O0 : Old Z n0 h0) (P0 : Arv Z h0 b kb .byte nB (bs.map Value.int) (.int (0 : Int32))) (gb : n0 ≤ b) (hN : nB.toInt = ((bs.length : Nat) : Int)) (ha : p1.toInt = ((aN : Nat) : Int)) (hb_ : aN + 8 ≤ bs.length) (hbl : bs.length ≤ 100) :
    MetFree l (⟨"com/example/wirecall/wirecall/bench/AnswersIsResultPinLaw", "putParams", "([BI)V"⟩ : MethodName) (head1 (Jvm.Cond.code (⟨"com/example/wirecall/wirecall/bench/AnswersIsResultPinLaw", "putParams", "([BI)V"⟩ : MethodName) method_5_code 2 none :: ws) ({ frames := 0, cells := 0, slots := 0, locals := 0 } : Room)) (fun a U => a = #[(.ref b), (.int p1)] ∧ Z.Warmed39 U.vm ∧ U.heap = h0) (fun _ _ _ _ _ => True) (fun _ U o U' => ∃ v L, o = .returned v ∧ Q_pp Z wOPEN kOPEN wCLOSE kCLOSE wPARAMS kPARAMS b p1 kb nB bs aN h0 n0 v U'.heap L ∧ FrameEnd U o U' L ({ frames := 0, cells := 0, slots := 0, locals := 0 } : Room).cells ({ frames := 0, cells := 0, slots := 0, locals := 0 } : Room).slots) := by
  refine MetFree.of_bodySF (plainFor_of_name pn_1) hisR ?_
  intro p e s m args below meth c s₁ Bd hml0 hP hK
  obtain ⟨rfl, hZ, hh⟩ := hP
  have hx := Bd.exec
  have hby := Bd.bytes
  have hml : c.maxLocals = 2 := hml0
  have hown : s.vm.findClass "com/example/wirecall/wirecall/bench/AnswersIsResultPinLaw" = some m.cls := findClass_of_methodNamed Bd.named
  have hnm := (name_of_methodNamed Bd.named Bd.method).1
  have hlk : meth.locks = false := BodyLoose.notSynchronized Bd
  have X0 : Stand p l e ({ frames := 0, cells := 0, slots := 0, locals := 0 } : Room) s m #[(.ref b), (.int p1)] below meth c s₁ [] 0 0 := Stand.of_body Bd
  have e0 : s₁.heap = h0 := by rw [← hh, Bd.state]; rfl
  have N0 := Fr.nil n0
  obtain ⟨G0, G1, G2, G3, G4, G5⟩ := id hG
  show Go p e below (End s (Q_pp Z wOPEN kOPEN wCLOSE kCLOSE wPARAMS kPARAMS b p1 kb nB bs aN h0 n0) ({ frames := 0, cells := 0, slots := 0, locals := 0 } : Room).cells ({ frames := 0, cells := 0, slots := 0, locals := 0 } : Room).slots) (s₁.setTop (entryFrame m #[(.ref b), (.int p1)] 2))
  rw [ef_pp]
  generalize hP : End s (Q_pp Z wOPEN kOPEN wCLOSE kCLOSE wPARAMS kPARAMS b p1 kb nB bs aN h0 n0) ({ frames := 0, cells := 0, slots := 0, locals := 0 } : Room).cells ({ frames := 0, cells := 0, slots := 0, locals := 0 } : Room).slots = P
  show Go p e below P (s₁.setTop (mkF m 0 #[.val (.ref b), .val (.int p1)] []))
  refine Go.by (fun _ => XS.aloadN X0.here hx rfl (hb hby d3_0) rfl rfl) ?_
  show Go p e below P (s₁.setTop (mkF m 1 #[.val (.ref b), .val (.int p1)] [(.ref b)]))
  refine Go.by (fun _ => XS.iloadN X0.here hx rfl (hb hby d3_1) rfl) ?_
  show Go p e below P (s₁.setTop (mkF m 2 #[.val (.ref b), .val (.int p1)] [(.int p1), (.ref b)]))
  refine Go.by (fun _ => XS.bipush X0.here hx rfl (hb hby d3_2)) ?_
  show Go p e below P (s₁.setTop (mkF m 4 #[.val (.ref b), .val (.int p1)] [(.int (60 : Int32)), (.int p1), (.ref b)]))
  have hj1 : (p1).toInt = ((aN : Nat) : Int) := ha
  have hi1 : aN < (bs).length := (own_pi (k := 0) hb_ (by decide))
  obtain ⟨hx1, hy1, hz1⟩ := own_ix hj1 hN hi1
  obtain ⟨cl1, Ar1, qc1, Sz1, Ng1, Hs1, Gf1⟩ := id (P0)
  have hin1 : ¬ (p1 < 0 ∨ cl1.slots.size ≤ (p1).toNatClampNeg) := inb_of Sz1 ⟨hx1, hy1⟩
  obtain ⟨T1, h1, X1, e1, W1, st1⟩ := stB X0 hx hZ e0 Ar1 (j := p1) hin1 (g := (mkF m 4 #[.val (.ref b), .val (.int p1)] [(.int (60 : Int32)), (.int p1), (.ref b)])) rfl rfl (hb hby d3_4)
  refine Go.by (fun _ => st1 _) ?_
  have O1 := O0.wr W1 gb
  have Z1 : n0 ≤ h1.size := Nat.le_trans Z0 (Keep.of_wr W1).1
  have K1 : Keep h0 h1 [b] := (Keep.refl h0 [b]).wr W1 (Or.inl (List.mem_of_getElem? (i := 0) rfl))
  have F2 : Arv Z h1 b kb .byte nB ((bs.set (aN) (60 : Int32)).map Value.int) (.int (0 : Int32)) := own_arvB Ar1 qc1 Sz1 Ng1 Hs1 Gf1 W1 (by decide) (aN) hz1 (by rw [List.length_map]; exact hi1)
  have N1 := Fr.snoc X1 N0 gb
  show Go p e below P (T1.setTop (mkF m 5 #[.val (.ref b), .val (.int p1)] []))
  refine Go.by (fun _ => XS.aloadN X1.here hx rfl (hb hby d3_5) rfl rfl) ?_
  show Go p e below P (T1.setTop (mkF m 6 #[.val (.ref b), .val (.int p1)] [(.ref b)]))
  refine Go.by (fun _ => XS.iloadN X1.here hx rfl (hb hby d3_6) rfl) ?_
  show Go p e below P (T1.setTop (mkF m 7 #[.val (.ref b), .val (.int p1)] [(.int p1), (.ref b)]))
  refine Go.by (fun _ => XS.iconst X1.here hx rfl (hb hby d3_7)) ?_
  show Go p e below P (T1.setTop (mkF m 8 #[.val (.ref b), .val (.int p1)] [(.int (1 : Int32)), (.int p1), (.ref b)]))
  refine Go.by (fun _ => XS.iadd X1.here hx rfl (hb hby d3_8) rfl) ?_
  show Go p e below P (T1.setTop (mkF m 9 #[.val (.ref b), .val (.int p1)] [(.int (p1 + (1 : Int32))), (.ref b)]))
  refine Go.by (fun _ => XS.bipush X1.here hx rfl (hb hby d3_9)) ?_
  show Go p e below P (T1.setTop (mkF m 11 #[.val (.ref b), .val (.int p1)] [(.int (112 : Int32)), (.int (p1 + (1 : Int32))), (.ref b)]))
  have hj3 : ((p1 + (1 : Int32))).toInt = ((aN + 1 : Nat) : Int) := (own_pj (k := 1) (kN := 1) ha rfl hb_ hbl (by decide))
  have hi3 : aN + 1 < ((bs.set (aN) (60 : Int32))).length := (by simp only [List.length_set]; exact own_pi hb_ (by decide))
  obtain ⟨hx3, hy3, hz3⟩ := own_ix hj3 (by simp only [List.length_set]; exact hN) hi3
  obtain ⟨cl3, Ar3, qc3, Sz3, Ng3, Hs3, Gf3⟩ := id (F2)
  have hin3 : ¬ ((p1 + (1 : Int32)) < 0 ∨ cl3.slots.size ≤ ((p1 + (1 : Int32))).toNatClampNeg) := inb_of Sz3 ⟨hx3, hy3⟩
  obtain ⟨T3, h3, X3, e3, W3, st3⟩ := stB X1 hx hZ e1 Ar3 (j := (p1 + (1 : Int32))) hin3 (g := (mkF m 11 #[.val (.ref b), .val (.int p1)] [(.int (112 : Int32)), (.int (p1 + (1 : Int32))), (.ref b)])) rfl rfl (hb hby d3_11)
  refine Go.by (fun _ => st3 _) ?_
  have O3 := O1.wr W3 gb
  have Z3 : n0 ≤ h3.size := Nat.le_trans Z1 (Keep.of_wr W3).1
  have K3 : Keep h0 h3 [b] := K1.wr W3 (Or.inl (List.mem_of_getElem? (i := 0) rfl))
  have F4 : Arv Z h3 b kb .byte nB (((bs.set (aN) (60 : Int32)).set (aN + 1) (112 : Int32)).map Value.int) (.int (0 : Int32)) := own_arvB Ar3 qc3 Sz3 Ng3 Hs3 Gf3 W3 (by decide) (aN + 1) hz3 (by rw [List.length_map]; exact hi3)
  have N3 := Fr.snoc X3 N1 gb
  show Go p e below P (T3.setTop (mkF m 12 #[.val (.ref b), .val (.int p1)] []))
  refine Go.by (fun _ => XS.aloadN X3.here hx rfl (hb hby d3_12) rfl rfl) ?_
  show Go p e below P (T3.setTop (mkF m 13 #[.val (.ref b), .val (.int p1)] [(.ref b)]))
  refine Go.by (fun _ => XS.iloadN X3.here hx rfl (hb hby d3_13) rfl) ?_
  show Go p e below P (T3.setTop (mkF m 14 #[.val (.ref b), .val (.int p1)] [(.int p1), (.ref b)]))
  refine Go.by (fun _ => XS.iconst X3.here hx rfl (hb hby d3_14)) ?_
  show Go p e below P (T3.setTop (mkF m 15 #[.val (.ref b), .val (.int p1)] [(.int (2 : Int32)), (.int p1), (.ref b)]))
  refine Go.by (fun _ => XS.iadd X3.here hx rfl (hb hby d3_15) rfl) ?_
  show Go p e below P (T3.setTop (mkF m 16 #[.val (.ref b), .val (.int p1)] [(.int (p1 + (2 : Int32))), (.ref b)]))
  refine Go.by (fun _ => XS.bipush X3.here hx rfl (hb hby d3_16)) ?_
  show Go p e below P (T3.setTop (mkF m 18 #[.val (.ref b), .val (.int p1)] [(.int (97 : Int32)), (.int (p1 + (2 : Int32))), (.ref b)]))
  have hj5 : ((p1 + (2 : Int32))).toInt = ((aN + 2 : Nat) : Int) := (own_pj (k := 2) (kN := 2) ha rfl hb_ hbl (by decide))
  have hi5 : aN + 2 < (((bs.set (aN) (60 : Int32)).set (aN + 1) (112 : Int32))).length := (by simp only [List.length_set]; exact own_pi hb_ (by decide))
  obtain ⟨hx5, hy5, hz5⟩ := own_ix hj5 (by simp only [List.length_set]; exact hN) hi5
  obtain ⟨cl5, Ar5, qc5, Sz5, Ng5, Hs5, Gf5⟩ := id (F4)
  have hin5 : ¬ ((p1 + (2 : Int32)) < 0 ∨ cl5.slots.size ≤ ((p1 + (2 : Int32))).toNatClampNeg) := inb_of Sz5 ⟨hx5, hy5⟩
  obtain ⟨T5, h5, X5, e5, W5, st5⟩ := stB X3 hx hZ e3 Ar5 (j := (p1 + (2 : Int32))) hin5 (g := (mkF m 18 #[.val (.ref b), .val (.int p1)] [(.int (97 : Int32)), (.int (p1 + (2 : Int32))), (.ref b)])) rfl rfl (hb hby d3_18)
  refine Go.by (fun _ => st5 _) ?_
  have O5 := O3.wr W5 gb
  have Z5 : n0 ≤ h5.size := Nat.le_trans Z3 (Keep.of_wr W5).1
  have K5 : Keep h0 h5 [b] := K3.wr W5 (Or.inl (List.mem_of_getElem? (i := 0) rfl))
  have F6 : Arv Z h5 b kb .byte nB ((((bs.set (aN) (60 : Int32)).set (aN + 1) (112 : Int32)).set (aN + 2) (97 : Int32)).map Value.int) (.int (0 : Int32)) := own_arvB Ar5 qc5 Sz5 Ng5 Hs5 Gf5 W5 (by decide) (aN + 2) hz5 (by rw [List.length_map]; exact hi5)
  have N5 := Fr.snoc X5 N3 gb
  show Go p e below P (T5.setTop (mkF m 19 #[.val (.ref b), .val (.int p1)] []))
  refine Go.by (fun _ => XS.aloadN X5.here hx rfl (hb hby d3_19) rfl rfl) ?_
  show Go p e below P (T5.setTop (mkF m 20 #[.val (.ref b), .val (.int p1)] [(.ref b)]))
  refine Go.by (fun _ => XS.iloadN X5.here hx rfl (hb hby d3_20) rfl) ?_
  show Go p e below P (T5.setTop (mkF m 21 #[.val (.ref b), .val (.int p1)] [(.int p1), (.ref b)]))
  refine Go.by (fun _ => XS.iconst X5.here hx rfl (hb hby d3_21)) ?_
  show Go p e below P (T5.setTop (mkF m 22 #[.val (.ref b), .val (.int p1)] [(.int (3 : Int32)), (.int p1), (.ref b)]))
  refine Go.by (fun _ => XS.iadd X5.here hx rfl (hb hby d3_22) rfl) ?_
  show Go p e below P (T5.setTop (mkF m 23 #[.val (.ref b), .val (.int p1)] [(.int (p1 + (3 : Int32))), (.ref b)]))
  refine Go.by (fun _ => XS.bipush X5.here hx rfl (hb hby d3_23)) ?_
  show Go p e below P (T5.setTop (mkF m 25 #[.val (.ref b), .val (.int p1)] [(.int (114 : Int32)), (.int (p1 + (3 : Int32))), (.ref b)]))
  have hj7 : ((p1 + (3 : Int32))).toInt = ((aN + 3 : Nat) : Int) := (own_pj (k := 3) (kN := 3) ha rfl hb_ hbl (by decide))
  have hi7 : aN + 3 < ((((bs.set (aN) (60 : Int32)).set (aN + 1) (112 : Int32)).set (aN + 2) (97 : Int32))).length := (by simp only [List.length_set]; exact own_pi hb_ (by decide))
  obtain ⟨hx7, hy7, hz7⟩ := own_ix hj7 (by simp only [List.length_set]; exact hN) hi7
  obtain ⟨cl7, Ar7, qc7, Sz7, Ng7, Hs7, Gf7⟩ := id (F6)
  have hin7 : ¬ ((p1 + (3 : Int32)) < 0 ∨ cl7.slots.size ≤ ((p1 + (3 : Int32))).toNatClampNeg) := inb_of Sz7 ⟨hx7, hy7⟩
  obtain ⟨T7, h7, X7, e7, W7, st7⟩ := stB X5 hx hZ e5 Ar7 (j := (p1 + (3 : Int32))) hin7 (g := (mkF m 25 #[.val (.ref b), .val (.int p1)] [(.int (114 : Int32)), (.int (p1 + (3 : Int32))), (.ref b)])) rfl rfl (hb hby d3_25)
  refine Go.by (fun _ => st7 _) ?_
  have O7 := O5.wr W7 gb
  have Z7 : n0 ≤ h7.size := Nat.le_trans Z5 (Keep.of_wr W7).1
  have K7 : Keep h0 h7 [b] := K5.wr W7 (Or.inl (List.mem_of_getElem? (i := 0) rfl))
  have F8 : Arv Z h7 b kb .byte nB (((((bs.set (aN) (60 : Int32)).set (aN + 1) (112 : Int32)).set (aN + 2) (97 : Int32)).set (aN + 3) (114 : Int32)).map Value.int) (.int (0 : Int32)) := own_arvB Ar7 qc7 Sz7 Ng7 Hs7 Gf7 W7 (by decide) (aN + 3) hz7 (by rw [List.length_map]; exact hi7)
  have N7 := Fr.snoc X7 N5 gb
  show Go p e below P (T7.setTop (mkF m 26 #[.val (.ref b), .val (.int p1)] []))
  refine Go.by (fun _ => XS.aloadN X7.here hx rfl (hb hby d3_26) rfl rfl) ?_
  show Go p e below P (T7.setTop (mkF m 27 #[.val (.ref b), .val (.int p1)] [(.ref b)]))
  refine Go.by (fun _ => XS.iloadN X7.here hx rfl (hb hby d3_27) rfl) ?_
  show Go p e below P (T7.setTop (mkF m 28 #[.val (.ref b), .val (.int p1)] [(.int p1), (.ref b)]))
  refine Go.by (fun _ => XS.iconst X7.here hx rfl (hb hby d3_28)) ?_
  show Go p e below P (T7.setTop (mkF m 29 #[.val (.ref b), .val (.int p1)] [(.int (4 : Int32)), (.int p1), (.ref b)]))
  refine Go.by (fun _ => XS.iadd X7.here hx rfl (hb hby d3_29) rfl) ?_
  show Go p e below P (T7.setTop (mkF m 30 #[.val (.ref b), .val (.int p1)] [(.int (p1 + (4 : Int32))), (.ref b)]))
  refine Go.by (fun _ => XS.bipush X7.here hx rfl (hb hby d3_30)) ?_
  show Go p e below P (T7.setTop (mkF m 32 #[.val (.ref b), .val (.int p1)] [(.int (97 : Int32)), (.int (p1 + (4 : Int32))), (.ref b)]))
  have hj9 : ((p1 + (4 : Int32))).toInt = ((aN + 4 : Nat) : Int) := (own_pj (k := 4) (kN := 4) ha rfl hb_ hbl (by decide))
  have hi9 : aN + 4 < (((((bs.set (aN) (60 : Int32)).set (aN + 1) (112 : Int32)).set (aN + 2) (97 : Int32)).set (aN + 3) (114 : Int32))).length := (by simp only [List.length_set]; exact own_pi hb_ (by decide))
  obtain ⟨hx9, hy9, hz9⟩ := own_ix hj9 (by simp only [List.length_set]; exact hN) hi9
  obtain ⟨cl9, Ar9, qc9, Sz9, Ng9, Hs9, Gf9⟩ := id (F8)
  have hin9 : ¬ ((p1 + (4 : Int32)) < 0 ∨ cl9.slots.size ≤ ((p1 + (4 : Int32))).toNatClampNeg) := inb_of Sz9 ⟨hx9, hy9⟩
  obtain ⟨T9, h9, X9, e9, W9, st9⟩ := stB X7 hx hZ e7 Ar9 (j := (p1 + (4 : Int32))) hin9 (g := (mkF m 32 #[.val (.ref b), .val (.int p1)] [(.int (97 : Int32)), (.int (p1 + (4 : Int32))), (.ref b)])) rfl rfl (hb hby d3_32)
  refine Go.by (fun _ => st9 _) ?_
  have O9 := O7.wr W9 gb
  have Z9 : n0 ≤ h9.size := Nat.le_trans Z7 (Keep.of_wr W9).1
  have K9 : Keep h0 h9 [b] := K7.wr W9 (Or.inl (List.mem_of_getElem? (i := 0) rfl))
  have F10 : Arv Z h9 b kb .byte nB ((((((bs.set (aN) (60 : Int32)).set (aN + 1) (112 : Int32)).set (aN + 2) (97 : Int32)).set (aN + 3) (114 : Int32)).set (aN + 4) (97 : Int32)).map Value.int) (.int (0 : Int32)) := own_arvB Ar9 qc9 Sz9 Ng9 Hs9 Gf9 W9 (by decide) (aN + 4) hz9 (by rw [List.length_map]; exact hi9)
  have N9 := Fr.snoc X9 N7 gb
  show Go p e below P (T9.setTop (mkF m 33 #[.val (.ref b), .val (.int p1)] []))
  refine Go.by (fun _ => XS.aloadN X9.here hx rfl (hb hby d3_33) rfl rfl) ?_
  show Go p e below P (T9.setTop (mkF m 34 #[.val (.ref b), .val (.int p1)] [(.ref b)]))
  refine Go.by (fun _ => XS.iloadN X9.here hx rfl (hb hby d3_34) rfl) ?_
  show Go p e below P (T9.setTop (mkF m 35 #[.val (.ref b), .val (.int p1)] [(.int p1), (.ref b)]))
  refine Go.by (fun _ => XS.iconst X9.here hx rfl (hb hby d3_35)) ?_
  show Go p e below P (T9.setTop (mkF m 36 #[.val (.ref b), .val (.int p1)] [(.int (5 : Int32)), (.int p1), (.ref b)]))
  refine Go.by (fun _ => XS.iadd X9.here hx rfl (hb hby d3_36) rfl) ?_
  show Go p e below P (T9.setTop (mkF m 37 #[.val (.ref b), .val (.int p1)] [(.int (p1 + (5 : Int32))), (.ref b)]))
  refine Go.by (fun _ => XS.bipush X9.here hx rfl (hb hby d3_37)) ?_
  show Go p e below P (T9.setTop (mkF m 39 #[.val (.ref b), .val (.int p1)] [(.int (109 : Int32)), (.int (p1 + (5 : Int32))), (.ref b)]))
  have hj11 : ((p1 + (5 : Int32))).toInt = ((aN + 5 : Nat) : Int) := (own_pj (k := 5) (kN := 5) ha rfl hb_ hbl (by decide))
  have hi11 : aN + 5 < ((((((bs.set (aN) (60 : Int32)).set (aN + 1) (112 : Int32)).set (aN + 2) (97 : Int32)).set (aN + 3) (114 : Int32)).set (aN + 4) (97 : Int32))).length := (by simp only [List.length_set]; exact own_pi hb_ (by decide))
  obtain ⟨hx11, hy11, hz11⟩ := own_ix hj11 (by simp only [List.length_set]; exact hN) hi11
  obtain ⟨cl11, Ar11, qc11, Sz11, Ng11, Hs11, Gf11⟩ := id (F10)
  have hin11 : ¬ ((p1 + (5 : Int32)) < 0 ∨ cl11.slots.size ≤ ((p1 + (5 : Int32))).toNatClampNeg) := inb_of Sz11 ⟨hx11, hy11⟩
  obtain ⟨T11, h11, X11, e11, W11, st11⟩ := stB X9 hx hZ e9 Ar11 (j := (p1 + (5 : Int32))) hin11 (g := (mkF m 39 #[.val (.ref b), .val (.int p1)] [(.int (109 : Int32)), (.int (p1 + (5 : Int32))), (.ref b)])) rfl rfl (hb hby d3_39)
  refine Go.by (fun _ => st11 _) ?_
  have O11 := O9.wr W11 gb
  have Z11 : n0 ≤ h11.size := Nat.le_trans Z9 (Keep.of_wr W11).1
  have K11 : Keep h0 h11 [b] := K9.wr W11 (Or.inl (List.mem_of_getElem? (i := 0) rfl))
  have F12 : Arv Z h11 b kb .byte nB (((((((bs.set (aN) (60 : Int32)).set (aN + 1) (112 : Int32)).set (aN + 2) (97 : Int32)).set (aN + 3) (114 : Int32)).set (aN + 4) (97 : Int32)).set (aN + 5) (109 : Int32)).map Value.int) (.int (0 : Int32)) := own_arvB Ar11 qc11 Sz11 Ng11 Hs11 Gf11 W11 (by decide) (aN + 5) hz11 (by rw [List.length_map]; exact hi11)
  have N11 := Fr.snoc X11 N9 gb
  show Go p e below P (T11.setTop (mkF m 40 #[.val (.ref b), .val (.int p1)] []))
  refine Go.by (fun _ => XS.aloadN X11.here hx rfl (hb hby d3_40) rfl rfl) ?_
  show Go p e below P (T11.setTop (mkF m 41 #[.val (.ref b), .val (.int p1)] [(.ref b)]))
  refine Go.by (fun _ => XS.iloadN X11.here hx rfl (hb hby d3_41) rfl) ?_
  show Go p e below P (T11.setTop (mkF m 42 #[.val (.ref b), .val (.int p1)] [(.int p1), (.ref b)]))
  refine Go.by (fun _ => XS.bipush X11.here hx rfl (hb hby d3_42)) ?_
  show Go p e below P (T11.setTop (mkF m 44 #[.val (.ref b), .val (.int p1)] [(.int (6 : Int32)), (.int p1), (.ref b)]))
  refine Go.by (fun _ => XS.iadd X11.here hx rfl (hb hby d3_44) rfl) ?_
  show Go p e below P (T11.setTop (mkF m 45 #[.val (.ref b), .val (.int p1)] [(.int (p1 + (6 : Int32))), (.ref b)]))
  refine Go.by (fun _ => XS.bipush X11.here hx rfl (hb hby d3_45)) ?_
  show Go p e below P (T11.setTop (mkF m 47 #[.val (.ref b), .val (.int p1)] [(.int (115 : Int32)), (.int (p1 + (6 : Int32))), (.ref b)]))
  have hj13 : ((p1 + (6 : Int32))).toInt = ((aN + 6 : Nat) : Int) := (own_pj (k := 6) (kN := 6) ha rfl hb_ hbl (by decide))
  have hi13 : aN + 6 < (((((((bs.set (aN) (60 : Int32)).set (aN + 1) (112 : Int32)).set (aN + 2) (97 : Int32)).set (aN + 3) (114 : Int32)).set (aN + 4) (97 : Int32)).set (aN + 5) (109 : Int32))).length := (by simp only [List.length_set]; exact own_pi hb_ (by decide))
  obtain ⟨hx13, hy13, hz13⟩ := own_ix hj13 (by simp only [List.length_set]; exact hN) hi13
  obtain ⟨cl13, Ar13, qc13, Sz13, Ng13, Hs13, Gf13⟩ := id (F12)
  have hin13 : ¬ ((p1 + (6 : Int32)) < 0 ∨ cl13.slots.size ≤ ((p1 + (6 : Int32))).toNatClampNeg) := inb_of Sz13 ⟨hx13, hy13⟩
  obtain ⟨T13, h13, X13, e13, W13, st13⟩ := stB X11 hx hZ e11 Ar13 (j := (p1 + (6 : Int32))) hin13 (g := (mkF m 47 #[.val (.ref b), .val (.int p1)] [(.int (115 : Int32)), (.int (p1 + (6 : Int32))), (.ref b)])) rfl rfl (hb hby d3_47)
  refine Go.by (fun _ => st13 _) ?_
  have O13 := O11.wr W13 gb
  have Z13 : n0 ≤ h13.size := Nat.le_trans Z11 (Keep.of_wr W13).1
  have K13 : Keep h0 h13 [b] := K11.wr W13 (Or.inl (List.mem_of_getElem? (i := 0) rfl))
  have F14 : Arv Z h13 b kb .byte nB ((((((((bs.set (aN) (60 : Int32)).set (aN + 1) (112 : Int32)).set (aN + 2) (97 : Int32)).set (aN + 3) (114 : Int32)).set (aN + 4) (97 : Int32)).set (aN + 5) (109 : Int32)).set (aN + 6) (115 : Int32)).map Value.int) (.int (0 : Int32)) := own_arvB Ar13 qc13 Sz13 Ng13 Hs13 Gf13 W13 (by decide) (aN + 6) hz13 (by rw [List.length_map]; exact hi13)
  have N13 := Fr.snoc X13 N11 gb
  show Go p e below P (T13.setTop (mkF m 48 #[.val (.ref b), .val (.int p1)] []))
  refine Go.by (fun _ => XS.aloadN X13.here hx rfl (hb hby d3_48) rfl rfl) ?_
  show Go p e below P (T13.setTop (mkF m 49 #[.val (.ref b), .val (.int p1)] [(.ref b)]))
  refine Go.by (fun _ => XS.iloadN X13.here hx rfl (hb hby d3_49) rfl) ?_
  show Go p e below P (T13.setTop (mkF m 50 #[.val (.ref b), .val (.int p1)] [(.int p1), (.ref b)]))
  refine Go.by (fun _ => XS.bipush X13.here hx rfl (hb hby d3_50)) ?_
  show Go p e below P (T13.setTop (mkF m 52 #[.val (.ref b), .val (.int p1)] [(.int (7 : Int32)), (.int p1), (.ref b)]))
  refine Go.by (fun _ => XS.iadd X13.here hx rfl (hb hby d3_52) rfl) ?_
  show Go p e below P (T13.setTop (mkF m 53 #[.val (.ref b), .val (.int p1)] [(.int (p1 + (7 : Int32))), (.ref b)]))
  refine Go.by (fun _ => XS.bipush X13.here hx rfl (hb hby d3_53)) ?_
  show Go p e below P (T13.setTop (mkF m 55 #[.val (.ref b), .val (.int p1)] [(.int (62 : Int32)), (.int (p1 + (7 : Int32))), (.ref b)]))
  have hj15 : ((p1 + (7 : Int32))).toInt = ((aN + 7 : Nat) : Int) := (own_pj (k := 7) (kN := 7) ha rfl hb_ hbl (by decide))
  have hi15 : aN + 7 < ((((((((bs.set (aN) (60 : Int32)).set (aN + 1) (112 : Int32)).set (aN + 2) (97 : Int32)).set (aN + 3) (114 : Int32)).set (aN + 4) (97 : Int32)).set (aN + 5) (109 : Int32)).set (aN + 6) (115 : Int32))).length := (by simp only [List.length_set]; exact own_pi hb_ (by decide))
  obtain ⟨hx15, hy15, hz15⟩ := own_ix hj15 (by simp only [List.length_set]; exact hN) hi15
  obtain ⟨cl15, Ar15, qc15, Sz15, Ng15, Hs15, Gf15⟩ := id (F14)
  have hin15 : ¬ ((p1 + (7 : Int32)) < 0 ∨ cl15.slots.size ≤ ((p1 + (7 : Int32))).toNatClampNeg) := inb_of Sz15 ⟨hx15, hy15⟩
  obtain ⟨T15, h15, X15, e15, W15, st15⟩ := stB X13 hx hZ e13 Ar15 (j := (p1 + (7 : Int32))) hin15 (g := (mkF m 55 #[.val (.ref b), .val (.int p1)] [(.int (62 : Int32)), (.int (p1 + (7 : Int32))), (.ref b)])) rfl rfl (hb hby d3_55)
  refine Go.by (fun _ => st15 _) ?_
  have O15 := O13.wr W15 gb
  have Z15 : n0 ≤ h15.size := Nat.le_trans Z13 (Keep.of_wr W15).1
  have K15 : Keep h0 h15 [b] := K13.wr W15 (Or.inl (List.mem_of_getElem? (i := 0) rfl))
  have F16 : Arv Z h15 b kb .byte nB (((((((((bs.set (aN) (60 : Int32)).set (aN + 1) (112 : Int32)).set (aN + 2) (97 : Int32)).set (aN + 3) (114 : Int32)).set (aN + 4) (97 : Int32)).set (aN + 5) (109 : Int32)).set (aN + 6) (115 : Int32)).set (aN + 7) (62 : Int32)).map Value.int) (.int (0 : Int32)) := own_arvB Ar15 qc15 Sz15 Ng15 Hs15 Gf15 W15 (by decide) (aN + 7) hz15 (by rw [List.length_map]; exact hi15)
  have N15 := Fr.snoc X15 N13 gb
  show Go p e below P (T15.setTop (mkF m 56 #[.val (.ref b), .val (.int p1)] []))
  subst hP
  refine Go.retV X15 hx Bd.returns hlk (hb hby d3_56) (Nat.le_of_ble_eq_true rfl) (Nat.le_of_ble_eq_true rfl) ?_
  rw [e15]
  exact ⟨rfl, N15, K15, F16⟩
theorem d4_0 : decode method_6_code 0 = .ok (.aload_n 0, 1) := by decide +kernel
theorem d4_1 : decode method_6_code 1 = .ok (.iload_n 1, 1) := by decide +kernel
theorem d4_2 : decode method_6_code 2 = .ok (.bipush 60, 2) := by decide +kernel
theorem d4_4 : decode method_6_code 4 = .ok (.bastore, 1) := by decide +kernel
theorem d4_5 : decode method_6_code 5 = .ok (.aload_n 0, 1) := by decide +kernel
theorem d4_6 : decode method_6_code 6 = .ok (.iload_n 1, 1) := by decide +kernel
theorem d4_7 : decode method_6_code 7 = .ok (.iconst 1, 1) := by decide +kernel
theorem d4_8 : decode method_6_code 8 = .ok (.iadd, 1) := by decide +kernel
theorem d4_9 : decode method_6_code 9 = .ok (.bipush 47, 2) := by decide +kernel
theorem d4_11 : decode method_6_code 11 = .ok (.bastore, 1) := by decide +kernel
theorem d4_12 : decode method_6_code 12 = .ok (.aload_n 0, 1) := by decide +kernel
theorem d4_13 : decode method_6_code 13 = .ok (.iload_n 1, 1) := by decide +kernel
theorem d4_14 : decode method_6_code 14 = .ok (.iconst 2, 1) := by decide +kernel
theorem d4_15 : decode method_6_code 15 = .ok (.iadd, 1) := by decide +kernel
theorem d4_16 : decode method_6_code 16 = .ok (.bipush 109, 2) := by decide +kernel
theorem d4_18 : decode method_6_code 18 = .ok (.bastore, 1) := by decide +kernel
theorem d4_19 : decode method_6_code 19 = .ok (.aload_n 0, 1) := by decide +kernel
theorem d4_20 : decode method_6_code 20 = .ok (.iload_n 1, 1) := by decide +kernel
theorem d4_21 : decode method_6_code 21 = .ok (.iconst 3, 1) := by decide +kernel
theorem d4_22 : decode method_6_code 22 = .ok (.iadd, 1) := by decide +kernel
theorem d4_23 : decode method_6_code 23 = .ok (.bipush 101, 2) := by decide +kernel
theorem d4_25 : decode method_6_code 25 = .ok (.bastore, 1) := by decide +kernel
theorem d4_26 : decode method_6_code 26 = .ok (.aload_n 0, 1) := by decide +kernel
theorem d4_27 : decode method_6_code 27 = .ok (.iload_n 1, 1) := by decide +kernel
theorem d4_28 : decode method_6_code 28 = .ok (.iconst 4, 1) := by decide +kernel
theorem d4_29 : decode method_6_code 29 = .ok (.iadd, 1) := by decide +kernel
theorem d4_30 : decode method_6_code 30 = .ok (.bipush 116, 2) := by decide +kernel
theorem d4_32 : decode method_6_code 32 = .ok (.bastore, 1) := by decide +kernel
theorem d4_33 : decode method_6_code 33 = .ok (.aload_n 0, 1) := by decide +kernel
theorem d4_34 : decode method_6_code 34 = .ok (.iload_n 1, 1) := by decide +kernel
theorem d4_35 : decode method_6_code 35 = .ok (.iconst 5, 1) := by decide +kernel
theorem d4_36 : decode method_6_code 36 = .ok (.iadd, 1) := by decide +kernel
theorem d4_37 : decode method_6_code 37 = .ok (.bipush 104, 2) := by decide +kernel
theorem d4_39 : decode method_6_code 39 = .ok (.bastore, 1) := by decide +kernel
theorem d4_40 : decode method_6_code 40 = .ok (.aload_n 0, 1) := by decide +kernel
theorem d4_41 : decode method_6_code 41 = .ok (.iload_n 1, 1) := by decide +kernel
theorem d4_42 : decode method_6_code 42 = .ok (.bipush 6, 2) := by decide +kernel
theorem d4_44 : decode method_6_code 44 = .ok (.iadd, 1) := by decide +kernel
theorem d4_45 : decode method_6_code 45 = .ok (.bipush 111, 2) := by decide +kernel
theorem d4_47 : decode method_6_code 47 = .ok (.bastore, 1) := by decide +kernel
theorem d4_48 : decode method_6_code 48 = .ok (.aload_n 0, 1) := by decide +kernel
theorem d4_49 : decode method_6_code 49 = .ok (.iload_n 1, 1) := by decide +kernel
theorem d4_50 : decode method_6_code 50 = .ok (.bipush 7, 2) := by decide +kernel
theorem d4_52 : decode method_6_code 52 = .ok (.iadd, 1) := by decide +kernel
theorem d4_53 : decode method_6_code 53 = .ok (.bipush 100, 2) := by decide +kernel
theorem d4_55 : decode method_6_code 55 = .ok (.bastore, 1) := by decide +kernel
theorem d4_56 : decode method_6_code 56 = .ok (.aload_n 0, 1) := by decide +kernel
theorem d4_57 : decode method_6_code 57 = .ok (.iload_n 1, 1) := by decide +kernel
theorem d4_58 : decode method_6_code 58 = .ok (.bipush 8, 2) := by decide +kernel
theorem d4_60 : decode method_6_code 60 = .ok (.iadd, 1) := by decide +kernel
theorem d4_61 : decode method_6_code 61 = .ok (.bipush 82, 2) := by decide +kernel
theorem d4_63 : decode method_6_code 63 = .ok (.bastore, 1) := by decide +kernel
theorem d4_64 : decode method_6_code 64 = .ok (.aload_n 0, 1) := by decide +kernel
theorem d4_65 : decode method_6_code 65 = .ok (.iload_n 1, 1) := by decide +kernel
theorem d4_66 : decode method_6_code 66 = .ok (.bipush 9, 2) := by decide +kernel
theorem d4_68 : decode method_6_code 68 = .ok (.iadd, 1) := by decide +kernel
theorem d4_69 : decode method_6_code 69 = .ok (.bipush 101, 2) := by decide +kernel
theorem d4_71 : decode method_6_code 71 = .ok (.bastore, 1) := by decide +kernel
theorem d4_72 : decode method_6_code 72 = .ok (.aload_n 0, 1) := by decide +kernel
theorem d4_73 : decode method_6_code 73 = .ok (.iload_n 1, 1) := by decide +kernel
theorem d4_74 : decode method_6_code 74 = .ok (.bipush 10, 2) := by decide +kernel
theorem d4_76 : decode method_6_code 76 = .ok (.iadd, 1) := by decide +kernel
theorem d4_77 : decode method_6_code 77 = .ok (.bipush 115, 2) := by decide +kernel
theorem d4_79 : decode method_6_code 79 = .ok (.bastore, 1) := by decide +kernel
theorem d4_80 : decode method_6_code 80 = .ok (.aload_n 0, 1) := by decide +kernel
theorem d4_81 : decode method_6_code 81 = .ok (.iload_n 1, 1) := by decide +kernel
theorem d4_82 : decode method_6_code 82 = .ok (.bipush 11, 2) := by decide +kernel
theorem d4_84 : decode method_6_code 84 = .ok (.iadd, 1) := by decide +kernel
theorem d4_85 : decode method_6_code 85 = .ok (.bipush 112, 2) := by decide +kernel
theorem d4_87 : decode method_6_code 87 = .ok (.bastore, 1) := by decide +kernel
theorem d4_88 : decode method_6_code 88 = .ok (.aload_n 0, 1) := by decide +kernel
theorem d4_89 : decode method_6_code 89 = .ok (.iload_n 1, 1) := by decide +kernel
theorem d4_90 : decode method_6_code 90 = .ok (.bipush 12, 2) := by decide +kernel
theorem d4_92 : decode method_6_code 92 = .ok (.iadd, 1) := by decide +kernel
theorem d4_93 : decode method_6_code 93 = .ok (.bipush 111, 2) := by decide +kernel
theorem d4_95 : decode method_6_code 95 = .ok (.bastore, 1) := by decide +kernel
theorem d4_96 : decode method_6_code 96 = .ok (.aload_n 0, 1) := by decide +kernel
theorem d4_97 : decode method_6_code 97 = .ok (.iload_n 1, 1) := by decide +kernel
theorem d4_98 : decode method_6_code 98 = .ok (.bipush 13, 2) := by decide +kernel
theorem d4_100 : decode method_6_code 100 = .ok (.iadd, 1) := by decide +kernel
theorem d4_101 : decode method_6_code 101 = .ok (.bipush 110, 2) := by decide +kernel
theorem d4_103 : decode method_6_code 103 = .ok (.bastore, 1) := by decide +kernel
theorem d4_104 : decode method_6_code 104 = .ok (.aload_n 0, 1) := by decide +kernel
theorem d4_105 : decode method_6_code 105 = .ok (.iload_n 1, 1) := by decide +kernel
theorem d4_106 : decode method_6_code 106 = .ok (.bipush 14, 2) := by decide +kernel
theorem d4_108 : decode method_6_code 108 = .ok (.iadd, 1) := by decide +kernel
theorem d4_109 : decode method_6_code 109 = .ok (.bipush 115, 2) := by decide +kernel
theorem d4_111 : decode method_6_code 111 = .ok (.bastore, 1) := by decide +kernel
theorem d4_112 : decode method_6_code 112 = .ok (.aload_n 0, 1) := by decide +kernel
theorem d4_113 : decode method_6_code 113 = .ok (.iload_n 1, 1) := by decide +kernel
theorem d4_114 : decode method_6_code 114 = .ok (.bipush 15, 2) := by decide +kernel
theorem d4_116 : decode method_6_code 116 = .ok (.iadd, 1) := by decide +kernel
theorem d4_117 : decode method_6_code 117 = .ok (.bipush 101, 2) := by decide +kernel
theorem d4_119 : decode method_6_code 119 = .ok (.bastore, 1) := by decide +kernel
theorem d4_120 : decode method_6_code 120 = .ok (.aload_n 0, 1) := by decide +kernel
theorem d4_121 : decode method_6_code 121 = .ok (.iload_n 1, 1) := by decide +kernel
theorem d4_122 : decode method_6_code 122 = .ok (.bipush 16, 2) := by decide +kernel
theorem d4_124 : decode method_6_code 124 = .ok (.iadd, 1) := by decide +kernel
theorem d4_125 : decode method_6_code 125 = .ok (.bipush 62, 2) := by decide +kernel
theorem d4_127 : decode method_6_code 127 = .ok (.bastore, 1) := by decide +kernel
theorem d4_128 : decode method_6_code 128 = .ok (.return_, 1) := by decide +kernel
theorem ef_pcl (m : MethodId) (x0 : Addr) (x1 : Int32) : entryFrame m #[(.ref x0), (.int x1)] 2 = mkF m 0 #[.val (.ref x0), .val (.int x1)] [] := by first | (simp [entryFrame, mkF, argsToLocals, Value.category]; done) | rfl
def Q_pcl (Z : State) (wOPEN : Addr) (kOPEN : ClassId) (wCLOSE : Addr) (kCLOSE : ClassId) (wPARAMS : Addr) (kPARAMS : ClassId) (b : Addr) (p1 : Int32) (kb : ClassId) (nB : Int32) (bs : List Int32) (aN : Nat) (h0 : Heap) (n0 : Nat) (v : Option Value) (h : Heap) (L : List Loc) : Prop := v = none ∧ Fr n0 L ∧ Keep h0 h [b] ∧ Arv Z h b kb .byte nB ((puts bs aN CLO).map Value.int) (.int (0 : Int32))
set_option maxRecDepth 65536 in
set_option maxHeartbeats 40000000 in
theorem rm_pcl (l : Launch) (Z : State) (a0 : Array Value) (hw : ∀ d ∈ tables_1, d.before a0 Z = true) (ws : List Jvm.Cond) (wOPEN : Addr) (kOPEN : ClassId) (wCLOSE : Addr) (kCLOSE : ClassId) (wPARAMS : Addr) (kPARAMS : ClassId) (hG : Glob Z wOPEN kOPEN wCLOSE kCLOSE wPARAMS kPARAMS) (b : Addr) (p1 : Int32) (kb : ClassId) (nB : Int32) (bs : List Int32) (aN : Nat) (h0 : Heap) (n0 : Nat) (Z0 : n0 ≤ h0.size) (O0 : Old Z n0 h0) (P0 : Arv Z h0 b kb .byte nB (bs.map Value.int) (.int (0 : Int32))) (gb : n0 ≤ b) (hN : nB.toInt = ((bs.length : Nat) : Int)) (ha : p1.toInt = ((aN : Nat) : Int)) (hb_ : aN + 17 ≤ bs.length) (hbl : bs.length ≤ 100) :
    MetFree l (⟨"com/example/wirecall/wirecall/bench/AnswersIsResultPinLaw", "putClose", "([BI)V"⟩ : MethodName) (head1 (Jvm.Cond.code (⟨"com/example/wirecall/wirecall/bench/AnswersIsResultPinLaw", "putClose", "([BI)V"⟩ : MethodName) method_6_code 2 none :: ws) ({ frames := 0, cells := 0, slots := 0, locals := 0 } : Room)) (fun a U => a = #[(.ref b), (.int p1)] ∧ Z.Warmed39 U.vm ∧ U.heap = h0) (fun _ _ _ _ _ => True) (fun _ U o U' => ∃ v L, o = .returned v ∧ Q_pcl Z wOPEN kOPEN wCLOSE kCLOSE wPARAMS kPARAMS b p1 kb nB bs aN h0 n0 v U'.heap L ∧ FrameEnd U o U' L ({ frames := 0, cells := 0, slots := 0, locals := 0 } : Room).cells ({ frames := 0, cells := 0, slots := 0, locals := 0 } : Room).slots) := by
  refine MetFree.of_bodySF (plainFor_of_name pn_1) hisR ?_
  intro p e s m args below meth c s₁ Bd hml0 hP hK
  obtain ⟨rfl, hZ, hh⟩ := hP
  have hx := Bd.exec
  have hby := Bd.bytes
  have hml : c.maxLocals = 2 := hml0
  have hown : s.vm.findClass "com/example/wirecall/wirecall/bench/AnswersIsResultPinLaw" = some m.cls := findClass_of_methodNamed Bd.named
  have hnm := (name_of_methodNamed Bd.named Bd.method).1
  have hlk : meth.locks = false := BodyLoose.notSynchronized Bd
  have X0 : Stand p l e ({ frames := 0, cells := 0, slots := 0, locals := 0 } : Room) s m #[(.ref b), (.int p1)] below meth c s₁ [] 0 0 := Stand.of_body Bd
  have e0 : s₁.heap = h0 := by rw [← hh, Bd.state]; rfl
  have N0 := Fr.nil n0
  obtain ⟨G0, G1, G2, G3, G4, G5⟩ := id hG
  show Go p e below (End s (Q_pcl Z wOPEN kOPEN wCLOSE kCLOSE wPARAMS kPARAMS b p1 kb nB bs aN h0 n0) ({ frames := 0, cells := 0, slots := 0, locals := 0 } : Room).cells ({ frames := 0, cells := 0, slots := 0, locals := 0 } : Room).slots) (s₁.setTop (entryFrame m #[(.ref b), (.int p1)] 2))
  rw [ef_pcl]
  generalize hP : End s (Q_pcl Z wOPEN kOPEN wCLOSE kCLOSE wPARAMS kPARAMS b p1 kb nB bs aN h0 n0) ({ frames := 0, cells := 0, slots := 0, locals := 0 } : Room).cells ({ frames := 0, cells := 0, slots := 0, locals := 0 } : Room).slots = P
  show Go p e below P (s₁.setTop (mkF m 0 #[.val (.ref b), .val (.int p1)] []))
  refine Go.by (fun _ => XS.aloadN X0.here hx rfl (hb hby d4_0) rfl rfl) ?_
  show Go p e below P (s₁.setTop (mkF m 1 #[.val (.ref b), .val (.int p1)] [(.ref b)]))
  refine Go.by (fun _ => XS.iloadN X0.here hx rfl (hb hby d4_1) rfl) ?_
  show Go p e below P (s₁.setTop (mkF m 2 #[.val (.ref b), .val (.int p1)] [(.int p1), (.ref b)]))
  refine Go.by (fun _ => XS.bipush X0.here hx rfl (hb hby d4_2)) ?_
  show Go p e below P (s₁.setTop (mkF m 4 #[.val (.ref b), .val (.int p1)] [(.int (60 : Int32)), (.int p1), (.ref b)]))
  have hj1 : (p1).toInt = ((aN : Nat) : Int) := ha
  have hi1 : aN < (bs).length := (own_pi (k := 0) hb_ (by decide))
  obtain ⟨hx1, hy1, hz1⟩ := own_ix hj1 hN hi1
  obtain ⟨cl1, Ar1, qc1, Sz1, Ng1, Hs1, Gf1⟩ := id (P0)
  have hin1 : ¬ (p1 < 0 ∨ cl1.slots.size ≤ (p1).toNatClampNeg) := inb_of Sz1 ⟨hx1, hy1⟩
  obtain ⟨T1, h1, X1, e1, W1, st1⟩ := stB X0 hx hZ e0 Ar1 (j := p1) hin1 (g := (mkF m 4 #[.val (.ref b), .val (.int p1)] [(.int (60 : Int32)), (.int p1), (.ref b)])) rfl rfl (hb hby d4_4)
  refine Go.by (fun _ => st1 _) ?_
  have O1 := O0.wr W1 gb
  have Z1 : n0 ≤ h1.size := Nat.le_trans Z0 (Keep.of_wr W1).1
  have K1 : Keep h0 h1 [b] := (Keep.refl h0 [b]).wr W1 (Or.inl (List.mem_of_getElem? (i := 0) rfl))
  have F2 : Arv Z h1 b kb .byte nB ((bs.set (aN) (60 : Int32)).map Value.int) (.int (0 : Int32)) := own_arvB Ar1 qc1 Sz1 Ng1 Hs1 Gf1 W1 (by decide) (aN) hz1 (by rw [List.length_map]; exact hi1)
  have N1 := Fr.snoc X1 N0 gb
  show Go p e below P (T1.setTop (mkF m 5 #[.val (.ref b), .val (.int p1)] []))
  refine Go.by (fun _ => XS.aloadN X1.here hx rfl (hb hby d4_5) rfl rfl) ?_
  show Go p e below P (T1.setTop (mkF m 6 #[.val (.ref b), .val (.int p1)] [(.ref b)]))
  refine Go.by (fun _ => XS.iloadN X1.here hx rfl (hb hby d4_6) rfl) ?_
  show Go p e below P (T1.setTop (mkF m 7 #[.val (.ref b), .val (.int p1)] [(.int p1), (.ref b)]))
  refine Go.by (fun _ => XS.iconst X1.here hx rfl (hb hby d4_7)) ?_
  show Go p e below P (T1.setTop (mkF m 8 #[.val (.ref b), .val (.int p1)] [(.int (1 : Int32)), (.int p1), (.ref b)]))
  refine Go.by (fun _ => XS.iadd X1.here hx rfl (hb hby d4_8) rfl) ?_
  show Go p e below P (T1.setTop (mkF m 9 #[.val (.ref b), .val (.int p1)] [(.int (p1 + (1 : Int32))), (.ref b)]))
  refine Go.by (fun _ => XS.bipush X1.here hx rfl (hb hby d4_9)) ?_
  show Go p e below P (T1.setTop (mkF m 11 #[.val (.ref b), .val (.int p1)] [(.int (47 : Int32)), (.int (p1 + (1 : Int32))), (.ref b)]))
  have hj3 : ((p1 + (1 : Int32))).toInt = ((aN + 1 : Nat) : Int) := (own_pj (k := 1) (kN := 1) ha rfl hb_ hbl (by decide))
  have hi3 : aN + 1 < ((bs.set (aN) (60 : Int32))).length := (by simp only [List.length_set]; exact own_pi hb_ (by decide))
  obtain ⟨hx3, hy3, hz3⟩ := own_ix hj3 (by simp only [List.length_set]; exact hN) hi3
  obtain ⟨cl3, Ar3, qc3, Sz3, Ng3, Hs3, Gf3⟩ := id (F2)
  have hin3 : ¬ ((p1 + (1 : Int32)) < 0 ∨ cl3.slots.size ≤ ((p1 + (1 : Int32))).toNatClampNeg) := inb_of Sz3 ⟨hx3, hy3⟩
  obtain ⟨T3, h3, X3, e3, W3, st3⟩ := stB X1 hx hZ e1 Ar3 (j := (p1 + (1 : Int32))) hin3 (g := (mkF m 11 #[.val (.ref b), .val (.int p1)] [(.int (47 : Int32)), (.int (p1 + (1 : Int32))), (.ref b)])) rfl rfl (hb hby d4_11)
  refine Go.by (fun _ => st3 _) ?_
  have O3 := O1.wr W3 gb
  have Z3 : n0 ≤ h3.size := Nat.le_trans Z1 (Keep.of_wr W3).1
  have K3 : Keep h0 h3 [b] := K1.wr W3 (Or.inl (List.mem_of_getElem? (i := 0) rfl))
  have F4 : Arv Z h3 b kb .byte nB (((bs.set (aN) (60 : Int32)).set (aN + 1) (47 : Int32)).map Value.int) (.int (0 : Int32)) := own_arvB Ar3 qc3 Sz3 Ng3 Hs3 Gf3 W3 (by decide) (aN + 1) hz3 (by rw [List.length_map]; exact hi3)
  have N3 := Fr.snoc X3 N1 gb
  show Go p e below P (T3.setTop (mkF m 12 #[.val (.ref b), .val (.int p1)] []))
  refine Go.by (fun _ => XS.aloadN X3.here hx rfl (hb hby d4_12) rfl rfl) ?_
  show Go p e below P (T3.setTop (mkF m 13 #[.val (.ref b), .val (.int p1)] [(.ref b)]))
  refine Go.by (fun _ => XS.iloadN X3.here hx rfl (hb hby d4_13) rfl) ?_
  show Go p e below P (T3.setTop (mkF m 14 #[.val (.ref b), .val (.int p1)] [(.int p1), (.ref b)]))
  refine Go.by (fun _ => XS.iconst X3.here hx rfl (hb hby d4_14)) ?_
  show Go p e below P (T3.setTop (mkF m 15 #[.val (.ref b), .val (.int p1)] [(.int (2 : Int32)), (.int p1), (.ref b)]))
  refine Go.by (fun _ => XS.iadd X3.here hx rfl (hb hby d4_15) rfl) ?_
  show Go p e below P (T3.setTop (mkF m 16 #[.val (.ref b), .val (.int p1)] [(.int (p1 + (2 : Int32))), (.ref b)]))
  refine Go.by (fun _ => XS.bipush X3.here hx rfl (hb hby d4_16)) ?_
  show Go p e below P (T3.setTop (mkF m 18 #[.val (.ref b), .val (.int p1)] [(.int (109 : Int32)), (.int (p1 + (2 : Int32))), (.ref b)]))
  have hj5 : ((p1 + (2 : Int32))).toInt = ((aN + 2 : Nat) : Int) := (own_pj (k := 2) (kN := 2) ha rfl hb_ hbl (by decide))
  have hi5 : aN + 2 < (((bs.set (aN) (60 : Int32)).set (aN + 1) (47 : Int32))).length := (by simp only [List.length_set]; exact own_pi hb_ (by decide))
  obtain ⟨hx5, hy5, hz5⟩ := own_ix hj5 (by simp only [List.length_set]; exact hN) hi5
  obtain ⟨cl5, Ar5, qc5, Sz5, Ng5, Hs5, Gf5⟩ := id (F4)
  have hin5 : ¬ ((p1 + (2 : Int32)) < 0 ∨ cl5.slots.size ≤ ((p1 + (2 : Int32))).toNatClampNeg) := inb_of Sz5 ⟨hx5, hy5⟩
  obtain ⟨T5, h5, X5, e5, W5, st5⟩ := stB X3 hx hZ e3 Ar5 (j := (p1 + (2 : Int32))) hin5 (g := (mkF m 18 #[.val (.ref b), .val (.int p1)] [(.int (109 : Int32)), (.int (p1 + (2 : Int32))), (.ref b)])) rfl rfl (hb hby d4_18)
  refine Go.by (fun _ => st5 _) ?_
  have O5 := O3.wr W5 gb
  have Z5 : n0 ≤ h5.size := Nat.le_trans Z3 (Keep.of_wr W5).1
  have K5 : Keep h0 h5 [b] := K3.wr W5 (Or.inl (List.mem_of_getElem? (i := 0) rfl))
  have F6 : Arv Z h5 b kb .byte nB ((((bs.set (aN) (60 : Int32)).set (aN + 1) (47 : Int32)).set (aN + 2) (109 : Int32)).map Value.int) (.int (0 : Int32)) := own_arvB Ar5 qc5 Sz5 Ng5 Hs5 Gf5 W5 (by decide) (aN + 2) hz5 (by rw [List.length_map]; exact hi5)
  have N5 := Fr.snoc X5 N3 gb
  show Go p e below P (T5.setTop (mkF m 19 #[.val (.ref b), .val (.int p1)] []))
  refine Go.by (fun _ => XS.aloadN X5.here hx rfl (hb hby d4_19) rfl rfl) ?_
  show Go p e below P (T5.setTop (mkF m 20 #[.val (.ref b), .val (.int p1)] [(.ref b)]))
  refine Go.by (fun _ => XS.iloadN X5.here hx rfl (hb hby d4_20) rfl) ?_
  show Go p e below P (T5.setTop (mkF m 21 #[.val (.ref b), .val (.int p1)] [(.int p1), (.ref b)]))
  refine Go.by (fun _ => XS.iconst X5.here hx rfl (hb hby d4_21)) ?_
  show Go p e below P (T5.setTop (mkF m 22 #[.val (.ref b), .val (.int p1)] [(.int (3 : Int32)), (.int p1), (.ref b)]))
  refine Go.by (fun _ => XS.iadd X5.here hx rfl (hb hby d4_22) rfl) ?_
  show Go p e below P (T5.setTop (mkF m 23 #[.val (.ref b), .val (.int p1)] [(.int (p1 + (3 : Int32))), (.ref b)]))
  refine Go.by (fun _ => XS.bipush X5.here hx rfl (hb hby d4_23)) ?_
  show Go p e below P (T5.setTop (mkF m 25 #[.val (.ref b), .val (.int p1)] [(.int (101 : Int32)), (.int (p1 + (3 : Int32))), (.ref b)]))
  have hj7 : ((p1 + (3 : Int32))).toInt = ((aN + 3 : Nat) : Int) := (own_pj (k := 3) (kN := 3) ha rfl hb_ hbl (by decide))
  have hi7 : aN + 3 < ((((bs.set (aN) (60 : Int32)).set (aN + 1) (47 : Int32)).set (aN + 2) (109 : Int32))).length := (by simp only [List.length_set]; exact own_pi hb_ (by decide))
  obtain ⟨hx7, hy7, hz7⟩ := own_ix hj7 (by simp only [List.length_set]; exact hN) hi7
  obtain ⟨cl7, Ar7, qc7, Sz7, Ng7, Hs7, Gf7⟩ := id (F6)
  have hin7 : ¬ ((p1 + (3 : Int32)) < 0 ∨ cl7.slots.size ≤ ((p1 + (3 : Int32))).toNatClampNeg) := inb_of Sz7 ⟨hx7, hy7⟩
  obtain ⟨T7, h7, X7, e7, W7, st7⟩ := stB X5 hx hZ e5 Ar7 (j := (p1 + (3 : Int32))) hin7 (g := (mkF m 25 #[.val (.ref b), .val (.int p1)] [(.int (101 : Int32)), (.int (p1 + (3 : Int32))), (.ref b)])) rfl rfl (hb hby d4_25)
  refine Go.by (fun _ => st7 _) ?_
  have O7 := O5.wr W7 gb
  have Z7 : n0 ≤ h7.size := Nat.le_trans Z5 (Keep.of_wr W7).1
  have K7 : Keep h0 h7 [b] := K5.wr W7 (Or.inl (List.mem_of_getElem? (i := 0) rfl))
  have F8 : Arv Z h7 b kb .byte nB (((((bs.set (aN) (60 : Int32)).set (aN + 1) (47 : Int32)).set (aN + 2) (109 : Int32)).set (aN + 3) (101 : Int32)).map Value.int) (.int (0 : Int32)) := own_arvB Ar7 qc7 Sz7 Ng7 Hs7 Gf7 W7 (by decide) (aN + 3) hz7 (by rw [List.length_map]; exact hi7)
  have N7 := Fr.snoc X7 N5 gb
  show Go p e below P (T7.setTop (mkF m 26 #[.val (.ref b), .val (.int p1)] []))
  refine Go.by (fun _ => XS.aloadN X7.here hx rfl (hb hby d4_26) rfl rfl) ?_
  show Go p e below P (T7.setTop (mkF m 27 #[.val (.ref b), .val (.int p1)] [(.ref b)]))
  refine Go.by (fun _ => XS.iloadN X7.here hx rfl (hb hby d4_27) rfl) ?_
  show Go p e below P (T7.setTop (mkF m 28 #[.val (.ref b), .val (.int p1)] [(.int p1), (.ref b)]))
  refine Go.by (fun _ => XS.iconst X7.here hx rfl (hb hby d4_28)) ?_
  show Go p e below P (T7.setTop (mkF m 29 #[.val (.ref b), .val (.int p1)] [(.int (4 : Int32)), (.int p1), (.ref b)]))
  refine Go.by (fun _ => XS.iadd X7.here hx rfl (hb hby d4_29) rfl) ?_
  show Go p e below P (T7.setTop (mkF m 30 #[.val (.ref b), .val (.int p1)] [(.int (p1 + (4 : Int32))), (.ref b)]))
  refine Go.by (fun _ => XS.bipush X7.here hx rfl (hb hby d4_30)) ?_
  show Go p e below P (T7.setTop (mkF m 32 #[.val (.ref b), .val (.int p1)] [(.int (116 : Int32)), (.int (p1 + (4 : Int32))), (.ref b)]))
  have hj9 : ((p1 + (4 : Int32))).toInt = ((aN + 4 : Nat) : Int) := (own_pj (k := 4) (kN := 4) ha rfl hb_ hbl (by decide))
  have hi9 : aN + 4 < (((((bs.set (aN) (60 : Int32)).set (aN + 1) (47 : Int32)).set (aN + 2) (109 : Int32)).set (aN + 3) (101 : Int32))).length := (by simp only [List.length_set]; exact own_pi hb_ (by decide))
  obtain ⟨hx9, hy9, hz9⟩ := own_ix hj9 (by simp only [List.length_set]; exact hN) hi9
  obtain ⟨cl9, Ar9, qc9, Sz9, Ng9, Hs9, Gf9⟩ := id (F8)
  have hin9 : ¬ ((p1 + (4 : Int32)) < 0 ∨ cl9.slots.size ≤ ((p1 + (4 : Int32))).toNatClampNeg) := inb_of Sz9 ⟨hx9, hy9⟩
  obtain ⟨T9, h9, X9, e9, W9, st9⟩ := stB X7 hx hZ e7 Ar9 (j := (p1 + (4 : Int32))) hin9 (g := (mkF m 32 #[.val (.ref b), .val (.int p1)] [(.int (116 : Int32)), (.int (p1 + (4 : Int32))), (.ref b)])) rfl rfl (hb hby d4_32)
  refine Go.by (fun _ => st9 _) ?_
  have O9 := O7.wr W9 gb
  have Z9 : n0 ≤ h9.size := Nat.le_trans Z7 (Keep.of_wr W9).1
  have K9 : Keep h0 h9 [b] := K7.wr W9 (Or.inl (List.mem_of_getElem? (i := 0) rfl))
  have F10 : Arv Z h9 b kb .byte nB ((((((bs.set (aN) (60 : Int32)).set (aN + 1) (47 : Int32)).set (aN + 2) (109 : Int32)).set (aN + 3) (101 : Int32)).set (aN + 4) (116 : Int32)).map Value.int) (.int (0 : Int32)) := own_arvB Ar9 qc9 Sz9 Ng9 Hs9 Gf9 W9 (by decide) (aN + 4) hz9 (by rw [List.length_map]; exact hi9)
  have N9 := Fr.snoc X9 N7 gb
  show Go p e below P (T9.setTop (mkF m 33 #[.val (.ref b), .val (.int p1)] []))
  refine Go.by (fun _ => XS.aloadN X9.here hx rfl (hb hby d4_33) rfl rfl) ?_
  show Go p e below P (T9.setTop (mkF m 34 #[.val (.ref b), .val (.int p1)] [(.ref b)]))
  refine Go.by (fun _ => XS.iloadN X9.here hx rfl (hb hby d4_34) rfl) ?_
  show Go p e below P (T9.setTop (mkF m 35 #[.val (.ref b), .val (.int p1)] [(.int p1), (.ref b)]))
  refine Go.by (fun _ => XS.iconst X9.here hx rfl (hb hby d4_35)) ?_
  show Go p e below P (T9.setTop (mkF m 36 #[.val (.ref b), .val (.int p1)] [(.int (5 : Int32)), (.int p1), (.ref b)]))
  refine Go.by (fun _ => XS.iadd X9.here hx rfl (hb hby d4_36) rfl) ?_
  show Go p e below P (T9.setTop (mkF m 37 #[.val (.ref b), .val (.int p1)] [(.int (p1 + (5 : Int32))), (.ref b)]))
  refine Go.by (fun _ => XS.bipush X9.here hx rfl (hb hby d4_37)) ?_
  show Go p e below P (T9.setTop (mkF m 39 #[.val (.ref b), .val (.int p1)] [(.int (104 : Int32)), (.int (p1 + (5 : Int32))), (.ref b)]))
  have hj11 : ((p1 + (5 : Int32))).toInt = ((aN + 5 : Nat) : Int) := (own_pj (k := 5) (kN := 5) ha rfl hb_ hbl (by decide))
  have hi11 : aN + 5 < ((((((bs.set (aN) (60 : Int32)).set (aN + 1) (47 : Int32)).set (aN + 2) (109 : Int32)).set (aN + 3) (101 : Int32)).set (aN + 4) (116 : Int32))).length := (by simp only [List.length_set]; exact own_pi hb_ (by decide))
  obtain ⟨hx11, hy11, hz11⟩ := own_ix hj11 (by simp only [List.length_set]; exact hN) hi11
  obtain ⟨cl11, Ar11, qc11, Sz11, Ng11, Hs11, Gf11⟩ := id (F10)
  have hin11 : ¬ ((p1 + (5 : Int32)) < 0 ∨ cl11.slots.size ≤ ((p1 + (5 : Int32))).toNatClampNeg) := inb_of Sz11 ⟨hx11, hy11⟩
  obtain ⟨T11, h11, X11, e11, W11, st11⟩ := stB X9 hx hZ e9 Ar11 (j := (p1 + (5 : Int32))) hin11 (g := (mkF m 39 #[.val (.ref b), .val (.int p1)] [(.int (104 : Int32)), (.int (p1 + (5 : Int32))), (.ref b)])) rfl rfl (hb hby d4_39)
  refine Go.by (fun _ => st11 _) ?_
  have O11 := O9.wr W11 gb
  have Z11 : n0 ≤ h11.size := Nat.le_trans Z9 (Keep.of_wr W11).1
  have K11 : Keep h0 h11 [b] := K9.wr W11 (Or.inl (List.mem_of_getElem? (i := 0) rfl))
  have F12 : Arv Z h11 b kb .byte nB (((((((bs.set (aN) (60 : Int32)).set (aN + 1) (47 : Int32)).set (aN + 2) (109 : Int32)).set (aN + 3) (101 : Int32)).set (aN + 4) (116 : Int32)).set (aN + 5) (104 : Int32)).map Value.int) (.int (0 : Int32)) := own_arvB Ar11 qc11 Sz11 Ng11 Hs11 Gf11 W11 (by decide) (aN + 5) hz11 (by rw [List.length_map]; exact hi11)
  have N11 := Fr.snoc X11 N9 gb
  show Go p e below P (T11.setTop (mkF m 40 #[.val (.ref b), .val (.int p1)] []))
  refine Go.by (fun _ => XS.aloadN X11.here hx rfl (hb hby d4_40) rfl rfl) ?_
  show Go p e below P (T11.setTop (mkF m 41 #[.val (.ref b), .val (.int p1)] [(.ref b)]))
  refine Go.by (fun _ => XS.iloadN X11.here hx rfl (hb hby d4_41) rfl) ?_
  show Go p e below P (T11.setTop (mkF m 42 #[.val (.ref b), .val (.int p1)] [(.int p1), (.ref b)]))
  refine Go.by (fun _ => XS.bipush X11.here hx rfl (hb hby d4_42)) ?_
  show Go p e below P (T11.setTop (mkF m 44 #[.val (.ref b), .val (.int p1)] [(.int (6 : Int32)), (.int p1), (.ref b)]))
  refine Go.by (fun _ => XS.iadd X11.here hx rfl (hb hby d4_44) rfl) ?_
  show Go p e below P (T11.setTop (mkF m 45 #[.val (.ref b), .val (.int p1)] [(.int (p1 + (6 : Int32))), (.ref b)]))
  refine Go.by (fun _ => XS.bipush X11.here hx rfl (hb hby d4_45)) ?_
  show Go p e below P (T11.setTop (mkF m 47 #[.val (.ref b), .val (.int p1)] [(.int (111 : Int32)), (.int (p1 + (6 : Int32))), (.ref b)]))
  have hj13 : ((p1 + (6 : Int32))).toInt = ((aN + 6 : Nat) : Int) := (own_pj (k := 6) (kN := 6) ha rfl hb_ hbl (by decide))
  have hi13 : aN + 6 < (((((((bs.set (aN) (60 : Int32)).set (aN + 1) (47 : Int32)).set (aN + 2) (109 : Int32)).set (aN + 3) (101 : Int32)).set (aN + 4) (116 : Int32)).set (aN + 5) (104 : Int32))).length := (by simp only [List.length_set]; exact own_pi hb_ (by decide))
  obtain ⟨hx13, hy13, hz13⟩ := own_ix hj13 (by simp only [List.length_set]; exact hN) hi13
  obtain ⟨cl13, Ar13, qc13, Sz13, Ng13, Hs13, Gf13⟩ := id (F12)
  have hin13 : ¬ ((p1 + (6 : Int32)) < 0 ∨ cl13.slots.size ≤ ((p1 + (6 : Int32))).toNatClampNeg) := inb_of Sz13 ⟨hx13, hy13⟩
  obtain ⟨T13, h13, X13, e13, W13, st13⟩ := stB X11 hx hZ e11 Ar13 (j := (p1 + (6 : Int32))) hin13 (g := (mkF m 47 #[.val (.ref b), .val (.int p1)] [(.int (111 : Int32)), (.int (p1 + (6 : Int32))), (.ref b)])) rfl rfl (hb hby d4_47)
  refine Go.by (fun _ => st13 _) ?_
  have O13 := O11.wr W13 gb
  have Z13 : n0 ≤ h13.size := Nat.le_trans Z11 (Keep.of_wr W13).1
  have K13 : Keep h0 h13 [b] := K11.wr W13 (Or.inl (List.mem_of_getElem? (i := 0) rfl))
  have F14 : Arv Z h13 b kb .byte nB ((((((((bs.set (aN) (60 : Int32)).set (aN + 1) (47 : Int32)).set (aN + 2) (109 : Int32)).set (aN + 3) (101 : Int32)).set (aN + 4) (116 : Int32)).set (aN + 5) (104 : Int32)).set (aN + 6) (111 : Int32)).map Value.int) (.int (0 : Int32)) := own_arvB Ar13 qc13 Sz13 Ng13 Hs13 Gf13 W13 (by decide) (aN + 6) hz13 (by rw [List.length_map]; exact hi13)
  have N13 := Fr.snoc X13 N11 gb
  show Go p e below P (T13.setTop (mkF m 48 #[.val (.ref b), .val (.int p1)] []))
  refine Go.by (fun _ => XS.aloadN X13.here hx rfl (hb hby d4_48) rfl rfl) ?_
  show Go p e below P (T13.setTop (mkF m 49 #[.val (.ref b), .val (.int p1)] [(.ref b)]))
  refine Go.by (fun _ => XS.iloadN X13.here hx rfl (hb hby d4_49) rfl) ?_
  show Go p e below P (T13.setTop (mkF m 50 #[.val (.ref b), .val (.int p1)] [(.int p1), (.ref b)]))
  refine Go.by (fun _ => XS.bipush X13.here hx rfl (hb hby d4_50)) ?_
  show Go p e below P (T13.setTop (mkF m 52 #[.val (.ref b), .val (.int p1)] [(.int (7 : Int32)), (.int p1), (.ref b)]))
  refine Go.by (fun _ => XS.iadd X13.here hx rfl (hb hby d4_52) rfl) ?_
  show Go p e below P (T13.setTop (mkF m 53 #[.val (.ref b), .val (.int p1)] [(.int (p1 + (7 : Int32))), (.ref b)]))
  refine Go.by (fun _ => XS.bipush X13.here hx rfl (hb hby d4_53)) ?_
  show Go p e below P (T13.setTop (mkF m 55 #[.val (.ref b), .val (.int p1)] [(.int (100 : Int32)), (.int (p1 + (7 : Int32))), (.ref b)]))
  have hj15 : ((p1 + (7 : Int32))).toInt = ((aN + 7 : Nat) : Int) := (own_pj (k := 7) (kN := 7) ha rfl hb_ hbl (by decide))
  have hi15 : aN + 7 < ((((((((bs.set (aN) (60 : Int32)).set (aN + 1) (47 : Int32)).set (aN + 2) (109 : Int32)).set (aN + 3) (101 : Int32)).set (aN + 4) (116 : Int32)).set (aN + 5) (104 : Int32)).set (aN + 6) (111 : Int32))).length := (by simp only [List.length_set]; exact own_pi hb_ (by decide))
  obtain ⟨hx15, hy15, hz15⟩ := own_ix hj15 (by simp only [List.length_set]; exact hN) hi15
  obtain ⟨cl15, Ar15, qc15, Sz15, Ng15, Hs15, Gf15⟩ := id (F14)
  have hin15 : ¬ ((p1 + (7 : Int32)) < 0 ∨ cl15.slots.size ≤ ((p1 + (7 : Int32))).toNatClampNeg) := inb_of Sz15 ⟨hx15, hy15⟩
  obtain ⟨T15, h15, X15, e15, W15, st15⟩ := stB X13 hx hZ e13 Ar15 (j := (p1 + (7 : Int32))) hin15 (g := (mkF m 55 #[.val (.ref b), .val (.int p1)] [(.int (100 : Int32)), (.int (p1 + (7 : Int32))), (.ref b)])) rfl rfl (hb hby d4_55)
  refine Go.by (fun _ => st15 _) ?_
  have O15 := O13.wr W15 gb
  have Z15 : n0 ≤ h15.size := Nat.le_trans Z13 (Keep.of_wr W15).1
  have K15 : Keep h0 h15 [b] := K13.wr W15 (Or.inl (List.mem_of_getElem? (i := 0) rfl))
  have F16 : Arv Z h15 b kb .byte nB (((((((((bs.set (aN) (60 : Int32)).set (aN + 1) (47 : Int32)).set (aN + 2) (109 : Int32)).set (aN + 3) (101 : Int32)).set (aN + 4) (116 : Int32)).set (aN + 5) (104 : Int32)).set (aN + 6) (111 : Int32)).set (aN + 7) (100 : Int32)).map Value.int) (.int (0 : Int32)) := own_arvB Ar15 qc15 Sz15 Ng15 Hs15 Gf15 W15 (by decide) (aN + 7) hz15 (by rw [List.length_map]; exact hi15)
  have N15 := Fr.snoc X15 N13 gb
  show Go p e below P (T15.setTop (mkF m 56 #[.val (.ref b), .val (.int p1)] []))
  refine Go.by (fun _ => XS.aloadN X15.here hx rfl (hb hby d4_56) rfl rfl) ?_
  show Go p e below P (T15.setTop (mkF m 57 #[.val (.ref b), .val (.int p1)] [(.ref b)]))
  refine Go.by (fun _ => XS.iloadN X15.here hx rfl (hb hby d4_57) rfl) ?_
  show Go p e below P (T15.setTop (mkF m 58 #[.val (.ref b), .val (.int p1)] [(.int p1), (.ref b)]))
  refine Go.by (fun _ => XS.bipush X15.here hx rfl (hb hby d4_58)) ?_
  show Go p e below P (T15.setTop (mkF m 60 #[.val (.ref b), .val (.int p1)] [(.int (8 : Int32)), (.int p1), (.ref b)]))
  refine Go.by (fun _ => XS.iadd X15.here hx rfl (hb hby d4_60) rfl) ?_
  show Go p e below P (T15.setTop (mkF m 61 #[.val (.ref b), .val (.int p1)] [(.int (p1 + (8 : Int32))), (.ref b)]))
  refine Go.by (fun _ => XS.bipush X15.here hx rfl (hb hby d4_61)) ?_
  show Go p e below P (T15.setTop (mkF m 63 #[.val (.ref b), .val (.int p1)] [(.int (82 : Int32)), (.int (p1 + (8 : Int32))), (.ref b)]))
  have hj17 : ((p1 + (8 : Int32))).toInt = ((aN + 8 : Nat) : Int) := (own_pj (k := 8) (kN := 8) ha rfl hb_ hbl (by decide))
  have hi17 : aN + 8 < (((((((((bs.set (aN) (60 : Int32)).set (aN + 1) (47 : Int32)).set (aN + 2) (109 : Int32)).set (aN + 3) (101 : Int32)).set (aN + 4) (116 : Int32)).set (aN + 5) (104 : Int32)).set (aN + 6) (111 : Int32)).set (aN + 7) (100 : Int32))).length := (by simp only [List.length_set]; exact own_pi hb_ (by decide))
  obtain ⟨hx17, hy17, hz17⟩ := own_ix hj17 (by simp only [List.length_set]; exact hN) hi17
  obtain ⟨cl17, Ar17, qc17, Sz17, Ng17, Hs17, Gf17⟩ := id (F16)
  have hin17 : ¬ ((p1 + (8 : Int32)) < 0 ∨ cl17.slots.size ≤ ((p1 + (8 : Int32))).toNatClampNeg) := inb_of Sz17 ⟨hx17, hy17⟩
  obtain ⟨T17, h17, X17, e17, W17, st17⟩ := stB X15 hx hZ e15 Ar17 (j := (p1 + (8 : Int32))) hin17 (g := (mkF m 63 #[.val (.ref b), .val (.int p1)] [(.int (82 : Int32)), (.int (p1 + (8 : Int32))), (.ref b)])) rfl rfl (hb hby d4_63)
  refine Go.by (fun _ => st17 _) ?_
  have O17 := O15.wr W17 gb
  have Z17 : n0 ≤ h17.size := Nat.le_trans Z15 (Keep.of_wr W17).1
  have K17 : Keep h0 h17 [b] := K15.wr W17 (Or.inl (List.mem_of_getElem? (i := 0) rfl))
  have F18 : Arv Z h17 b kb .byte nB ((((((((((bs.set (aN) (60 : Int32)).set (aN + 1) (47 : Int32)).set (aN + 2) (109 : Int32)).set (aN + 3) (101 : Int32)).set (aN + 4) (116 : Int32)).set (aN + 5) (104 : Int32)).set (aN + 6) (111 : Int32)).set (aN + 7) (100 : Int32)).set (aN + 8) (82 : Int32)).map Value.int) (.int (0 : Int32)) := own_arvB Ar17 qc17 Sz17 Ng17 Hs17 Gf17 W17 (by decide) (aN + 8) hz17 (by rw [List.length_map]; exact hi17)
  have N17 := Fr.snoc X17 N15 gb
  show Go p e below P (T17.setTop (mkF m 64 #[.val (.ref b), .val (.int p1)] []))
  refine Go.by (fun _ => XS.aloadN X17.here hx rfl (hb hby d4_64) rfl rfl) ?_
  show Go p e below P (T17.setTop (mkF m 65 #[.val (.ref b), .val (.int p1)] [(.ref b)]))
  refine Go.by (fun _ => XS.iloadN X17.here hx rfl (hb hby d4_65) rfl) ?_
  show Go p e below P (T17.setTop (mkF m 66 #[.val (.ref b), .val (.int p1)] [(.int p1), (.ref b)]))
  refine Go.by (fun _ => XS.bipush X17.here hx rfl (hb hby d4_66)) ?_
  show Go p e below P (T17.setTop (mkF m 68 #[.val (.ref b), .val (.int p1)] [(.int (9 : Int32)), (.int p1), (.ref b)]))
  refine Go.by (fun _ => XS.iadd X17.here hx rfl (hb hby d4_68) rfl) ?_
  show Go p e below P (T17.setTop (mkF m 69 #[.val (.ref b), .val (.int p1)] [(.int (p1 + (9 : Int32))), (.ref b)]))
  refine Go.by (fun _ => XS.bipush X17.here hx rfl (hb hby d4_69)) ?_
  show Go p e below P (T17.setTop (mkF m 71 #[.val (.ref b), .val (.int p1)] [(.int (101 : Int32)), (.int (p1 + (9 : Int32))), (.ref b)]))
  have hj19 : ((p1 + (9 : Int32))).toInt = ((aN + 9 : Nat) : Int) := (own_pj (k := 9) (kN := 9) ha rfl hb_ hbl (by decide))
  have hi19 : aN + 9 < ((((((((((bs.set (aN) (60 : Int32)).set (aN + 1) (47 : Int32)).set (aN + 2) (109 : Int32)).set (aN + 3) (101 : Int32)).set (aN + 4) (116 : Int32)).set (aN + 5) (104 : Int32)).set (aN + 6) (111 : Int32)).set (aN + 7) (100 : Int32)).set (aN + 8) (82 : Int32))).length := (by simp only [List.length_set]; exact own_pi hb_ (by decide))
  obtain ⟨hx19, hy19, hz19⟩ := own_ix hj19 (by simp only [List.length_set]; exact hN) hi19
  obtain ⟨cl19, Ar19, qc19, Sz19, Ng19, Hs19, Gf19⟩ := id (F18)
  have hin19 : ¬ ((p1 + (9 : Int32)) < 0 ∨ cl19.slots.size ≤ ((p1 + (9 : Int32))).toNatClampNeg) := inb_of Sz19 ⟨hx19, hy19⟩
  obtain ⟨T19, h19, X19, e19, W19, st19⟩ := stB X17 hx hZ e17 Ar19 (j := (p1 + (9 : Int32))) hin19 (g := (mkF m 71 #[.val (.ref b), .val (.int p1)] [(.int (101 : Int32)), (.int (p1 + (9 : Int32))), (.ref b)])) rfl rfl (hb hby d4_71)
  refine Go.by (fun _ => st19 _) ?_
  have O19 := O17.wr W19 gb
  have Z19 : n0 ≤ h19.size := Nat.le_trans Z17 (Keep.of_wr W19).1
  have K19 : Keep h0 h19 [b] := K17.wr W19 (Or.inl (List.mem_of_getElem? (i := 0) rfl))
  have F20 : Arv Z h19 b kb .byte nB (((((((((((bs.set (aN) (60 : Int32)).set (aN + 1) (47 : Int32)).set (aN + 2) (109 : Int32)).set (aN + 3) (101 : Int32)).set (aN + 4) (116 : Int32)).set (aN + 5) (104 : Int32)).set (aN + 6) (111 : Int32)).set (aN + 7) (100 : Int32)).set (aN + 8) (82 : Int32)).set (aN + 9) (101 : Int32)).map Value.int) (.int (0 : Int32)) := own_arvB Ar19 qc19 Sz19 Ng19 Hs19 Gf19 W19 (by decide) (aN + 9) hz19 (by rw [List.length_map]; exact hi19)
  have N19 := Fr.snoc X19 N17 gb
  show Go p e below P (T19.setTop (mkF m 72 #[.val (.ref b), .val (.int p1)] []))
  refine Go.by (fun _ => XS.aloadN X19.here hx rfl (hb hby d4_72) rfl rfl) ?_
  show Go p e below P (T19.setTop (mkF m 73 #[.val (.ref b), .val (.int p1)] [(.ref b)]))
  refine Go.by (fun _ => XS.iloadN X19.here hx rfl (hb hby d4_73) rfl) ?_
  show Go p e below P (T19.setTop (mkF m 74 #[.val (.ref b), .val (.int p1)] [(.int p1), (.ref b)]))
  refine Go.by (fun _ => XS.bipush X19.here hx rfl (hb hby d4_74)) ?_
  show Go p e below P (T19.setTop (mkF m 76 #[.val (.ref b), .val (.int p1)] [(.int (10 : Int32)), (.int p1), (.ref b)]))
  refine Go.by (fun _ => XS.iadd X19.here hx rfl (hb hby d4_76) rfl) ?_
  show Go p e below P (T19.setTop (mkF m 77 #[.val (.ref b), .val (.int p1)] [(.int (p1 + (10 : Int32))), (.ref b)]))
  refine Go.by (fun _ => XS.bipush X19.here hx rfl (hb hby d4_77)) ?_
  show Go p e below P (T19.setTop (mkF m 79 #[.val (.ref b), .val (.int p1)] [(.int (115 : Int32)), (.int (p1 + (10 : Int32))), (.ref b)]))
  have hj21 : ((p1 + (10 : Int32))).toInt = ((aN + 10 : Nat) : Int) := (own_pj (k := 10) (kN := 10) ha rfl hb_ hbl (by decide))
  have hi21 : aN + 10 < (((((((((((bs.set (aN) (60 : Int32)).set (aN + 1) (47 : Int32)).set (aN + 2) (109 : Int32)).set (aN + 3) (101 : Int32)).set (aN + 4) (116 : Int32)).set (aN + 5) (104 : Int32)).set (aN + 6) (111 : Int32)).set (aN + 7) (100 : Int32)).set (aN + 8) (82 : Int32)).set (aN + 9) (101 : Int32))).length := (by simp only [List.length_set]; exact own_pi hb_ (by decide))
  obtain ⟨hx21, hy21, hz21⟩ := own_ix hj21 (by simp only [List.length_set]; exact hN) hi21
  obtain ⟨cl21, Ar21, qc21, Sz21, Ng21, Hs21, Gf21⟩ := id (F20)
  have hin21 : ¬ ((p1 + (10 : Int32)) < 0 ∨ cl21.slots.size ≤ ((p1 + (10 : Int32))).toNatClampNeg) := inb_of Sz21 ⟨hx21, hy21⟩
  obtain ⟨T21, h21, X21, e21, W21, st21⟩ := stB X19 hx hZ e19 Ar21 (j := (p1 + (10 : Int32))) hin21 (g := (mkF m 79 #[.val (.ref b), .val (.int p1)] [(.int (115 : Int32)), (.int (p1 + (10 : Int32))), (.ref b)])) rfl rfl (hb hby d4_79)
  refine Go.by (fun _ => st21 _) ?_
  have O21 := O19.wr W21 gb
  have Z21 : n0 ≤ h21.size := Nat.le_trans Z19 (Keep.of_wr W21).1
  have K21 : Keep h0 h21 [b] := K19.wr W21 (Or.inl (List.mem_of_getElem? (i := 0) rfl))
  have F22 : Arv Z h21 b kb .byte nB ((((((((((((bs.set (aN) (60 : Int32)).set (aN + 1) (47 : Int32)).set (aN + 2) (109 : Int32)).set (aN + 3) (101 : Int32)).set (aN + 4) (116 : Int32)).set (aN + 5) (104 : Int32)).set (aN + 6) (111 : Int32)).set (aN + 7) (100 : Int32)).set (aN + 8) (82 : Int32)).set (aN + 9) (101 : Int32)).set (aN + 10) (115 : Int32)).map Value.int) (.int (0 : Int32)) := own_arvB Ar21 qc21 Sz21 Ng21 Hs21 Gf21 W21 (by decide) (aN + 10) hz21 (by rw [List.length_map]; exact hi21)
  have N21 := Fr.snoc X21 N19 gb
  show Go p e below P (T21.setTop (mkF m 80 #[.val (.ref b), .val (.int p1)] []))
  refine Go.by (fun _ => XS.aloadN X21.here hx rfl (hb hby d4_80) rfl rfl) ?_
  show Go p e below P (T21.setTop (mkF m 81 #[.val (.ref b), .val (.int p1)] [(.ref b)]))
  refine Go.by (fun _ => XS.iloadN X21.here hx rfl (hb hby d4_81) rfl) ?_
  show Go p e below P (T21.setTop (mkF m 82 #[.val (.ref b), .val (.int p1)] [(.int p1), (.ref b)]))
  refine Go.by (fun _ => XS.bipush X21.here hx rfl (hb hby d4_82)) ?_
  show Go p e below P (T21.setTop (mkF m 84 #[.val (.ref b), .val (.int p1)] [(.int (11 : Int32)), (.int p1), (.ref b)]))
  refine Go.by (fun _ => XS.iadd X21.here hx rfl (hb hby d4_84) rfl) ?_
  show Go p e below P (T21.setTop (mkF m 85 #[.val (.ref b), .val (.int p1)] [(.int (p1 + (11 : Int32))), (.ref b)]))
  refine Go.by (fun _ => XS.bipush X21.here hx rfl (hb hby d4_85)) ?_
  show Go p e below P (T21.setTop (mkF m 87 #[.val (.ref b), .val (.int p1)] [(.int (112 : Int32)), (.int (p1 + (11 : Int32))), (.ref b)]))
  have hj23 : ((p1 + (11 : Int32))).toInt = ((aN + 11 : Nat) : Int) := (own_pj (k := 11) (kN := 11) ha rfl hb_ hbl (by decide))
  have hi23 : aN + 11 < ((((((((((((bs.set (aN) (60 : Int32)).set (aN + 1) (47 : Int32)).set (aN + 2) (109 : Int32)).set (aN + 3) (101 : Int32)).set (aN + 4) (116 : Int32)).set (aN + 5) (104 : Int32)).set (aN + 6) (111 : Int32)).set (aN + 7) (100 : Int32)).set (aN + 8) (82 : Int32)).set (aN + 9) (101 : Int32)).set (aN + 10) (115 : Int32))).length := (by simp only [List.length_set]; exact own_pi hb_ (by decide))
  obtain ⟨hx23, hy23, hz23⟩ := own_ix hj23 (by simp only [List.length_set]; exact hN) hi23
  obtain ⟨cl23, Ar23, qc23, Sz23, Ng23, Hs23, Gf23⟩ := id (F22)
  have hin23 : ¬ ((p1 + (11 : Int32)) < 0 ∨ cl23.slots.size ≤ ((p1 + (11 : Int32))).toNatClampNeg) := inb_of Sz23 ⟨hx23, hy23⟩
  obtain ⟨T23, h23, X23, e23, W23, st23⟩ := stB X21 hx hZ e21 Ar23 (j := (p1 + (11 : Int32))) hin23 (g := (mkF m 87 #[.val (.ref b), .val (.int p1)] [(.int (112 : Int32)), (.int (p1 + (11 : Int32))), (.ref b)])) rfl rfl (hb hby d4_87)
  refine Go.by (fun _ => st23 _) ?_
  have O23 := O21.wr W23 gb
  have Z23 : n0 ≤ h23.size := Nat.le_trans Z21 (Keep.of_wr W23).1
  have K23 : Keep h0 h23 [b] := K21.wr W23 (Or.inl (List.mem_of_getElem? (i := 0) rfl))
  have F24 : Arv Z h23 b kb .byte nB (((((((((((((bs.set (aN) (60 : Int32)).set (aN + 1) (47 : Int32)).set (aN + 2) (109 : Int32)).set (aN + 3) (101 : Int32)).set (aN + 4) (116 : Int32)).set (aN + 5) (104 : Int32)).set (aN + 6) (111 : Int32)).set (aN + 7) (100 : Int32)).set (aN + 8) (82 : Int32)).set (aN + 9) (101 : Int32)).set (aN + 10) (115 : Int32)).set (aN + 11) (112 : Int32)).map Value.int) (.int (0 : Int32)) := own_arvB Ar23 qc23 Sz23 Ng23 Hs23 Gf23 W23 (by decide) (aN + 11) hz23 (by rw [List.length_map]; exact hi23)
  have N23 := Fr.snoc X23 N21 gb
  show Go p e below P (T23.setTop (mkF m 88 #[.val (.ref b), .val (.int p1)] []))
  refine Go.by (fun _ => XS.aloadN X23.here hx rfl (hb hby d4_88) rfl rfl) ?_
  show Go p e below P (T23.setTop (mkF m 89 #[.val (.ref b), .val (.int p1)] [(.ref b)]))
  refine Go.by (fun _ => XS.iloadN X23.here hx rfl (hb hby d4_89) rfl) ?_
  show Go p e below P (T23.setTop (mkF m 90 #[.val (.ref b), .val (.int p1)] [(.int p1), (.ref b)]))
  refine Go.by (fun _ => XS.bipush X23.here hx rfl (hb hby d4_90)) ?_
  show Go p e below P (T23.setTop (mkF m 92 #[.val (.ref b), .val (.int p1)] [(.int (12 : Int32)), (.int p1), (.ref b)]))
  refine Go.by (fun _ => XS.iadd X23.here hx rfl (hb hby d4_92) rfl) ?_
  show Go p e below P (T23.setTop (mkF m 93 #[.val (.ref b), .val (.int p1)] [(.int (p1 + (12 : Int32))), (.ref b)]))
  refine Go.by (fun _ => XS.bipush X23.here hx rfl (hb hby d4_93)) ?_
  show Go p e below P (T23.setTop (mkF m 95 #[.val (.ref b), .val (.int p1)] [(.int (111 : Int32)), (.int (p1 + (12 : Int32))), (.ref b)]))
  have hj25 : ((p1 + (12 : Int32))).toInt = ((aN + 12 : Nat) : Int) := (own_pj (k := 12) (kN := 12) ha rfl hb_ hbl (by decide))
  have hi25 : aN + 12 < (((((((((((((bs.set (aN) (60 : Int32)).set (aN + 1) (47 : Int32)).set (aN + 2) (109 : Int32)).set (aN + 3) (101 : Int32)).set (aN + 4) (116 : Int32)).set (aN + 5) (104 : Int32)).set (aN + 6) (111 : Int32)).set (aN + 7) (100 : Int32)).set (aN + 8) (82 : Int32)).set (aN + 9) (101 : Int32)).set (aN + 10) (115 : Int32)).set (aN + 11) (112 : Int32))).length := (by simp only [List.length_set]; exact own_pi hb_ (by decide))
  obtain ⟨hx25, hy25, hz25⟩ := own_ix hj25 (by simp only [List.length_set]; exact hN) hi25
  obtain ⟨cl25, Ar25, qc25, Sz25, Ng25, Hs25, Gf25⟩ := id (F24)
  have hin25 : ¬ ((p1 + (12 : Int32)) < 0 ∨ cl25.slots.size ≤ ((p1 + (12 : Int32))).toNatClampNeg) := inb_of Sz25 ⟨hx25, hy25⟩
  obtain ⟨T25, h25, X25, e25, W25, st25⟩ := stB X23 hx hZ e23 Ar25 (j := (p1 + (12 : Int32))) hin25 (g := (mkF m 95 #[.val (.ref b), .val (.int p1)] [(.int (111 : Int32)), (.int (p1 + (12 : Int32))), (.ref b)])) rfl rfl (hb hby d4_95)
  refine Go.by (fun _ => st25 _) ?_
  have O25 := O23.wr W25 gb
  have Z25 : n0 ≤ h25.size := Nat.le_trans Z23 (Keep.of_wr W25).1
  have K25 : Keep h0 h25 [b] := K23.wr W25 (Or.inl (List.mem_of_getElem? (i := 0) rfl))
  have F26 : Arv Z h25 b kb .byte nB ((((((((((((((bs.set (aN) (60 : Int32)).set (aN + 1) (47 : Int32)).set (aN + 2) (109 : Int32)).set (aN + 3) (101 : Int32)).set (aN + 4) (116 : Int32)).set (aN + 5) (104 : Int32)).set (aN + 6) (111 : Int32)).set (aN + 7) (100 : Int32)).set (aN + 8) (82 : Int32)).set (aN + 9) (101 : Int32)).set (aN + 10) (115 : Int32)).set (aN + 11) (112 : Int32)).set (aN + 12) (111 : Int32)).map Value.int) (.int (0 : Int32)) := own_arvB Ar25 qc25 Sz25 Ng25 Hs25 Gf25 W25 (by decide) (aN + 12) hz25 (by rw [List.length_map]; exact hi25)
  have N25 := Fr.snoc X25 N23 gb
  show Go p e below P (T25.setTop (mkF m 96 #[.val (.ref b), .val (.int p1)] []))
  refine Go.by (fun _ => XS.aloadN X25.here hx rfl (hb hby d4_96) rfl rfl) ?_
  show Go p e below P (T25.setTop (mkF m 97 #[.val (.ref b), .val (.int p1)] [(.ref b)]))
  refine Go.by (fun _ => XS.iloadN X25.here hx rfl (hb hby d4_97) rfl) ?_
  show Go p e below P (T25.setTop (mkF m 98 #[.val (.ref b), .val (.int p1)] [(.int p1), (.ref b)]))
  refine Go.by (fun _ => XS.bipush X25.here hx rfl (hb hby d4_98)) ?_
  show Go p e below P (T25.setTop (mkF m 100 #[.val (.ref b), .val (.int p1)] [(.int (13 : Int32)), (.int p1), (.ref b)]))
  refine Go.by (fun _ => XS.iadd X25.here hx rfl (hb hby d4_100) rfl) ?_
  show Go p e below P (T25.setTop (mkF m 101 #[.val (.ref b), .val (.int p1)] [(.int (p1 + (13 : Int32))), (.ref b)]))
  refine Go.by (fun _ => XS.bipush X25.here hx rfl (hb hby d4_101)) ?_
  show Go p e below P (T25.setTop (mkF m 103 #[.val (.ref b), .val (.int p1)] [(.int (110 : Int32)), (.int (p1 + (13 : Int32))), (.ref b)]))
  have hj27 : ((p1 + (13 : Int32))).toInt = ((aN + 13 : Nat) : Int) := (own_pj (k := 13) (kN := 13) ha rfl hb_ hbl (by decide))
  have hi27 : aN + 13 < ((((((((((((((bs.set (aN) (60 : Int32)).set (aN + 1) (47 : Int32)).set (aN + 2) (109 : Int32)).set (aN + 3) (101 : Int32)).set (aN + 4) (116 : Int32)).set (aN + 5) (104 : Int32)).set (aN + 6) (111 : Int32)).set (aN + 7) (100 : Int32)).set (aN + 8) (82 : Int32)).set (aN + 9) (101 : Int32)).set (aN + 10) (115 : Int32)).set (aN + 11) (112 : Int32)).set (aN + 12) (111 : Int32))).length := (by simp only [List.length_set]; exact own_pi hb_ (by decide))
  obtain ⟨hx27, hy27, hz27⟩ := own_ix hj27 (by simp only [List.length_set]; exact hN) hi27
  obtain ⟨cl27, Ar27, qc27, Sz27, Ng27, Hs27, Gf27⟩ := id (F26)
  have hin27 : ¬ ((p1 + (13 : Int32)) < 0 ∨ cl27.slots.size ≤ ((p1 + (13 : Int32))).toNatClampNeg) := inb_of Sz27 ⟨hx27, hy27⟩
  obtain ⟨T27, h27, X27, e27, W27, st27⟩ := stB X25 hx hZ e25 Ar27 (j := (p1 + (13 : Int32))) hin27 (g := (mkF m 103 #[.val (.ref b), .val (.int p1)] [(.int (110 : Int32)), (.int (p1 + (13 : Int32))), (.ref b)])) rfl rfl (hb hby d4_103)
  refine Go.by (fun _ => st27 _) ?_
  have O27 := O25.wr W27 gb
  have Z27 : n0 ≤ h27.size := Nat.le_trans Z25 (Keep.of_wr W27).1
  have K27 : Keep h0 h27 [b] := K25.wr W27 (Or.inl (List.mem_of_getElem? (i := 0) rfl))
  have F28 : Arv Z h27 b kb .byte nB (((((((((((((((bs.set (aN) (60 : Int32)).set (aN + 1) (47 : Int32)).set (aN + 2) (109 : Int32)).set (aN + 3) (101 : Int32)).set (aN + 4) (116 : Int32)).set (aN + 5) (104 : Int32)).set (aN + 6) (111 : Int32)).set (aN + 7) (100 : Int32)).set (aN + 8) (82 : Int32)).set (aN + 9) (101 : Int32)).set (aN + 10) (115 : Int32)).set (aN + 11) (112 : Int32)).set (aN + 12) (111 : Int32)).set (aN + 13) (110 : Int32)).map Value.int) (.int (0 : Int32)) := own_arvB Ar27 qc27 Sz27 Ng27 Hs27 Gf27 W27 (by decide) (aN + 13) hz27 (by rw [List.length_map]; exact hi27)
  have N27 := Fr.snoc X27 N25 gb
  show Go p e below P (T27.setTop (mkF m 104 #[.val (.ref b), .val (.int p1)] []))
  refine Go.by (fun _ => XS.aloadN X27.here hx rfl (hb hby d4_104) rfl rfl) ?_
  show Go p e below P (T27.setTop (mkF m 105 #[.val (.ref b), .val (.int p1)] [(.ref b)]))
  refine Go.by (fun _ => XS.iloadN X27.here hx rfl (hb hby d4_105) rfl) ?_
  show Go p e below P (T27.setTop (mkF m 106 #[.val (.ref b), .val (.int p1)] [(.int p1), (.ref b)]))
  refine Go.by (fun _ => XS.bipush X27.here hx rfl (hb hby d4_106)) ?_
  show Go p e below P (T27.setTop (mkF m 108 #[.val (.ref b), .val (.int p1)] [(.int (14 : Int32)), (.int p1), (.ref b)]))
  refine Go.by (fun _ => XS.iadd X27.here hx rfl (hb hby d4_108) rfl) ?_
  show Go p e below P (T27.setTop (mkF m 109 #[.val (.ref b), .val (.int p1)] [(.int (p1 + (14 : Int32))), (.ref b)]))
  refine Go.by (fun _ => XS.bipush X27.here hx rfl (hb hby d4_109)) ?_
  show Go p e below P (T27.setTop (mkF m 111 #[.val (.ref b), .val (.int p1)] [(.int (115 : Int32)), (.int (p1 + (14 : Int32))), (.ref b)]))
  have hj29 : ((p1 + (14 : Int32))).toInt = ((aN + 14 : Nat) : Int) := (own_pj (k := 14) (kN := 14) ha rfl hb_ hbl (by decide))
  have hi29 : aN + 14 < (((((((((((((((bs.set (aN) (60 : Int32)).set (aN + 1) (47 : Int32)).set (aN + 2) (109 : Int32)).set (aN + 3) (101 : Int32)).set (aN + 4) (116 : Int32)).set (aN + 5) (104 : Int32)).set (aN + 6) (111 : Int32)).set (aN + 7) (100 : Int32)).set (aN + 8) (82 : Int32)).set (aN + 9) (101 : Int32)).set (aN + 10) (115 : Int32)).set (aN + 11) (112 : Int32)).set (aN + 12) (111 : Int32)).set (aN + 13) (110 : Int32))).length := (by simp only [List.length_set]; exact own_pi hb_ (by decide))
  obtain ⟨hx29, hy29, hz29⟩ := own_ix hj29 (by simp only [List.length_set]; exact hN) hi29
  obtain ⟨cl29, Ar29, qc29, Sz29, Ng29, Hs29, Gf29⟩ := id (F28)
  have hin29 : ¬ ((p1 + (14 : Int32)) < 0 ∨ cl29.slots.size ≤ ((p1 + (14 : Int32))).toNatClampNeg) := inb_of Sz29 ⟨hx29, hy29⟩
  obtain ⟨T29, h29, X29, e29, W29, st29⟩ := stB X27 hx hZ e27 Ar29 (j := (p1 + (14 : Int32))) hin29 (g := (mkF m 111 #[.val (.ref b), .val (.int p1)] [(.int (115 : Int32)), (.int (p1 + (14 : Int32))), (.ref b)])) rfl rfl (hb hby d4_111)
  refine Go.by (fun _ => st29 _) ?_
  have O29 := O27.wr W29 gb
  have Z29 : n0 ≤ h29.size := Nat.le_trans Z27 (Keep.of_wr W29).1
  have K29 : Keep h0 h29 [b] := K27.wr W29 (Or.inl (List.mem_of_getElem? (i := 0) rfl))
  have F30 : Arv Z h29 b kb .byte nB ((((((((((((((((bs.set (aN) (60 : Int32)).set (aN + 1) (47 : Int32)).set (aN + 2) (109 : Int32)).set (aN + 3) (101 : Int32)).set (aN + 4) (116 : Int32)).set (aN + 5) (104 : Int32)).set (aN + 6) (111 : Int32)).set (aN + 7) (100 : Int32)).set (aN + 8) (82 : Int32)).set (aN + 9) (101 : Int32)).set (aN + 10) (115 : Int32)).set (aN + 11) (112 : Int32)).set (aN + 12) (111 : Int32)).set (aN + 13) (110 : Int32)).set (aN + 14) (115 : Int32)).map Value.int) (.int (0 : Int32)) := own_arvB Ar29 qc29 Sz29 Ng29 Hs29 Gf29 W29 (by decide) (aN + 14) hz29 (by rw [List.length_map]; exact hi29)
  have N29 := Fr.snoc X29 N27 gb
  show Go p e below P (T29.setTop (mkF m 112 #[.val (.ref b), .val (.int p1)] []))
  refine Go.by (fun _ => XS.aloadN X29.here hx rfl (hb hby d4_112) rfl rfl) ?_
  show Go p e below P (T29.setTop (mkF m 113 #[.val (.ref b), .val (.int p1)] [(.ref b)]))
  refine Go.by (fun _ => XS.iloadN X29.here hx rfl (hb hby d4_113) rfl) ?_
  show Go p e below P (T29.setTop (mkF m 114 #[.val (.ref b), .val (.int p1)] [(.int p1), (.ref b)]))
  refine Go.by (fun _ => XS.bipush X29.here hx rfl (hb hby d4_114)) ?_
  show Go p e below P (T29.setTop (mkF m 116 #[.val (.ref b), .val (.int p1)] [(.int (15 : Int32)), (.int p1), (.ref b)]))
  refine Go.by (fun _ => XS.iadd X29.here hx rfl (hb hby d4_116) rfl) ?_
  show Go p e below P (T29.setTop (mkF m 117 #[.val (.ref b), .val (.int p1)] [(.int (p1 + (15 : Int32))), (.ref b)]))
  refine Go.by (fun _ => XS.bipush X29.here hx rfl (hb hby d4_117)) ?_
  show Go p e below P (T29.setTop (mkF m 119 #[.val (.ref b), .val (.int p1)] [(.int (101 : Int32)), (.int (p1 + (15 : Int32))), (.ref b)]))
  have hj31 : ((p1 + (15 : Int32))).toInt = ((aN + 15 : Nat) : Int) := (own_pj (k := 15) (kN := 15) ha rfl hb_ hbl (by decide))
  have hi31 : aN + 15 < ((((((((((((((((bs.set (aN) (60 : Int32)).set (aN + 1) (47 : Int32)).set (aN + 2) (109 : Int32)).set (aN + 3) (101 : Int32)).set (aN + 4) (116 : Int32)).set (aN + 5) (104 : Int32)).set (aN + 6) (111 : Int32)).set (aN + 7) (100 : Int32)).set (aN + 8) (82 : Int32)).set (aN + 9) (101 : Int32)).set (aN + 10) (115 : Int32)).set (aN + 11) (112 : Int32)).set (aN + 12) (111 : Int32)).set (aN + 13) (110 : Int32)).set (aN + 14) (115 : Int32))).length := (by simp only [List.length_set]; exact own_pi hb_ (by decide))
  obtain ⟨hx31, hy31, hz31⟩ := own_ix hj31 (by simp only [List.length_set]; exact hN) hi31
  obtain ⟨cl31, Ar31, qc31, Sz31, Ng31, Hs31, Gf31⟩ := id (F30)
  have hin31 : ¬ ((p1 + (15 : Int32)) < 0 ∨ cl31.slots.size ≤ ((p1 + (15 : Int32))).toNatClampNeg) := inb_of Sz31 ⟨hx31, hy31⟩
  obtain ⟨T31, h31, X31, e31, W31, st31⟩ := stB X29 hx hZ e29 Ar31 (j := (p1 + (15 : Int32))) hin31 (g := (mkF m 119 #[.val (.ref b), .val (.int p1)] [(.int (101 : Int32)), (.int (p1 + (15 : Int32))), (.ref b)])) rfl rfl (hb hby d4_119)
  refine Go.by (fun _ => st31 _) ?_
  have O31 := O29.wr W31 gb
  have Z31 : n0 ≤ h31.size := Nat.le_trans Z29 (Keep.of_wr W31).1
  have K31 : Keep h0 h31 [b] := K29.wr W31 (Or.inl (List.mem_of_getElem? (i := 0) rfl))
  have F32 : Arv Z h31 b kb .byte nB (((((((((((((((((bs.set (aN) (60 : Int32)).set (aN + 1) (47 : Int32)).set (aN + 2) (109 : Int32)).set (aN + 3) (101 : Int32)).set (aN + 4) (116 : Int32)).set (aN + 5) (104 : Int32)).set (aN + 6) (111 : Int32)).set (aN + 7) (100 : Int32)).set (aN + 8) (82 : Int32)).set (aN + 9) (101 : Int32)).set (aN + 10) (115 : Int32)).set (aN + 11) (112 : Int32)).set (aN + 12) (111 : Int32)).set (aN + 13) (110 : Int32)).set (aN + 14) (115 : Int32)).set (aN + 15) (101 : Int32)).map Value.int) (.int (0 : Int32)) := own_arvB Ar31 qc31 Sz31 Ng31 Hs31 Gf31 W31 (by decide) (aN + 15) hz31 (by rw [List.length_map]; exact hi31)
  have N31 := Fr.snoc X31 N29 gb
  show Go p e below P (T31.setTop (mkF m 120 #[.val (.ref b), .val (.int p1)] []))
  refine Go.by (fun _ => XS.aloadN X31.here hx rfl (hb hby d4_120) rfl rfl) ?_
  show Go p e below P (T31.setTop (mkF m 121 #[.val (.ref b), .val (.int p1)] [(.ref b)]))
  refine Go.by (fun _ => XS.iloadN X31.here hx rfl (hb hby d4_121) rfl) ?_
  show Go p e below P (T31.setTop (mkF m 122 #[.val (.ref b), .val (.int p1)] [(.int p1), (.ref b)]))
  refine Go.by (fun _ => XS.bipush X31.here hx rfl (hb hby d4_122)) ?_
  show Go p e below P (T31.setTop (mkF m 124 #[.val (.ref b), .val (.int p1)] [(.int (16 : Int32)), (.int p1), (.ref b)]))
  refine Go.by (fun _ => XS.iadd X31.here hx rfl (hb hby d4_124) rfl) ?_
  show Go p e below P (T31.setTop (mkF m 125 #[.val (.ref b), .val (.int p1)] [(.int (p1 + (16 : Int32))), (.ref b)]))
  refine Go.by (fun _ => XS.bipush X31.here hx rfl (hb hby d4_125)) ?_
  show Go p e below P (T31.setTop (mkF m 127 #[.val (.ref b), .val (.int p1)] [(.int (62 : Int32)), (.int (p1 + (16 : Int32))), (.ref b)]))
  have hj33 : ((p1 + (16 : Int32))).toInt = ((aN + 16 : Nat) : Int) := (own_pj (k := 16) (kN := 16) ha rfl hb_ hbl (by decide))
  have hi33 : aN + 16 < (((((((((((((((((bs.set (aN) (60 : Int32)).set (aN + 1) (47 : Int32)).set (aN + 2) (109 : Int32)).set (aN + 3) (101 : Int32)).set (aN + 4) (116 : Int32)).set (aN + 5) (104 : Int32)).set (aN + 6) (111 : Int32)).set (aN + 7) (100 : Int32)).set (aN + 8) (82 : Int32)).set (aN + 9) (101 : Int32)).set (aN + 10) (115 : Int32)).set (aN + 11) (112 : Int32)).set (aN + 12) (111 : Int32)).set (aN + 13) (110 : Int32)).set (aN + 14) (115 : Int32)).set (aN + 15) (101 : Int32))).length := (by simp only [List.length_set]; exact own_pi hb_ (by decide))
  obtain ⟨hx33, hy33, hz33⟩ := own_ix hj33 (by simp only [List.length_set]; exact hN) hi33
  obtain ⟨cl33, Ar33, qc33, Sz33, Ng33, Hs33, Gf33⟩ := id (F32)
  have hin33 : ¬ ((p1 + (16 : Int32)) < 0 ∨ cl33.slots.size ≤ ((p1 + (16 : Int32))).toNatClampNeg) := inb_of Sz33 ⟨hx33, hy33⟩
  obtain ⟨T33, h33, X33, e33, W33, st33⟩ := stB X31 hx hZ e31 Ar33 (j := (p1 + (16 : Int32))) hin33 (g := (mkF m 127 #[.val (.ref b), .val (.int p1)] [(.int (62 : Int32)), (.int (p1 + (16 : Int32))), (.ref b)])) rfl rfl (hb hby d4_127)
  refine Go.by (fun _ => st33 _) ?_
  have O33 := O31.wr W33 gb
  have Z33 : n0 ≤ h33.size := Nat.le_trans Z31 (Keep.of_wr W33).1
  have K33 : Keep h0 h33 [b] := K31.wr W33 (Or.inl (List.mem_of_getElem? (i := 0) rfl))
  have F34 : Arv Z h33 b kb .byte nB ((((((((((((((((((bs.set (aN) (60 : Int32)).set (aN + 1) (47 : Int32)).set (aN + 2) (109 : Int32)).set (aN + 3) (101 : Int32)).set (aN + 4) (116 : Int32)).set (aN + 5) (104 : Int32)).set (aN + 6) (111 : Int32)).set (aN + 7) (100 : Int32)).set (aN + 8) (82 : Int32)).set (aN + 9) (101 : Int32)).set (aN + 10) (115 : Int32)).set (aN + 11) (112 : Int32)).set (aN + 12) (111 : Int32)).set (aN + 13) (110 : Int32)).set (aN + 14) (115 : Int32)).set (aN + 15) (101 : Int32)).set (aN + 16) (62 : Int32)).map Value.int) (.int (0 : Int32)) := own_arvB Ar33 qc33 Sz33 Ng33 Hs33 Gf33 W33 (by decide) (aN + 16) hz33 (by rw [List.length_map]; exact hi33)
  have N33 := Fr.snoc X33 N31 gb
  show Go p e below P (T33.setTop (mkF m 128 #[.val (.ref b), .val (.int p1)] []))
  subst hP
  refine Go.retV X33 hx Bd.returns hlk (hb hby d4_128) (Nat.le_of_ble_eq_true rfl) (Nat.le_of_ble_eq_true rfl) ?_
  rw [e33]
  exact ⟨rfl, N33, K33, F34⟩
theorem d8_0 : decode prog_39_method_5_code 0 = .ok (.iload_n 2, 1) := by decide +kernel
theorem d8_1 : decode prog_39_method_5_code 1 = .ok (.ifCond .lt 15, 3) := by decide +kernel
theorem d8_4 : decode prog_39_method_5_code 4 = .ok (.iload_n 2, 1) := by decide +kernel
theorem d8_5 : decode prog_39_method_5_code 5 = .ok (.aload_n 3, 1) := by decide +kernel
theorem d8_6 : decode prog_39_method_5_code 6 = .ok (.arraylength, 1) := by decide +kernel
theorem d8_7 : decode prog_39_method_5_code 7 = .ok (.iadd, 1) := by decide +kernel
theorem d8_8 : decode prog_39_method_5_code 8 = .ok (.iload_n 1, 1) := by decide +kernel
theorem d8_9 : decode prog_39_method_5_code 9 = .ok (.if_icmp .gt 7, 3) := by decide +kernel
theorem d8_12 : decode prog_39_method_5_code 12 = .ok (.iconst 1, 1) := by decide +kernel
theorem d8_13 : decode prog_39_method_5_code 13 = .ok (.goto 4, 3) := by decide +kernel
theorem d8_16 : decode prog_39_method_5_code 16 = .ok (.iconst 0, 1) := by decide +kernel
theorem d8_17 : decode prog_39_method_5_code 17 = .ok (.istore 4, 2) := by decide +kernel
theorem d8_19 : decode prog_39_method_5_code 19 = .ok (.iconst 0, 1) := by decide +kernel
theorem d8_20 : decode prog_39_method_5_code 20 = .ok (.istore 5, 2) := by decide +kernel
theorem d8_22 : decode prog_39_method_5_code 22 = .ok (.iload 4, 2) := by decide +kernel
theorem d8_24 : decode prog_39_method_5_code 24 = .ok (.ifCond .eq 36, 3) := by decide +kernel
theorem d8_27 : decode prog_39_method_5_code 27 = .ok (.iload 5, 2) := by decide +kernel
theorem d8_29 : decode prog_39_method_5_code 29 = .ok (.aload_n 3, 1) := by decide +kernel
theorem d8_30 : decode prog_39_method_5_code 30 = .ok (.arraylength, 1) := by decide +kernel
theorem d8_31 : decode prog_39_method_5_code 31 = .ok (.if_icmp .ge 29, 3) := by decide +kernel
theorem d8_34 : decode prog_39_method_5_code 34 = .ok (.aload_n 0, 1) := by decide +kernel
theorem d8_35 : decode prog_39_method_5_code 35 = .ok (.iload_n 2, 1) := by decide +kernel
theorem d8_36 : decode prog_39_method_5_code 36 = .ok (.iload 5, 2) := by decide +kernel
theorem d8_38 : decode prog_39_method_5_code 38 = .ok (.iadd, 1) := by decide +kernel
theorem d8_39 : decode prog_39_method_5_code 39 = .ok (.baload, 1) := by decide +kernel
theorem d8_40 : decode prog_39_method_5_code 40 = .ok (.aload_n 3, 1) := by decide +kernel
theorem d8_41 : decode prog_39_method_5_code 41 = .ok (.iload 5, 2) := by decide +kernel
theorem d8_43 : decode prog_39_method_5_code 43 = .ok (.baload, 1) := by decide +kernel
theorem d8_44 : decode prog_39_method_5_code 44 = .ok (.if_icmp .ne 7, 3) := by decide +kernel
theorem d8_47 : decode prog_39_method_5_code 47 = .ok (.iconst 1, 1) := by decide +kernel
theorem d8_48 : decode prog_39_method_5_code 48 = .ok (.goto 4, 3) := by decide +kernel
theorem d8_51 : decode prog_39_method_5_code 51 = .ok (.iconst 0, 1) := by decide +kernel
theorem d8_52 : decode prog_39_method_5_code 52 = .ok (.istore 4, 2) := by decide +kernel
theorem d8_54 : decode prog_39_method_5_code 54 = .ok (.iinc 5 1, 3) := by decide +kernel
theorem d8_57 : decode prog_39_method_5_code 57 = .ok (.goto (-35), 3) := by decide +kernel
theorem d8_60 : decode prog_39_method_5_code 60 = .ok (.iload 4, 2) := by decide +kernel
theorem d8_62 : decode prog_39_method_5_code 62 = .ok (.ireturn, 1) := by decide +kernel
theorem ef_sta (m : MethodId) (x0 : Addr) (x1 : Int32) (x2 : Int32) (x3 : Addr) : entryFrame m #[(.ref x0), (.int x1), (.int x2), (.ref x3)] 6 = mkF m 0 #[.val (.ref x0), .val (.int x1), .val (.int x2), .val (.ref x3), .unset, .unset] [] := by first | (simp [entryFrame, mkF, argsToLocals, Value.category]; done) | rfl
def Q_sta (Z : State) (wOPEN : Addr) (kOPEN : ClassId) (wCLOSE : Addr) (kCLOSE : ClassId) (wPARAMS : Addr) (kPARAMS : ClassId) (b : Addr) (p1 : Int32) (p2 : Int32) (wA : Addr) (kb : ClassId) (nB : Int32) (bs : List Int32) (kw : ClassId) (nW : Int32) (wl : List Int32) (lenN : Nat) (h0 : Heap) (n0 : Nat) (v : Option Value) (h : Heap) (L : List Loc) : Prop := ∃ (r : Int32), v = some (.int r) ∧ Fr n0 L ∧ h = h0 ∧ ((r = 1 ∧ (SA bs wl p2.toInt lenN)) ∨ (r = 0 ∧ ¬ (SA bs wl p2.toInt lenN)))
set_option maxRecDepth 65536 in
set_option maxHeartbeats 40000000 in
theorem rm_sta (l : Launch) (Z : State) (a0 : Array Value) (hw : ∀ d ∈ tables_1, d.before a0 Z = true) (ws : List Jvm.Cond) (wOPEN : Addr) (kOPEN : ClassId) (wCLOSE : Addr) (kCLOSE : ClassId) (wPARAMS : Addr) (kPARAMS : ClassId) (hG : Glob Z wOPEN kOPEN wCLOSE kCLOSE wPARAMS kPARAMS) (b : Addr) (p1 : Int32) (p2 : Int32) (wA : Addr) (kb : ClassId) (nB : Int32) (bs : List Int32) (kw : ClassId) (nW : Int32) (wl : List Int32) (lenN : Nat) (h0 : Heap) (n0 : Nat) (Z0 : n0 ≤ h0.size) (O0 : Old Z n0 h0) (P0 : Arv Z h0 b kb .byte nB (bs.map Value.int) (.int (0 : Int32))) (P1 : Arv Z h0 wA kw .byte nW (wl.map Value.int) (.int (0 : Int32))) (hN : nB.toInt = ((bs.length : Nat) : Int)) (hbl : bs.length ≤ 100) (hl : p1.toInt = ((lenN : Nat) : Int)) (hle : lenN ≤ bs.length) (hW : nW.toInt = ((wl.length : Nat) : Int)) (hWl : wl.length ≤ 20) (hp2 : -1000 ≤ p2.toInt ∧ p2.toInt ≤ 1000) :
    MetFree l (⟨"com/example/wirecall/wirecall/bench/Answers", "startsAt", "([BII[B)Z"⟩ : MethodName) (head1 (Jvm.Cond.code (⟨"com/example/wirecall/wirecall/bench/Answers", "startsAt", "([BII[B)Z"⟩ : MethodName) prog_39_method_5_code 6 (some .boolean) :: ws) ({ frames := 0, cells := 0, slots := 0, locals := 0 } : Room)) (fun a U => a = #[(.ref b), (.int p1), (.int p2), (.ref wA)] ∧ Z.Warmed39 U.vm ∧ U.heap = h0) (fun _ _ _ _ _ => True) (fun _ U o U' => ∃ v L, o = .returned v ∧ Q_sta Z wOPEN kOPEN wCLOSE kCLOSE wPARAMS kPARAMS b p1 p2 wA kb nB bs kw nW wl lenN h0 n0 v U'.heap L ∧ FrameEnd U o U' L ({ frames := 0, cells := 0, slots := 0, locals := 0 } : Room).cells ({ frames := 0, cells := 0, slots := 0, locals := 0 } : Room).slots) := by
  refine MetFree.of_bodySF (plainFor_of_name pn_0) hisR ?_
  intro p e s m args below meth c s₁ Bd hml0 hP hK
  obtain ⟨rfl, hZ, hh⟩ := hP
  have hx := Bd.exec
  have hby := Bd.bytes
  have hml : c.maxLocals = 6 := hml0
  have hown : s.vm.findClass "com/example/wirecall/wirecall/bench/Answers" = some m.cls := findClass_of_methodNamed Bd.named
  have hnm := (name_of_methodNamed Bd.named Bd.method).1
  have hlk : meth.locks = false := BodyLoose.notSynchronized Bd
  have X0 : Stand p l e ({ frames := 0, cells := 0, slots := 0, locals := 0 } : Room) s m #[(.ref b), (.int p1), (.int p2), (.ref wA)] below meth c s₁ [] 0 0 := Stand.of_body Bd
  have e0 : s₁.heap = h0 := by rw [← hh, Bd.state]; rfl
  have N0 := Fr.nil n0
  obtain ⟨G0, G1, G2, G3, G4, G5⟩ := id hG
  show Go p e below (End s (Q_sta Z wOPEN kOPEN wCLOSE kCLOSE wPARAMS kPARAMS b p1 p2 wA kb nB bs kw nW wl lenN h0 n0) ({ frames := 0, cells := 0, slots := 0, locals := 0 } : Room).cells ({ frames := 0, cells := 0, slots := 0, locals := 0 } : Room).slots) (s₁.setTop (entryFrame m #[(.ref b), (.int p1), (.int p2), (.ref wA)] 6))
  rw [ef_sta]
  generalize hP : End s (Q_sta Z wOPEN kOPEN wCLOSE kCLOSE wPARAMS kPARAMS b p1 p2 wA kb nB bs kw nW wl lenN h0 n0) ({ frames := 0, cells := 0, slots := 0, locals := 0 } : Room).cells ({ frames := 0, cells := 0, slots := 0, locals := 0 } : Room).slots = P
  show Go p e below P (s₁.setTop (mkF m 0 #[.val (.ref b), .val (.int p1), .val (.int p2), .val (.ref wA), .unset, .unset] []))
  refine Go.by (fun _ => XS.iloadN X0.here hx rfl (hb hby d8_0) rfl) ?_
  show Go p e below P (s₁.setTop (mkF m 1 #[.val (.ref b), .val (.int p1), .val (.int p2), .val (.ref wA), .unset, .unset] [(.int p2)]))
  by_cases hc1 : p2 < (0 : Int32)
  · refine Go.by (fun _ => XS.ifYes X0.here hx rfl (pc0 := 1) (pc' := 16) rfl (hb hby d8_1) rfl ((if0 _ _).trans (tlt hc1).1) (by decide) (by decide)) ?_
    show Go p e below P (s₁.setTop (mkF m 16 #[.val (.ref b), .val (.int p1), .val (.int p2), .val (.ref wA), .unset, .unset] []))
    refine Go.by (fun _ => XS.iconst X0.here hx rfl (hb hby d8_16)) ?_
    show Go p e below P (s₁.setTop (mkF m 17 #[.val (.ref b), .val (.int p1), .val (.int p2), .val (.ref wA), .unset, .unset] [(.int (0 : Int32))]))
    refine Go.by (fun _ => XS.istore X0.here hx rfl (g := (mkF m 17 #[.val (.ref b), .val (.int p1), .val (.int p2), .val (.ref wA), .unset, .unset] [(.int (0 : Int32))])) (hb hby d8_17) rfl (l' := #[.val (.ref b), .val (.int p1), .val (.int p2), .val (.ref wA), .val (.int (0 : Int32)), .unset]) rfl) ?_
    show Go p e below P (s₁.setTop (mkF m 19 #[.val (.ref b), .val (.int p1), .val (.int p2), .val (.ref wA), .val (.int (0 : Int32)), .unset] []))
    refine Go.by (fun _ => XS.iconst X0.here hx rfl (hb hby d8_19)) ?_
    show Go p e below P (s₁.setTop (mkF m 20 #[.val (.ref b), .val (.int p1), .val (.int p2), .val (.ref wA), .val (.int (0 : Int32)), .unset] [(.int (0 : Int32))]))
    refine Go.by (fun _ => XS.istore X0.here hx rfl (g := (mkF m 20 #[.val (.ref b), .val (.int p1), .val (.int p2), .val (.ref wA), .val (.int (0 : Int32)), .unset] [(.int (0 : Int32))])) (hb hby d8_20) rfl (l' := #[.val (.ref b), .val (.int p1), .val (.int p2), .val (.ref wA), .val (.int (0 : Int32)), .val (.int (0 : Int32))]) rfl) ?_
    show Go p e below P (s₁.setTop (mkF m 22 #[.val (.ref b), .val (.int p1), .val (.int p2), .val (.ref wA), .val (.int (0 : Int32)), .val (.int (0 : Int32))] []))
    refine Go.by (fun _ => XS.iload X0.here hx rfl (hb hby d8_22) rfl) ?_
    show Go p e below P (s₁.setTop (mkF m 24 #[.val (.ref b), .val (.int p1), .val (.int p2), .val (.ref wA), .val (.int (0 : Int32)), .val (.int (0 : Int32))] [(.int (0 : Int32))]))
    have hc24 : (0 : Int32) = (0 : Int32) := by decide
    refine Go.by (fun _ => XS.ifYes X0.here hx rfl (pc0 := 24) (pc' := 60) rfl (hb hby d8_24) rfl ((if0 _ _).trans (teq hc24).1) (by decide) (by decide)) ?_
    show Go p e below P (s₁.setTop (mkF m 60 #[.val (.ref b), .val (.int p1), .val (.int p2), .val (.ref wA), .val (.int (0 : Int32)), .val (.int (0 : Int32))] []))
    refine Go.by (fun _ => XS.iload X0.here hx rfl (hb hby d8_60) rfl) ?_
    show Go p e below P (s₁.setTop (mkF m 62 #[.val (.ref b), .val (.int p1), .val (.int p2), .val (.ref wA), .val (.int (0 : Int32)), .val (.int (0 : Int32))] [(.int (0 : Int32))]))
    subst hP
    refine Go.retZ X0 hx (t := .boolean) Bd.returns (by simp) hlk (hb hby d8_62) (Nat.le_of_ble_eq_true rfl) (Nat.le_of_ble_eq_true rfl) ?_
    rw [e0]
    exact ⟨_, rfl, N0, rfl, Or.inr ⟨rfl, fun q => by have z := hc1; have q2 := q.1; rw [Int32.lt_iff_toInt_lt] at z; have l0 : (0 : Int32).toInt = 0 := rfl; omega⟩⟩
  · refine Go.by (fun _ => XS.ifNo X0.here hx rfl (hb hby d8_1) rfl ((if0 _ _).trans (flt hc1).1)) ?_
    show Go p e below P (s₁.setTop (mkF m 4 #[.val (.ref b), .val (.int p1), .val (.int p2), .val (.ref wA), .unset, .unset] []))
    have h0p : 0 ≤ p2.toInt := by have q := hc1; rw [Int32.lt_iff_toInt_lt] at q; have l0 : (0 : Int32).toInt = 0 := rfl; omega
    refine Go.by (fun _ => XS.iloadN X0.here hx rfl (hb hby d8_4) rfl) ?_
    show Go p e below P (s₁.setTop (mkF m 5 #[.val (.ref b), .val (.int p1), .val (.int p2), .val (.ref wA), .unset, .unset] [(.int p2)]))
    refine Go.by (fun _ => XS.aloadN X0.here hx rfl (hb hby d8_5) rfl rfl) ?_
    show Go p e below P (s₁.setTop (mkF m 6 #[.val (.ref b), .val (.int p1), .val (.int p2), .val (.ref wA), .unset, .unset] [(.ref wA), (.int p2)]))
    obtain ⟨cl1, Ar1, -, Sz1, Ng1, -, -⟩ := id (P1)
    refine Go.by (fun _ => X0.arraylength hx (by rw [e0]; exact Ar1.1) (State.isArrayOf_alike hZ.alike Ar1.2.1) (g := (mkF m 6 #[.val (.ref b), .val (.int p1), .val (.int p2), .val (.ref wA), .unset, .unset] [(.ref wA), (.int p2)])) rfl rfl (hb hby d8_6) _) ?_
    rw [len_of Sz1 Ng1]
    show Go p e below P (s₁.setTop (mkF m 7 #[.val (.ref b), .val (.int p1), .val (.int p2), .val (.ref wA), .unset, .unset] [(.int nW), (.int p2)]))
    refine Go.by (fun _ => XS.iadd X0.here hx rfl (hb hby d8_7) rfl) ?_
    show Go p e below P (s₁.setTop (mkF m 8 #[.val (.ref b), .val (.int p1), .val (.int p2), .val (.ref wA), .unset, .unset] [(.int (p2 + nW))]))
    refine Go.by (fun _ => XS.iloadN X0.here hx rfl (hb hby d8_8) rfl) ?_
    show Go p e below P (s₁.setTop (mkF m 9 #[.val (.ref b), .val (.int p1), .val (.int p2), .val (.ref wA), .unset, .unset] [(.int p1), (.int (p2 + nW))]))
    by_cases hc9 : p1 < (p2 + nW)
    · refine Go.by (fun _ => XS.icmpYes X0.here hx rfl (pc0 := 9) (pc' := 16) rfl (hb hby d8_9) rfl (tlt hc9).2.2.1 (by decide) (by decide)) ?_
      show Go p e below P (s₁.setTop (mkF m 16 #[.val (.ref b), .val (.int p1), .val (.int p2), .val (.ref wA), .unset, .unset] []))
      refine Go.by (fun _ => XS.iconst X0.here hx rfl (hb hby d8_16)) ?_
      show Go p e below P (s₁.setTop (mkF m 17 #[.val (.ref b), .val (.int p1), .val (.int p2), .val (.ref wA), .unset, .unset] [(.int (0 : Int32))]))
      refine Go.by (fun _ => XS.istore X0.here hx rfl (g := (mkF m 17 #[.val (.ref b), .val (.int p1), .val (.int p2), .val (.ref wA), .unset, .unset] [(.int (0 : Int32))])) (hb hby d8_17) rfl (l' := #[.val (.ref b), .val (.int p1), .val (.int p2), .val (.ref wA), .val (.int (0 : Int32)), .unset]) rfl) ?_
      show Go p e below P (s₁.setTop (mkF m 19 #[.val (.ref b), .val (.int p1), .val (.int p2), .val (.ref wA), .val (.int (0 : Int32)), .unset] []))
      refine Go.by (fun _ => XS.iconst X0.here hx rfl (hb hby d8_19)) ?_
      show Go p e below P (s₁.setTop (mkF m 20 #[.val (.ref b), .val (.int p1), .val (.int p2), .val (.ref wA), .val (.int (0 : Int32)), .unset] [(.int (0 : Int32))]))
      refine Go.by (fun _ => XS.istore X0.here hx rfl (g := (mkF m 20 #[.val (.ref b), .val (.int p1), .val (.int p2), .val (.ref wA), .val (.int (0 : Int32)), .unset] [(.int (0 : Int32))])) (hb hby d8_20) rfl (l' := #[.val (.ref b), .val (.int p1), .val (.int p2), .val (.ref wA), .val (.int (0 : Int32)), .val (.int (0 : Int32))]) rfl) ?_
      show Go p e below P (s₁.setTop (mkF m 22 #[.val (.ref b), .val (.int p1), .val (.int p2), .val (.ref wA), .val (.int (0 : Int32)), .val (.int (0 : Int32))] []))
      refine Go.by (fun _ => XS.iload X0.here hx rfl (hb hby d8_22) rfl) ?_
      show Go p e below P (s₁.setTop (mkF m 24 #[.val (.ref b), .val (.int p1), .val (.int p2), .val (.ref wA), .val (.int (0 : Int32)), .val (.int (0 : Int32))] [(.int (0 : Int32))]))
      have hc24 : (0 : Int32) = (0 : Int32) := by decide
      refine Go.by (fun _ => XS.ifYes X0.here hx rfl (pc0 := 24) (pc' := 60) rfl (hb hby d8_24) rfl ((if0 _ _).trans (teq hc24).1) (by decide) (by decide)) ?_
      show Go p e below P (s₁.setTop (mkF m 60 #[.val (.ref b), .val (.int p1), .val (.int p2), .val (.ref wA), .val (.int (0 : Int32)), .val (.int (0 : Int32))] []))
      refine Go.by (fun _ => XS.iload X0.here hx rfl (hb hby d8_60) rfl) ?_
      show Go p e below P (s₁.setTop (mkF m 62 #[.val (.ref b), .val (.int p1), .val (.int p2), .val (.ref wA), .val (.int (0 : Int32)), .val (.int (0 : Int32))] [(.int (0 : Int32))]))
      subst hP
      refine Go.retZ X0 hx (t := .boolean) Bd.returns (by simp) hlk (hb hby d8_62) (Nat.le_of_ble_eq_true rfl) (Nat.le_of_ble_eq_true rfl) ?_
      rw [e0]
      exact ⟨_, rfl, N0, rfl, Or.inr ⟨rfl, fun q => by have z := hc9; have q2 := q.1; have q3 := q.2.1; rw [Int32.lt_iff_toInt_lt, own_add p2 nW (by omega) (by omega)] at z; omega⟩⟩
    · refine Go.by (fun _ => XS.icmpNo X0.here hx rfl (hb hby d8_9) rfl (flt hc9).2.2.1) ?_
      show Go p e below P (s₁.setTop (mkF m 12 #[.val (.ref b), .val (.int p1), .val (.int p2), .val (.ref wA), .unset, .unset] []))
      have h1p : p2.toInt + (wl.length : Int) ≤ (lenN : Int) := by have q := hc9; rw [Int32.lt_iff_toInt_lt, own_add p2 nW (by omega) (by omega)] at q; omega
      refine Go.by (fun _ => XS.iconst X0.here hx rfl (hb hby d8_12)) ?_
      show Go p e below P (s₁.setTop (mkF m 13 #[.val (.ref b), .val (.int p1), .val (.int p2), .val (.ref wA), .unset, .unset] [(.int (1 : Int32))]))
      refine Go.by (fun _ => XS.goto X0.here hx rfl (pc0 := 13) (pc' := 17) rfl (hb hby d8_13) (by decide) (by decide)) ?_
      show Go p e below P (s₁.setTop (mkF m 17 #[.val (.ref b), .val (.int p1), .val (.int p2), .val (.ref wA), .unset, .unset] [(.int (1 : Int32))]))
      refine Go.by (fun _ => XS.istore X0.here hx rfl (g := (mkF m 17 #[.val (.ref b), .val (.int p1), .val (.int p2), .val (.ref wA), .unset, .unset] [(.int (1 : Int32))])) (hb hby d8_17) rfl (l' := #[.val (.ref b), .val (.int p1), .val (.int p2), .val (.ref wA), .val (.int (1 : Int32)), .unset]) rfl) ?_
      show Go p e below P (s₁.setTop (mkF m 19 #[.val (.ref b), .val (.int p1), .val (.int p2), .val (.ref wA), .val (.int (1 : Int32)), .unset] []))
      refine Go.by (fun _ => XS.iconst X0.here hx rfl (hb hby d8_19)) ?_
      show Go p e below P (s₁.setTop (mkF m 20 #[.val (.ref b), .val (.int p1), .val (.int p2), .val (.ref wA), .val (.int (1 : Int32)), .unset] [(.int (0 : Int32))]))
      refine Go.by (fun _ => XS.istore X0.here hx rfl (g := (mkF m 20 #[.val (.ref b), .val (.int p1), .val (.int p2), .val (.ref wA), .val (.int (1 : Int32)), .unset] [(.int (0 : Int32))])) (hb hby d8_20) rfl (l' := #[.val (.ref b), .val (.int p1), .val (.int p2), .val (.ref wA), .val (.int (1 : Int32)), .val (.int (0 : Int32))]) rfl) ?_
      show Go p e below P (s₁.setTop (mkF m 22 #[.val (.ref b), .val (.int p1), .val (.int p2), .val (.ref wA), .val (.int (1 : Int32)), .val (.int (0 : Int32))] []))
      have L22 : ∀ (k : Nat) (TL22 : State) (lcL22 : List Loc) (XL22 : Stand p l e ({ frames := 0, cells := 0, slots := 0, locals := 0 } : Room) s m #[(.ref b), (.int p1), (.int p2), (.ref wA)] below meth c TL22 lcL22 0 0) (eL22 : TL22.heap = h0) (NL22 : Fr n0 lcL22) (i : Int32) (hk : k ≤ wl.length) (hi : i.toInt = ((wl.length - k : Nat) : Int)) (hm : ∀ j, j < wl.length - k → bs.getD (p2.toInt.toNat + j) 0 = wl.getD j 0), Go p e below P (TL22.setTop (mkF m 22 #[.val (.ref b), .val (.int p1), .val (.int p2), .val (.ref wA), .val (.int (1 : Int32)), .val (.int i)] [])) := by
        intro k
        induction k with
        | zero =>
          intro TL22 lcL22 XL22 eL22 NL22 i hk hi hm
          show Go p e below P (TL22.setTop (mkF m 22 #[.val (.ref b), .val (.int p1), .val (.int p2), .val (.ref wA), .val (.int (1 : Int32)), .val (.int i)] []))
          refine Go.by (fun _ => XS.iload XL22.here hx rfl (hb hby d8_22) rfl) ?_
          show Go p e below P (TL22.setTop (mkF m 24 #[.val (.ref b), .val (.int p1), .val (.int p2), .val (.ref wA), .val (.int (1 : Int32)), .val (.int i)] [(.int (1 : Int32))]))
          have hc24 : ¬ ((1 : Int32) = (0 : Int32)) := by decide
          refine Go.by (fun _ => XS.ifNo XL22.here hx rfl (hb hby d8_24) rfl ((if0 _ _).trans (feq hc24).1)) ?_
          show Go p e below P (TL22.setTop (mkF m 27 #[.val (.ref b), .val (.int p1), .val (.int p2), .val (.ref wA), .val (.int (1 : Int32)), .val (.int i)] []))
          refine Go.by (fun _ => XS.iload XL22.here hx rfl (hb hby d8_27) rfl) ?_
          show Go p e below P (TL22.setTop (mkF m 29 #[.val (.ref b), .val (.int p1), .val (.int p2), .val (.ref wA), .val (.int (1 : Int32)), .val (.int i)] [(.int i)]))
          refine Go.by (fun _ => XS.aloadN XL22.here hx rfl (hb hby d8_29) rfl rfl) ?_
          show Go p e below P (TL22.setTop (mkF m 30 #[.val (.ref b), .val (.int p1), .val (.int p2), .val (.ref wA), .val (.int (1 : Int32)), .val (.int i)] [(.ref wA), (.int i)]))
          obtain ⟨cl2, Ar2, -, Sz2, Ng2, -, -⟩ := id (P1)
          refine Go.by (fun _ => XL22.arraylength hx (by rw [eL22]; exact Ar2.1) (State.isArrayOf_alike hZ.alike Ar2.2.1) (g := (mkF m 30 #[.val (.ref b), .val (.int p1), .val (.int p2), .val (.ref wA), .val (.int (1 : Int32)), .val (.int i)] [(.ref wA), (.int i)])) rfl rfl (hb hby d8_30) _) ?_
          rw [len_of Sz2 Ng2]
          show Go p e below P (TL22.setTop (mkF m 31 #[.val (.ref b), .val (.int p1), .val (.int p2), .val (.ref wA), .val (.int (1 : Int32)), .val (.int i)] [(.int nW), (.int i)]))
          have hc31 : ¬ (i < nW) := (fun q => by rw [Int32.lt_iff_toInt_lt] at q; omega)
          refine Go.by (fun _ => XS.icmpYes XL22.here hx rfl (pc0 := 31) (pc' := 60) rfl (hb hby d8_31) rfl (flt hc31).2.1 (by decide) (by decide)) ?_
          show Go p e below P (TL22.setTop (mkF m 60 #[.val (.ref b), .val (.int p1), .val (.int p2), .val (.ref wA), .val (.int (1 : Int32)), .val (.int i)] []))
          refine Go.by (fun _ => XS.iload XL22.here hx rfl (hb hby d8_60) rfl) ?_
          show Go p e below P (TL22.setTop (mkF m 62 #[.val (.ref b), .val (.int p1), .val (.int p2), .val (.ref wA), .val (.int (1 : Int32)), .val (.int i)] [(.int (1 : Int32))]))
          subst hP
          refine Go.retZ XL22 hx (t := .boolean) Bd.returns (by simp) hlk (hb hby d8_62) (Nat.le_of_ble_eq_true rfl) (Nat.le_of_ble_eq_true rfl) ?_
          rw [eL22]
          exact ⟨_, rfl, NL22, rfl, Or.inl ⟨rfl, h0p, h1p, fun j hj => hm j (by omega)⟩⟩
        | succ k ih =>
          intro TL22 lcL22 XL22 eL22 NL22 i hk hi hm
          show Go p e below P (TL22.setTop (mkF m 22 #[.val (.ref b), .val (.int p1), .val (.int p2), .val (.ref wA), .val (.int (1 : Int32)), .val (.int i)] []))
          refine Go.by (fun _ => XS.iload XL22.here hx rfl (hb hby d8_22) rfl) ?_
          show Go p e below P (TL22.setTop (mkF m 24 #[.val (.ref b), .val (.int p1), .val (.int p2), .val (.ref wA), .val (.int (1 : Int32)), .val (.int i)] [(.int (1 : Int32))]))
          have hc24 : ¬ ((1 : Int32) = (0 : Int32)) := by decide
          refine Go.by (fun _ => XS.ifNo XL22.here hx rfl (hb hby d8_24) rfl ((if0 _ _).trans (feq hc24).1)) ?_
          show Go p e below P (TL22.setTop (mkF m 27 #[.val (.ref b), .val (.int p1), .val (.int p2), .val (.ref wA), .val (.int (1 : Int32)), .val (.int i)] []))
          refine Go.by (fun _ => XS.iload XL22.here hx rfl (hb hby d8_27) rfl) ?_
          show Go p e below P (TL22.setTop (mkF m 29 #[.val (.ref b), .val (.int p1), .val (.int p2), .val (.ref wA), .val (.int (1 : Int32)), .val (.int i)] [(.int i)]))
          refine Go.by (fun _ => XS.aloadN XL22.here hx rfl (hb hby d8_29) rfl rfl) ?_
          show Go p e below P (TL22.setTop (mkF m 30 #[.val (.ref b), .val (.int p1), .val (.int p2), .val (.ref wA), .val (.int (1 : Int32)), .val (.int i)] [(.ref wA), (.int i)]))
          obtain ⟨cl3, Ar3, -, Sz3, Ng3, -, -⟩ := id (P1)
          refine Go.by (fun _ => XL22.arraylength hx (by rw [eL22]; exact Ar3.1) (State.isArrayOf_alike hZ.alike Ar3.2.1) (g := (mkF m 30 #[.val (.ref b), .val (.int p1), .val (.int p2), .val (.ref wA), .val (.int (1 : Int32)), .val (.int i)] [(.ref wA), (.int i)])) rfl rfl (hb hby d8_30) _) ?_
          rw [len_of Sz3 Ng3]
          show Go p e below P (TL22.setTop (mkF m 31 #[.val (.ref b), .val (.int p1), .val (.int p2), .val (.ref wA), .val (.int (1 : Int32)), .val (.int i)] [(.int nW), (.int i)]))
          have hc31 : i < nW := (by rw [Int32.lt_iff_toInt_lt]; omega)
          refine Go.by (fun _ => XS.icmpNo XL22.here hx rfl (hb hby d8_31) rfl (tlt hc31).2.1) ?_
          show Go p e below P (TL22.setTop (mkF m 34 #[.val (.ref b), .val (.int p1), .val (.int p2), .val (.ref wA), .val (.int (1 : Int32)), .val (.int i)] []))
          refine Go.by (fun _ => XS.aloadN XL22.here hx rfl (hb hby d8_34) rfl rfl) ?_
          show Go p e below P (TL22.setTop (mkF m 35 #[.val (.ref b), .val (.int p1), .val (.int p2), .val (.ref wA), .val (.int (1 : Int32)), .val (.int i)] [(.ref b)]))
          refine Go.by (fun _ => XS.iloadN XL22.here hx rfl (hb hby d8_35) rfl) ?_
          show Go p e below P (TL22.setTop (mkF m 36 #[.val (.ref b), .val (.int p1), .val (.int p2), .val (.ref wA), .val (.int (1 : Int32)), .val (.int i)] [(.int p2), (.ref b)]))
          refine Go.by (fun _ => XS.iload XL22.here hx rfl (hb hby d8_36) rfl) ?_
          show Go p e below P (TL22.setTop (mkF m 38 #[.val (.ref b), .val (.int p1), .val (.int p2), .val (.ref wA), .val (.int (1 : Int32)), .val (.int i)] [(.int i), (.int p2), (.ref b)]))
          refine Go.by (fun _ => XS.iadd XL22.here hx rfl (hb hby d8_38) rfl) ?_
          show Go p e below P (TL22.setTop (mkF m 39 #[.val (.ref b), .val (.int p1), .val (.int p2), .val (.ref wA), .val (.int (1 : Int32)), .val (.int i)] [(.int (p2 + i)), (.ref b)]))
          have hj4 : ((p2 + i)).toInt = ((p2.toInt.toNat + (wl.length - (k + 1)) : Nat) : Int) := (by rw [own_add p2 i (by omega) (by omega)]; omega)
          have hi4 : p2.toInt.toNat + (wl.length - (k + 1)) < (bs).length := (by omega)
          obtain ⟨hx4, hy4, hz4⟩ := own_ix hj4 hN hi4
          obtain ⟨cl4, Ar4, qc4, Sz4, Ng4, Hs4, Gf4⟩ := id (P0)
          have hin4 : ¬ ((p2 + i) < 0 ∨ cl4.slots.size ≤ ((p2 + i)).toNatClampNeg) := inb_of Sz4 ⟨hx4, hy4⟩
          refine Go.by (fun _ => XL22.baloadBytes hx (j := (p2 + i)) (v := (.int (bs.getD (p2.toInt.toNat + (wl.length - (k + 1))) 0))) (by rw [eL22]; exact Ar4.1) (State.isArrayOf_alike hZ.alike Ar4.2.1) Ar4.2.2 hin4 (Has.at Hs4 hin4 (by rw [hz4]; exact own_get _ _)) (g := (mkF m 39 #[.val (.ref b), .val (.int p1), .val (.int p2), .val (.ref wA), .val (.int (1 : Int32)), .val (.int i)] [(.int (p2 + i)), (.ref b)])) rfl rfl (hb hby d8_39) _) ?_
          show Go p e below P (TL22.setTop (mkF m 40 #[.val (.ref b), .val (.int p1), .val (.int p2), .val (.ref wA), .val (.int (1 : Int32)), .val (.int i)] [(.int (bs.getD (p2.toInt.toNat + (wl.length - (k + 1))) 0))]))
          refine Go.by (fun _ => XS.aloadN XL22.here hx rfl (hb hby d8_40) rfl rfl) ?_
          show Go p e below P (TL22.setTop (mkF m 41 #[.val (.ref b), .val (.int p1), .val (.int p2), .val (.ref wA), .val (.int (1 : Int32)), .val (.int i)] [(.ref wA), (.int (bs.getD (p2.toInt.toNat + (wl.length - (k + 1))) 0))]))
          refine Go.by (fun _ => XS.iload XL22.here hx rfl (hb hby d8_41) rfl) ?_
          show Go p e below P (TL22.setTop (mkF m 43 #[.val (.ref b), .val (.int p1), .val (.int p2), .val (.ref wA), .val (.int (1 : Int32)), .val (.int i)] [(.int i), (.ref wA), (.int (bs.getD (p2.toInt.toNat + (wl.length - (k + 1))) 0))]))
          have hj5 : (i).toInt = ((wl.length - (k + 1) : Nat) : Int) := (by omega)
          have hi5 : wl.length - (k + 1) < (wl).length := (by omega)
          obtain ⟨hx5, hy5, hz5⟩ := own_ix hj5 hW hi5
          obtain ⟨cl5, Ar5, qc5, Sz5, Ng5, Hs5, Gf5⟩ := id (P1)
          have hin5 : ¬ (i < 0 ∨ cl5.slots.size ≤ (i).toNatClampNeg) := inb_of Sz5 ⟨hx5, hy5⟩
          refine Go.by (fun _ => XL22.baloadBytes hx (j := i) (v := (.int (wl.getD (wl.length - (k + 1)) 0))) (by rw [eL22]; exact Ar5.1) (State.isArrayOf_alike hZ.alike Ar5.2.1) Ar5.2.2 hin5 (Has.at Hs5 hin5 (by rw [hz5]; exact own_get _ _)) (g := (mkF m 43 #[.val (.ref b), .val (.int p1), .val (.int p2), .val (.ref wA), .val (.int (1 : Int32)), .val (.int i)] [(.int i), (.ref wA), (.int (bs.getD (p2.toInt.toNat + (wl.length - (k + 1))) 0))])) rfl rfl (hb hby d8_43) _) ?_
          show Go p e below P (TL22.setTop (mkF m 44 #[.val (.ref b), .val (.int p1), .val (.int p2), .val (.ref wA), .val (.int (1 : Int32)), .val (.int i)] [(.int (wl.getD (wl.length - (k + 1)) 0)), (.int (bs.getD (p2.toInt.toNat + (wl.length - (k + 1))) 0))]))
          by_cases hc44 : (bs.getD (p2.toInt.toNat + (wl.length - (k + 1))) 0) = (wl.getD (wl.length - (k + 1)) 0)
          · refine Go.by (fun _ => XS.icmpNo XL22.here hx rfl (hb hby d8_44) rfl (teq hc44).2) ?_
            show Go p e below P (TL22.setTop (mkF m 47 #[.val (.ref b), .val (.int p1), .val (.int p2), .val (.ref wA), .val (.int (1 : Int32)), .val (.int i)] []))
            refine Go.by (fun _ => XS.iconst XL22.here hx rfl (hb hby d8_47)) ?_
            show Go p e below P (TL22.setTop (mkF m 48 #[.val (.ref b), .val (.int p1), .val (.int p2), .val (.ref wA), .val (.int (1 : Int32)), .val (.int i)] [(.int (1 : Int32))]))
            refine Go.by (fun _ => XS.goto XL22.here hx rfl (pc0 := 48) (pc' := 52) rfl (hb hby d8_48) (by decide) (by decide)) ?_
            show Go p e below P (TL22.setTop (mkF m 52 #[.val (.ref b), .val (.int p1), .val (.int p2), .val (.ref wA), .val (.int (1 : Int32)), .val (.int i)] [(.int (1 : Int32))]))
            refine Go.by (fun _ => XS.istore XL22.here hx rfl (g := (mkF m 52 #[.val (.ref b), .val (.int p1), .val (.int p2), .val (.ref wA), .val (.int (1 : Int32)), .val (.int i)] [(.int (1 : Int32))])) (hb hby d8_52) rfl (l' := #[.val (.ref b), .val (.int p1), .val (.int p2), .val (.ref wA), .val (.int (1 : Int32)), .val (.int i)]) rfl) ?_
            show Go p e below P (TL22.setTop (mkF m 54 #[.val (.ref b), .val (.int p1), .val (.int p2), .val (.ref wA), .val (.int (1 : Int32)), .val (.int i)] []))
            refine Go.by (fun _ => own_iinc XL22.here hx rfl (g := (mkF m 54 #[.val (.ref b), .val (.int p1), .val (.int p2), .val (.ref wA), .val (.int (1 : Int32)), .val (.int i)] [])) (hb hby d8_54) rfl (z := (1 : Int32)) (by decide) (l' := #[.val (.ref b), .val (.int p1), .val (.int p2), .val (.ref wA), .val (.int (1 : Int32)), .val (.int (i + (1 : Int32)))]) rfl) ?_
            show Go p e below P (TL22.setTop (mkF m 57 #[.val (.ref b), .val (.int p1), .val (.int p2), .val (.ref wA), .val (.int (1 : Int32)), .val (.int (i + (1 : Int32)))] []))
            refine Go.by (fun _ => XS.goto XL22.here hx rfl (pc0 := 57) (pc' := 22) rfl (hb hby d8_57) (by decide) (by decide)) ?_
            show Go p e below P (TL22.setTop (mkF m 22 #[.val (.ref b), .val (.int p1), .val (.int p2), .val (.ref wA), .val (.int (1 : Int32)), .val (.int (i + (1 : Int32)))] []))
            exact ih TL22 _ XL22 eL22 NL22 (i + (1 : Int32)) (by omega) (by rw [own_add i 1 (by omega) (by decide)]; have l1 : (1 : Int32).toInt = 1 := rfl; omega) (fun j hj => (Nat.lt_or_ge j (wl.length - (k + 1))).elim (hm j) (fun q => by have e_ : j = wl.length - (k + 1) := (by omega); rw [e_]; exact hc44))
          · refine Go.by (fun _ => XS.icmpYes XL22.here hx rfl (pc0 := 44) (pc' := 51) rfl (hb hby d8_44) rfl (feq hc44).2 (by decide) (by decide)) ?_
            show Go p e below P (TL22.setTop (mkF m 51 #[.val (.ref b), .val (.int p1), .val (.int p2), .val (.ref wA), .val (.int (1 : Int32)), .val (.int i)] []))
            refine Go.by (fun _ => XS.iconst XL22.here hx rfl (hb hby d8_51)) ?_
            show Go p e below P (TL22.setTop (mkF m 52 #[.val (.ref b), .val (.int p1), .val (.int p2), .val (.ref wA), .val (.int (1 : Int32)), .val (.int i)] [(.int (0 : Int32))]))
            refine Go.by (fun _ => XS.istore XL22.here hx rfl (g := (mkF m 52 #[.val (.ref b), .val (.int p1), .val (.int p2), .val (.ref wA), .val (.int (1 : Int32)), .val (.int i)] [(.int (0 : Int32))])) (hb hby d8_52) rfl (l' := #[.val (.ref b), .val (.int p1), .val (.int p2), .val (.ref wA), .val (.int (0 : Int32)), .val (.int i)]) rfl) ?_
            show Go p e below P (TL22.setTop (mkF m 54 #[.val (.ref b), .val (.int p1), .val (.int p2), .val (.ref wA), .val (.int (0 : Int32)), .val (.int i)] []))
            refine Go.by (fun _ => own_iinc XL22.here hx rfl (g := (mkF m 54 #[.val (.ref b), .val (.int p1), .val (.int p2), .val (.ref wA), .val (.int (0 : Int32)), .val (.int i)] [])) (hb hby d8_54) rfl (z := (1 : Int32)) (by decide) (l' := #[.val (.ref b), .val (.int p1), .val (.int p2), .val (.ref wA), .val (.int (0 : Int32)), .val (.int (i + (1 : Int32)))]) rfl) ?_
            show Go p e below P (TL22.setTop (mkF m 57 #[.val (.ref b), .val (.int p1), .val (.int p2), .val (.ref wA), .val (.int (0 : Int32)), .val (.int (i + (1 : Int32)))] []))
            refine Go.by (fun _ => XS.goto XL22.here hx rfl (pc0 := 57) (pc' := 22) rfl (hb hby d8_57) (by decide) (by decide)) ?_
            show Go p e below P (TL22.setTop (mkF m 22 #[.val (.ref b), .val (.int p1), .val (.int p2), .val (.ref wA), .val (.int (0 : Int32)), .val (.int (i + (1 : Int32)))] []))
            refine Go.by (fun _ => XS.iload XL22.here hx rfl (hb hby d8_22) rfl) ?_
            show Go p e below P (TL22.setTop (mkF m 24 #[.val (.ref b), .val (.int p1), .val (.int p2), .val (.ref wA), .val (.int (0 : Int32)), .val (.int (i + (1 : Int32)))] [(.int (0 : Int32))]))
            have hc24 : (0 : Int32) = (0 : Int32) := by decide
            refine Go.by (fun _ => XS.ifYes XL22.here hx rfl (pc0 := 24) (pc' := 60) rfl (hb hby d8_24) rfl ((if0 _ _).trans (teq hc24).1) (by decide) (by decide)) ?_
            show Go p e below P (TL22.setTop (mkF m 60 #[.val (.ref b), .val (.int p1), .val (.int p2), .val (.ref wA), .val (.int (0 : Int32)), .val (.int (i + (1 : Int32)))] []))
            refine Go.by (fun _ => XS.iload XL22.here hx rfl (hb hby d8_60) rfl) ?_
            show Go p e below P (TL22.setTop (mkF m 62 #[.val (.ref b), .val (.int p1), .val (.int p2), .val (.ref wA), .val (.int (0 : Int32)), .val (.int (i + (1 : Int32)))] [(.int (0 : Int32))]))
            subst hP
            refine Go.retZ XL22 hx (t := .boolean) Bd.returns (by simp) hlk (hb hby d8_62) (Nat.le_of_ble_eq_true rfl) (Nat.le_of_ble_eq_true rfl) ?_
            rw [eL22]
            exact ⟨_, rfl, NL22, rfl, Or.inr ⟨rfl, fun q => hc44 (q.2.2 (wl.length - (k + 1)) (by omega))⟩⟩
      exact L22 wl.length s₁ _ X0 e0 N0 (0 : Int32) (Nat.le_refl _) (by have l0 : (0 : Int32).toInt = 0 := rfl; omega) (fun j hj => by omega)
theorem d7_0 : decode prog_39_method_4_code 0 = .ok (.iconst (-1), 1) := by decide +kernel
theorem d7_1 : decode prog_39_method_4_code 1 = .ok (.istore_n 3, 1) := by decide +kernel
theorem d7_2 : decode prog_39_method_4_code 2 = .ok (.iconst 0, 1) := by decide +kernel
theorem d7_3 : decode prog_39_method_4_code 3 = .ok (.istore 4, 2) := by decide +kernel
theorem d7_5 : decode prog_39_method_4_code 5 = .ok (.iload_n 3, 1) := by decide +kernel
theorem d7_6 : decode prog_39_method_4_code 6 = .ok (.ifCond .ge 32, 3) := by decide +kernel
theorem d7_9 : decode prog_39_method_4_code 9 = .ok (.iload 4, 2) := by decide +kernel
theorem d7_11 : decode prog_39_method_4_code 11 = .ok (.aload_n 2, 1) := by decide +kernel
theorem d7_12 : decode prog_39_method_4_code 12 = .ok (.arraylength, 1) := by decide +kernel
theorem d7_13 : decode prog_39_method_4_code 13 = .ok (.iadd, 1) := by decide +kernel
theorem d7_14 : decode prog_39_method_4_code 14 = .ok (.iload_n 1, 1) := by decide +kernel
theorem d7_15 : decode prog_39_method_4_code 15 = .ok (.if_icmp .gt 23, 3) := by decide +kernel
theorem d7_18 : decode prog_39_method_4_code 18 = .ok (.aload_n 0, 1) := by decide +kernel
theorem d7_19 : decode prog_39_method_4_code 19 = .ok (.iload_n 1, 1) := by decide +kernel
theorem d7_20 : decode prog_39_method_4_code 20 = .ok (.iload 4, 2) := by decide +kernel
theorem d7_22 : decode prog_39_method_4_code 22 = .ok (.aload_n 2, 1) := by decide +kernel
theorem d7_23 : decode prog_39_method_4_code 23 = .ok (.invokestatic 36, 3) := by decide +kernel
theorem d7_26 : decode prog_39_method_4_code 26 = .ok (.ifCond .eq 6, 3) := by decide +kernel
theorem d7_29 : decode prog_39_method_4_code 29 = .ok (.iload 4, 2) := by decide +kernel
theorem d7_31 : decode prog_39_method_4_code 31 = .ok (.istore_n 3, 1) := by decide +kernel
theorem d7_32 : decode prog_39_method_4_code 32 = .ok (.iinc 4 1, 3) := by decide +kernel
theorem d7_35 : decode prog_39_method_4_code 35 = .ok (.goto (-30), 3) := by decide +kernel
theorem d7_38 : decode prog_39_method_4_code 38 = .ok (.iload_n 3, 1) := by decide +kernel
theorem d7_39 : decode prog_39_method_4_code 39 = .ok (.ireturn, 1) := by decide +kernel
theorem ef_ixo (m : MethodId) (x0 : Addr) (x1 : Int32) (x2 : Addr) : entryFrame m #[(.ref x0), (.int x1), (.ref x2)] 5 = mkF m 0 #[.val (.ref x0), .val (.int x1), .val (.ref x2), .unset, .unset] [] := by first | (simp [entryFrame, mkF, argsToLocals, Value.category]; done) | rfl
def Q_ixo (Z : State) (wOPEN : Addr) (kOPEN : ClassId) (wCLOSE : Addr) (kCLOSE : ClassId) (wPARAMS : Addr) (kPARAMS : ClassId) (b : Addr) (p1 : Int32) (wA : Addr) (kb : ClassId) (nB : Int32) (bs : List Int32) (kw : ClassId) (nW : Int32) (wl : List Int32) (lenN : Nat) (h0 : Heap) (n0 : Nat) (v : Option Value) (h : Heap) (L : List Loc) : Prop := ∃ (r : Int32), v = some (.int r) ∧ Fr n0 L ∧ h = h0 ∧ ((r = -1 ∧ ∀ j, j + wl.length ≤ lenN → ¬ Mt (fun i => bs.getD i 0) j wl) ∨ (∃ i : Nat, r.toInt = (i : Int) ∧ i + wl.length ≤ lenN ∧ Mt (fun i => bs.getD i 0) i wl ∧ ∀ j, j < i → ¬ Mt (fun i => bs.getD i 0) j wl))
set_option maxRecDepth 65536 in
set_option maxHeartbeats 40000000 in
theorem rm_ixo (l : Launch) (Z : State) (a0 : Array Value) (hw : ∀ d ∈ tables_1, d.before a0 Z = true) (ws : List Jvm.Cond) (wOPEN : Addr) (kOPEN : ClassId) (wCLOSE : Addr) (kCLOSE : ClassId) (wPARAMS : Addr) (kPARAMS : ClassId) (hG : Glob Z wOPEN kOPEN wCLOSE kCLOSE wPARAMS kPARAMS) (b : Addr) (p1 : Int32) (wA : Addr) (kb : ClassId) (nB : Int32) (bs : List Int32) (kw : ClassId) (nW : Int32) (wl : List Int32) (lenN : Nat) (h0 : Heap) (n0 : Nat) (Z0 : n0 ≤ h0.size) (O0 : Old Z n0 h0) (P0 : Arv Z h0 b kb .byte nB (bs.map Value.int) (.int (0 : Int32))) (P1 : Arv Z h0 wA kw .byte nW (wl.map Value.int) (.int (0 : Int32))) (hN : nB.toInt = ((bs.length : Nat) : Int)) (hbl : bs.length ≤ 100) (hl : p1.toInt = ((lenN : Nat) : Int)) (hle : lenN ≤ bs.length) (hW : nW.toInt = ((wl.length : Nat) : Int)) (hWl : wl.length ≤ 20) :
    MetFree l (⟨"com/example/wirecall/wirecall/bench/Answers", "indexOf", "([BI[B)I"⟩ : MethodName) (head1 (Jvm.Cond.code (⟨"com/example/wirecall/wirecall/bench/Answers", "indexOf", "([BI[B)I"⟩ : MethodName) prog_39_method_4_code 5 (some .int) :: ws) ({ frames := 1, cells := 0, slots := 0, locals := 17 } : Room)) (fun a U => a = #[(.ref b), (.int p1), (.ref wA)] ∧ Z.Warmed39 U.vm ∧ U.heap = h0) (fun _ _ _ _ _ => True) (fun _ U o U' => ∃ v L, o = .returned v ∧ Q_ixo Z wOPEN kOPEN wCLOSE kCLOSE wPARAMS kPARAMS b p1 wA kb nB bs kw nW wl lenN h0 n0 v U'.heap L ∧ FrameEnd U o U' L ({ frames := 1, cells := 0, slots := 0, locals := 17 } : Room).cells ({ frames := 1, cells := 0, slots := 0, locals := 17 } : Room).slots) := by
  refine MetFree.of_bodySF (plainFor_of_name pn_0) hisR ?_
  intro p e s m args below meth c s₁ Bd hml0 hP hK
  obtain ⟨rfl, hZ, hh⟩ := hP
  have hx := Bd.exec
  have hby := Bd.bytes
  have hml : c.maxLocals = 5 := hml0
  have hown : s.vm.findClass "com/example/wirecall/wirecall/bench/Answers" = some m.cls := findClass_of_methodNamed Bd.named
  have hnm := (name_of_methodNamed Bd.named Bd.method).1
  have hlk : meth.locks = false := BodyLoose.notSynchronized Bd
  have X0 : Stand p l e ({ frames := 1, cells := 0, slots := 0, locals := 17 } : Room) s m #[(.ref b), (.int p1), (.ref wA)] below meth c s₁ [] 0 0 := Stand.of_body Bd
  have e0 : s₁.heap = h0 := by rw [← hh, Bd.state]; rfl
  have N0 := Fr.nil n0
  obtain ⟨G0, G1, G2, G3, G4, G5⟩ := id hG
  show Go p e below (End s (Q_ixo Z wOPEN kOPEN wCLOSE kCLOSE wPARAMS kPARAMS b p1 wA kb nB bs kw nW wl lenN h0 n0) ({ frames := 1, cells := 0, slots := 0, locals := 17 } : Room).cells ({ frames := 1, cells := 0, slots := 0, locals := 17 } : Room).slots) (s₁.setTop (entryFrame m #[(.ref b), (.int p1), (.ref wA)] 5))
  rw [ef_ixo]
  generalize hP : End s (Q_ixo Z wOPEN kOPEN wCLOSE kCLOSE wPARAMS kPARAMS b p1 wA kb nB bs kw nW wl lenN h0 n0) ({ frames := 1, cells := 0, slots := 0, locals := 17 } : Room).cells ({ frames := 1, cells := 0, slots := 0, locals := 17 } : Room).slots = P
  show Go p e below P (s₁.setTop (mkF m 0 #[.val (.ref b), .val (.int p1), .val (.ref wA), .unset, .unset] []))
  refine Go.by (fun _ => XS.iconst X0.here hx rfl (hb hby d7_0)) ?_
  show Go p e below P (s₁.setTop (mkF m 1 #[.val (.ref b), .val (.int p1), .val (.ref wA), .unset, .unset] [(.int (-1 : Int32))]))
  refine Go.by (fun _ => XS.istoreN X0.here hx rfl (g := (mkF m 1 #[.val (.ref b), .val (.int p1), .val (.ref wA), .unset, .unset] [(.int (-1 : Int32))])) (hb hby d7_1) rfl (l' := #[.val (.ref b), .val (.int p1), .val (.ref wA), .val (.int (-1 : Int32)), .unset]) rfl) ?_
  show Go p e below P (s₁.setTop (mkF m 2 #[.val (.ref b), .val (.int p1), .val (.ref wA), .val (.int (-1 : Int32)), .unset] []))
  refine Go.by (fun _ => XS.iconst X0.here hx rfl (hb hby d7_2)) ?_
  show Go p e below P (s₁.setTop (mkF m 3 #[.val (.ref b), .val (.int p1), .val (.ref wA), .val (.int (-1 : Int32)), .unset] [(.int (0 : Int32))]))
  refine Go.by (fun _ => XS.istore X0.here hx rfl (g := (mkF m 3 #[.val (.ref b), .val (.int p1), .val (.ref wA), .val (.int (-1 : Int32)), .unset] [(.int (0 : Int32))])) (hb hby d7_3) rfl (l' := #[.val (.ref b), .val (.int p1), .val (.ref wA), .val (.int (-1 : Int32)), .val (.int (0 : Int32))]) rfl) ?_
  show Go p e below P (s₁.setTop (mkF m 5 #[.val (.ref b), .val (.int p1), .val (.ref wA), .val (.int (-1 : Int32)), .val (.int (0 : Int32))] []))
  have L5 : ∀ (k : Nat) (TL5 : State) (lcL5 : List Loc) (XL5 : Stand p l e ({ frames := 1, cells := 0, slots := 0, locals := 17 } : Room) s m #[(.ref b), (.int p1), (.ref wA)] below meth c TL5 lcL5 0 0) (eL5 : TL5.heap = h0) (NL5 : Fr n0 lcL5) (i : Int32) (hk : k ≤ lenN + 1) (hi : i.toInt = ((lenN + 1 - k : Nat) : Int)) (hno : ∀ j, j < lenN + 1 - k → ¬ Mt (fun i => bs.getD i 0) j wl), Go p e below P (TL5.setTop (mkF m 5 #[.val (.ref b), .val (.int p1), .val (.ref wA), .val (.int (-1 : Int32)), .val (.int i)] [])) := by
    intro k
    induction k with
    | zero =>
      intro TL5 lcL5 XL5 eL5 NL5 i hk hi hno
      show Go p e below P (TL5.setTop (mkF m 5 #[.val (.ref b), .val (.int p1), .val (.ref wA), .val (.int (-1 : Int32)), .val (.int i)] []))
      refine Go.by (fun _ => XS.iloadN XL5.here hx rfl (hb hby d7_5) rfl) ?_
      show Go p e below P (TL5.setTop (mkF m 6 #[.val (.ref b), .val (.int p1), .val (.ref wA), .val (.int (-1 : Int32)), .val (.int i)] [(.int (-1 : Int32))]))
      have hc6 : (-1 : Int32) < (0 : Int32) := by decide
      refine Go.by (fun _ => XS.ifNo XL5.here hx rfl (hb hby d7_6) rfl ((if0 _ _).trans (tlt hc6).2.1)) ?_
      show Go p e below P (TL5.setTop (mkF m 9 #[.val (.ref b), .val (.int p1), .val (.ref wA), .val (.int (-1 : Int32)), .val (.int i)] []))
      refine Go.by (fun _ => XS.iload XL5.here hx rfl (hb hby d7_9) rfl) ?_
      show Go p e below P (TL5.setTop (mkF m 11 #[.val (.ref b), .val (.int p1), .val (.ref wA), .val (.int (-1 : Int32)), .val (.int i)] [(.int i)]))
      refine Go.by (fun _ => XS.aloadN XL5.here hx rfl (hb hby d7_11) rfl rfl) ?_
      show Go p e below P (TL5.setTop (mkF m 12 #[.val (.ref b), .val (.int p1), .val (.ref wA), .val (.int (-1 : Int32)), .val (.int i)] [(.ref wA), (.int i)]))
      obtain ⟨cl1, Ar1, -, Sz1, Ng1, -, -⟩ := id (P1)
      refine Go.by (fun _ => XL5.arraylength hx (by rw [eL5]; exact Ar1.1) (State.isArrayOf_alike hZ.alike Ar1.2.1) (g := (mkF m 12 #[.val (.ref b), .val (.int p1), .val (.ref wA), .val (.int (-1 : Int32)), .val (.int i)] [(.ref wA), (.int i)])) rfl rfl (hb hby d7_12) _) ?_
      rw [len_of Sz1 Ng1]
      show Go p e below P (TL5.setTop (mkF m 13 #[.val (.ref b), .val (.int p1), .val (.ref wA), .val (.int (-1 : Int32)), .val (.int i)] [(.int nW), (.int i)]))
      refine Go.by (fun _ => XS.iadd XL5.here hx rfl (hb hby d7_13) rfl) ?_
      show Go p e below P (TL5.setTop (mkF m 14 #[.val (.ref b), .val (.int p1), .val (.ref wA), .val (.int (-1 : Int32)), .val (.int i)] [(.int (i + nW))]))
      refine Go.by (fun _ => XS.iloadN XL5.here hx rfl (hb hby d7_14) rfl) ?_
      show Go p e below P (TL5.setTop (mkF m 15 #[.val (.ref b), .val (.int p1), .val (.ref wA), .val (.int (-1 : Int32)), .val (.int i)] [(.int p1), (.int (i + nW))]))
      have hc15 : p1 < (i + nW) := (by rw [Int32.lt_iff_toInt_lt, own_add i nW (by omega) (by omega)]; omega)
      refine Go.by (fun _ => XS.icmpYes XL5.here hx rfl (pc0 := 15) (pc' := 38) rfl (hb hby d7_15) rfl (tlt hc15).2.2.1 (by decide) (by decide)) ?_
      show Go p e below P (TL5.setTop (mkF m 38 #[.val (.ref b), .val (.int p1), .val (.ref wA), .val (.int (-1 : Int32)), .val (.int i)] []))
      refine Go.by (fun _ => XS.iloadN XL5.here hx rfl (hb hby d7_38) rfl) ?_
      show Go p e below P (TL5.setTop (mkF m 39 #[.val (.ref b), .val (.int p1), .val (.ref wA), .val (.int (-1 : Int32)), .val (.int i)] [(.int (-1 : Int32))]))
      subst hP
      refine Go.retI XL5 hx Bd.returns hlk (hb hby d7_39) (Nat.le_of_ble_eq_true rfl) (Nat.le_of_ble_eq_true rfl) ?_
      rw [eL5]
      exact ⟨_, rfl, NL5, rfl, Or.inl ⟨rfl, fun j hj => hno j (by have z := hc15; rw [Int32.lt_iff_toInt_lt, own_add i nW (by omega) (by omega)] at z; omega)⟩⟩
    | succ k ih =>
      intro TL5 lcL5 XL5 eL5 NL5 i hk hi hno
      show Go p e below P (TL5.setTop (mkF m 5 #[.val (.ref b), .val (.int p1), .val (.ref wA), .val (.int (-1 : Int32)), .val (.int i)] []))
      refine Go.by (fun _ => XS.iloadN XL5.here hx rfl (hb hby d7_5) rfl) ?_
      show Go p e below P (TL5.setTop (mkF m 6 #[.val (.ref b), .val (.int p1), .val (.ref wA), .val (.int (-1 : Int32)), .val (.int i)] [(.int (-1 : Int32))]))
      have hc6 : (-1 : Int32) < (0 : Int32) := by decide
      refine Go.by (fun _ => XS.ifNo XL5.here hx rfl (hb hby d7_6) rfl ((if0 _ _).trans (tlt hc6).2.1)) ?_
      show Go p e below P (TL5.setTop (mkF m 9 #[.val (.ref b), .val (.int p1), .val (.ref wA), .val (.int (-1 : Int32)), .val (.int i)] []))
      refine Go.by (fun _ => XS.iload XL5.here hx rfl (hb hby d7_9) rfl) ?_
      show Go p e below P (TL5.setTop (mkF m 11 #[.val (.ref b), .val (.int p1), .val (.ref wA), .val (.int (-1 : Int32)), .val (.int i)] [(.int i)]))
      refine Go.by (fun _ => XS.aloadN XL5.here hx rfl (hb hby d7_11) rfl rfl) ?_
      show Go p e below P (TL5.setTop (mkF m 12 #[.val (.ref b), .val (.int p1), .val (.ref wA), .val (.int (-1 : Int32)), .val (.int i)] [(.ref wA), (.int i)]))
      obtain ⟨cl2, Ar2, -, Sz2, Ng2, -, -⟩ := id (P1)
      refine Go.by (fun _ => XL5.arraylength hx (by rw [eL5]; exact Ar2.1) (State.isArrayOf_alike hZ.alike Ar2.2.1) (g := (mkF m 12 #[.val (.ref b), .val (.int p1), .val (.ref wA), .val (.int (-1 : Int32)), .val (.int i)] [(.ref wA), (.int i)])) rfl rfl (hb hby d7_12) _) ?_
      rw [len_of Sz2 Ng2]
      show Go p e below P (TL5.setTop (mkF m 13 #[.val (.ref b), .val (.int p1), .val (.ref wA), .val (.int (-1 : Int32)), .val (.int i)] [(.int nW), (.int i)]))
      refine Go.by (fun _ => XS.iadd XL5.here hx rfl (hb hby d7_13) rfl) ?_
      show Go p e below P (TL5.setTop (mkF m 14 #[.val (.ref b), .val (.int p1), .val (.ref wA), .val (.int (-1 : Int32)), .val (.int i)] [(.int (i + nW))]))
      refine Go.by (fun _ => XS.iloadN XL5.here hx rfl (hb hby d7_14) rfl) ?_
      show Go p e below P (TL5.setTop (mkF m 15 #[.val (.ref b), .val (.int p1), .val (.ref wA), .val (.int (-1 : Int32)), .val (.int i)] [(.int p1), (.int (i + nW))]))
      by_cases hc15 : p1 < (i + nW)
      · refine Go.by (fun _ => XS.icmpYes XL5.here hx rfl (pc0 := 15) (pc' := 38) rfl (hb hby d7_15) rfl (tlt hc15).2.2.1 (by decide) (by decide)) ?_
        show Go p e below P (TL5.setTop (mkF m 38 #[.val (.ref b), .val (.int p1), .val (.ref wA), .val (.int (-1 : Int32)), .val (.int i)] []))
        refine Go.by (fun _ => XS.iloadN XL5.here hx rfl (hb hby d7_38) rfl) ?_
        show Go p e below P (TL5.setTop (mkF m 39 #[.val (.ref b), .val (.int p1), .val (.ref wA), .val (.int (-1 : Int32)), .val (.int i)] [(.int (-1 : Int32))]))
        subst hP
        refine Go.retI XL5 hx Bd.returns hlk (hb hby d7_39) (Nat.le_of_ble_eq_true rfl) (Nat.le_of_ble_eq_true rfl) ?_
        rw [eL5]
        exact ⟨_, rfl, NL5, rfl, Or.inl ⟨rfl, fun j hj => hno j (by have z := hc15; rw [Int32.lt_iff_toInt_lt, own_add i nW (by omega) (by omega)] at z; omega)⟩⟩
      · refine Go.by (fun _ => XS.icmpNo XL5.here hx rfl (hb hby d7_15) rfl (flt hc15).2.2.1) ?_
        show Go p e below P (TL5.setTop (mkF m 18 #[.val (.ref b), .val (.int p1), .val (.ref wA), .val (.int (-1 : Int32)), .val (.int i)] []))
        refine Go.by (fun _ => XS.aloadN XL5.here hx rfl (hb hby d7_18) rfl rfl) ?_
        show Go p e below P (TL5.setTop (mkF m 19 #[.val (.ref b), .val (.int p1), .val (.ref wA), .val (.int (-1 : Int32)), .val (.int i)] [(.ref b)]))
        refine Go.by (fun _ => XS.iloadN XL5.here hx rfl (hb hby d7_19) rfl) ?_
        show Go p e below P (TL5.setTop (mkF m 20 #[.val (.ref b), .val (.int p1), .val (.ref wA), .val (.int (-1 : Int32)), .val (.int i)] [(.int p1), (.ref b)]))
        refine Go.by (fun _ => XS.iload XL5.here hx rfl (hb hby d7_20) rfl) ?_
        show Go p e below P (TL5.setTop (mkF m 22 #[.val (.ref b), .val (.int p1), .val (.ref wA), .val (.int (-1 : Int32)), .val (.int i)] [(.int i), (.int p1), (.ref b)]))
        refine Go.by (fun _ => XS.aloadN XL5.here hx rfl (hb hby d7_22) rfl rfl) ?_
        show Go p e below P (TL5.setTop (mkF m 23 #[.val (.ref b), .val (.int p1), .val (.ref wA), .val (.int (-1 : Int32)), .val (.int i)] [(.ref wA), (.int i), (.int p1), (.ref b)]))
        obtain ⟨_, _, ⟨T3, L3, k3, n3⟩, -, X3, ⟨Lc3, hQ3, l3, y3, z3⟩, st3⟩ := Jvm.LawKit.callS XL5 hx (y := (⟨"com/example/wirecall/wirecall/bench/Answers", "startsAt", "([BII[B)Z"⟩ : MethodName)) hown (mvT hZ (hw _ (List.mem_of_getElem? (i := 28) rfl))) (mvT hZ (hw _ (List.mem_of_getElem? (i := 29) rfl))) (mvT hZ (hw _ (List.mem_of_getElem? (i := 21) rfl))) (mvT hZ (hw _ (List.mem_of_getElem? (i := 30) rfl))) (by decide) (backOf (W := 0) (rm_sta l Z a0 hw [] wOPEN kOPEN wCLOSE kCLOSE wPARAMS kPARAMS hG b p1 i wA kb nB bs kw nW wl lenN h0 n0 Z0 O0 P0 P1 hN hbl hl hle hW hWl (by omega)) hZ (hw _ (List.mem_of_getElem? (i := 30) rfl)) (hw _ (List.mem_of_getElem? (i := 21) rfl)) (Nat.le_of_ble_eq_true rfl) (Nat.le_of_ble_eq_true rfl)) (g := (mkF m 23 #[.val (.ref b), .val (.int p1), .val (.ref wA), .val (.int (-1 : Int32)), .val (.int i)] [(.ref wA), (.int i), (.int p1), (.ref b)])) rfl (by rw [hml]; rfl) (argsL := [(.ref b), (.int p1), (.int i), (.ref wA)]) (rest := []) (lenOf pd_0 rfl) rfl (by show 2 * 0 + _ ≤ _; exact Nat.le_of_eq rfl) (hb hby d7_23) (fun _ _ => ⟨rfl, eL5, (Nat.le_of_ble_eq_true rfl : 0 + 0 ≤ _), (Nat.le_of_ble_eq_true rfl : 0 + 0 ≤ _)⟩)
        dsimp only [Pt.U, Pt.locs, Pt.cells, Pt.slots] at X3 l3 y3 z3 st3 hQ3
        subst l3 y3 z3
        obtain ⟨r_3, rfl, Nq3, eq3, hq3_0⟩ := hQ3
        have N3 := Fr.app NL5 Nq3
        refine Go.by (fun _ => st3 _) ?_
        show Go p e below P (T3.setTop (mkF m 26 #[.val (.ref b), .val (.int p1), .val (.ref wA), .val (.int (-1 : Int32)), .val (.int i)] [(.int r_3)]))
        rcases hq3_0 with ⟨rfl, hSA⟩ | ⟨rfl, hSA⟩
        · show Go p e below P (T3.setTop (mkF m 26 #[.val (.ref b), .val (.int p1), .val (.ref wA), .val (.int (-1 : Int32)), .val (.int i)] [(.int (1 : Int32))]))
          have hc26 : ¬ ((1 : Int32) = (0 : Int32)) := by decide
          refine Go.by (fun _ => XS.ifNo X3.here hx rfl (hb hby d7_26) rfl ((if0 _ _).trans (feq hc26).1)) ?_
          show Go p e below P (T3.setTop (mkF m 29 #[.val (.ref b), .val (.int p1), .val (.ref wA), .val (.int (-1 : Int32)), .val (.int i)] []))
          refine Go.by (fun _ => XS.iload X3.here hx rfl (hb hby d7_29) rfl) ?_
          show Go p e below P (T3.setTop (mkF m 31 #[.val (.ref b), .val (.int p1), .val (.ref wA), .val (.int (-1 : Int32)), .val (.int i)] [(.int i)]))
          refine Go.by (fun _ => XS.istoreN X3.here hx rfl (g := (mkF m 31 #[.val (.ref b), .val (.int p1), .val (.ref wA), .val (.int (-1 : Int32)), .val (.int i)] [(.int i)])) (hb hby d7_31) rfl (l' := #[.val (.ref b), .val (.int p1), .val (.ref wA), .val (.int i), .val (.int i)]) rfl) ?_
          show Go p e below P (T3.setTop (mkF m 32 #[.val (.ref b), .val (.int p1), .val (.ref wA), .val (.int i), .val (.int i)] []))
          refine Go.by (fun _ => own_iinc X3.here hx rfl (g := (mkF m 32 #[.val (.ref b), .val (.int p1), .val (.ref wA), .val (.int i), .val (.int i)] [])) (hb hby d7_32) rfl (z := (1 : Int32)) (by decide) (l' := #[.val (.ref b), .val (.int p1), .val (.ref wA), .val (.int i), .val (.int (i + (1 : Int32)))]) rfl) ?_
          show Go p e below P (T3.setTop (mkF m 35 #[.val (.ref b), .val (.int p1), .val (.ref wA), .val (.int i), .val (.int (i + (1 : Int32)))] []))
          refine Go.by (fun _ => XS.goto X3.here hx rfl (pc0 := 35) (pc' := 5) rfl (hb hby d7_35) (by decide) (by decide)) ?_
          show Go p e below P (T3.setTop (mkF m 5 #[.val (.ref b), .val (.int p1), .val (.ref wA), .val (.int i), .val (.int (i + (1 : Int32)))] []))
          refine Go.by (fun _ => XS.iloadN X3.here hx rfl (hb hby d7_5) rfl) ?_
          show Go p e below P (T3.setTop (mkF m 6 #[.val (.ref b), .val (.int p1), .val (.ref wA), .val (.int i), .val (.int (i + (1 : Int32)))] [(.int i)]))
          have hc6 : ¬ (i < (0 : Int32)) := (fun q => by rw [Int32.lt_iff_toInt_lt] at q; have l0 : (0 : Int32).toInt = 0 := rfl; omega)
          refine Go.by (fun _ => XS.ifYes X3.here hx rfl (pc0 := 6) (pc' := 38) rfl (hb hby d7_6) rfl ((if0 _ _).trans (flt hc6).2.1) (by decide) (by decide)) ?_
          show Go p e below P (T3.setTop (mkF m 38 #[.val (.ref b), .val (.int p1), .val (.ref wA), .val (.int i), .val (.int (i + (1 : Int32)))] []))
          refine Go.by (fun _ => XS.iloadN X3.here hx rfl (hb hby d7_38) rfl) ?_
          show Go p e below P (T3.setTop (mkF m 39 #[.val (.ref b), .val (.int p1), .val (.ref wA), .val (.int i), .val (.int (i + (1 : Int32)))] [(.int i)]))
          subst hP
          refine Go.retI X3 hx Bd.returns hlk (hb hby d7_39) (Nat.le_of_ble_eq_true rfl) (Nat.le_of_ble_eq_true rfl) ?_
          rw [eq3]
          exact ⟨_, rfl, N3, rfl, Or.inr ⟨i.toInt.toNat, by omega, by have z := hSA.2.1; omega, hSA.2.2, fun j hj => hno j (by omega)⟩⟩
        · show Go p e below P (T3.setTop (mkF m 26 #[.val (.ref b), .val (.int p1), .val (.ref wA), .val (.int (-1 : Int32)), .val (.int i)] [(.int (0 : Int32))]))
          have hc26 : (0 : Int32) = (0 : Int32) := by decide
          refine Go.by (fun _ => XS.ifYes X3.here hx rfl (pc0 := 26) (pc' := 32) rfl (hb hby d7_26) rfl ((if0 _ _).trans (teq hc26).1) (by decide) (by decide)) ?_
          show Go p e below P (T3.setTop (mkF m 32 #[.val (.ref b), .val (.int p1), .val (.ref wA), .val (.int (-1 : Int32)), .val (.int i)] []))
          refine Go.by (fun _ => own_iinc X3.here hx rfl (g := (mkF m 32 #[.val (.ref b), .val (.int p1), .val (.ref wA), .val (.int (-1 : Int32)), .val (.int i)] [])) (hb hby d7_32) rfl (z := (1 : Int32)) (by decide) (l' := #[.val (.ref b), .val (.int p1), .val (.ref wA), .val (.int (-1 : Int32)), .val (.int (i + (1 : Int32)))]) rfl) ?_
          show Go p e below P (T3.setTop (mkF m 35 #[.val (.ref b), .val (.int p1), .val (.ref wA), .val (.int (-1 : Int32)), .val (.int (i + (1 : Int32)))] []))
          refine Go.by (fun _ => XS.goto X3.here hx rfl (pc0 := 35) (pc' := 5) rfl (hb hby d7_35) (by decide) (by decide)) ?_
          show Go p e below P (T3.setTop (mkF m 5 #[.val (.ref b), .val (.int p1), .val (.ref wA), .val (.int (-1 : Int32)), .val (.int (i + (1 : Int32)))] []))
          exact ih T3 _ X3 eq3 N3 (i + (1 : Int32)) (by omega) (by rw [own_add i 1 (by omega) (by decide)]; have l1 : (1 : Int32).toInt = 1 := rfl; omega) (fun j hj => (Nat.lt_or_ge j (lenN + 1 - (k + 1))).elim (hno j) (fun q z => hSA ⟨by omega, by have z2 := hc15; rw [Int32.lt_iff_toInt_lt, own_add i nW (by omega) (by omega)] at z2; omega, by have e_ : i.toInt.toNat = j := (by omega); rw [e_]; exact z⟩))
  exact L5 (lenN + 1) s₁ _ X0 e0 N0 (0 : Int32) (Nat.le_refl _) (by have l0 : (0 : Int32).toInt = 0 := rfl; omega) (fun j hj => by omega)
theorem d6_0 : decode prog_39_method_3_code 0 = .ok (.aload_n 0, 1) := by decide +kernel
theorem d6_1 : decode prog_39_method_3_code 1 = .ok (.iload_n 1, 1) := by decide +kernel
theorem d6_2 : decode prog_39_method_3_code 2 = .ok (.getstatic 19, 3) := by decide +kernel
theorem d6_5 : decode prog_39_method_3_code 5 = .ok (.invokestatic 25, 3) := by decide +kernel
theorem d6_8 : decode prog_39_method_3_code 8 = .ok (.istore_n 2, 1) := by decide +kernel
theorem d6_9 : decode prog_39_method_3_code 9 = .ok (.iload_n 1, 1) := by decide +kernel
theorem d6_10 : decode prog_39_method_3_code 10 = .ok (.istore_n 3, 1) := by decide +kernel
theorem d6_11 : decode prog_39_method_3_code 11 = .ok (.iload_n 3, 1) := by decide +kernel
theorem d6_12 : decode prog_39_method_3_code 12 = .ok (.ifCond .le 20, 3) := by decide +kernel
theorem d6_15 : decode prog_39_method_3_code 15 = .ok (.aload_n 0, 1) := by decide +kernel
theorem d6_16 : decode prog_39_method_3_code 16 = .ok (.iload_n 3, 1) := by decide +kernel
theorem d6_17 : decode prog_39_method_3_code 17 = .ok (.iconst 1, 1) := by decide +kernel
theorem d6_18 : decode prog_39_method_3_code 18 = .ok (.isub, 1) := by decide +kernel
theorem d6_19 : decode prog_39_method_3_code 19 = .ok (.baload, 1) := by decide +kernel
theorem d6_20 : decode prog_39_method_3_code 20 = .ok (.invokestatic 29, 3) := by decide +kernel
theorem d6_23 : decode prog_39_method_3_code 23 = .ok (.ifCond .eq 9, 3) := by decide +kernel
theorem d6_26 : decode prog_39_method_3_code 26 = .ok (.iinc 3 (-1), 3) := by decide +kernel
theorem d6_29 : decode prog_39_method_3_code 29 = .ok (.goto (-18), 3) := by decide +kernel
theorem d6_32 : decode prog_39_method_3_code 32 = .ok (.iconst 0, 1) := by decide +kernel
theorem d6_33 : decode prog_39_method_3_code 33 = .ok (.istore 4, 2) := by decide +kernel
theorem d6_35 : decode prog_39_method_3_code 35 = .ok (.iload_n 2, 1) := by decide +kernel
theorem d6_36 : decode prog_39_method_3_code 36 = .ok (.ifCond .lt 62, 3) := by decide +kernel
theorem d6_39 : decode prog_39_method_3_code 39 = .ok (.aload_n 0, 1) := by decide +kernel
theorem d6_40 : decode prog_39_method_3_code 40 = .ok (.iload_n 3, 1) := by decide +kernel
theorem d6_41 : decode prog_39_method_3_code 41 = .ok (.iload_n 3, 1) := by decide +kernel
theorem d6_42 : decode prog_39_method_3_code 42 = .ok (.getstatic 33, 3) := by decide +kernel
theorem d6_45 : decode prog_39_method_3_code 45 = .ok (.arraylength, 1) := by decide +kernel
theorem d6_46 : decode prog_39_method_3_code 46 = .ok (.isub, 1) := by decide +kernel
theorem d6_47 : decode prog_39_method_3_code 47 = .ok (.getstatic 33, 3) := by decide +kernel
theorem d6_50 : decode prog_39_method_3_code 50 = .ok (.invokestatic 36, 3) := by decide +kernel
theorem d6_53 : decode prog_39_method_3_code 53 = .ok (.ifCond .eq 45, 3) := by decide +kernel
theorem d6_56 : decode prog_39_method_3_code 56 = .ok (.iload_n 2, 1) := by decide +kernel
theorem d6_57 : decode prog_39_method_3_code 57 = .ok (.getstatic 19, 3) := by decide +kernel
theorem d6_60 : decode prog_39_method_3_code 60 = .ok (.arraylength, 1) := by decide +kernel
theorem d6_61 : decode prog_39_method_3_code 61 = .ok (.iadd, 1) := by decide +kernel
theorem d6_62 : decode prog_39_method_3_code 62 = .ok (.istore 5, 2) := by decide +kernel
theorem d6_64 : decode prog_39_method_3_code 64 = .ok (.iload 5, 2) := by decide +kernel
theorem d6_66 : decode prog_39_method_3_code 66 = .ok (.iload_n 3, 1) := by decide +kernel
theorem d6_67 : decode prog_39_method_3_code 67 = .ok (.if_icmp .ge 19, 3) := by decide +kernel
theorem d6_70 : decode prog_39_method_3_code 70 = .ok (.aload_n 0, 1) := by decide +kernel
theorem d6_71 : decode prog_39_method_3_code 71 = .ok (.iload 5, 2) := by decide +kernel
theorem d6_73 : decode prog_39_method_3_code 73 = .ok (.baload, 1) := by decide +kernel
theorem d6_74 : decode prog_39_method_3_code 74 = .ok (.invokestatic 29, 3) := by decide +kernel
theorem d6_77 : decode prog_39_method_3_code 77 = .ok (.ifCond .eq 9, 3) := by decide +kernel
theorem d6_80 : decode prog_39_method_3_code 80 = .ok (.iinc 5 1, 3) := by decide +kernel
theorem d6_83 : decode prog_39_method_3_code 83 = .ok (.goto (-19), 3) := by decide +kernel
theorem d6_86 : decode prog_39_method_3_code 86 = .ok (.aload_n 0, 1) := by decide +kernel
theorem d6_87 : decode prog_39_method_3_code 87 = .ok (.iload_n 3, 1) := by decide +kernel
theorem d6_88 : decode prog_39_method_3_code 88 = .ok (.iload 5, 2) := by decide +kernel
theorem d6_90 : decode prog_39_method_3_code 90 = .ok (.getstatic 40, 3) := by decide +kernel
theorem d6_93 : decode prog_39_method_3_code 93 = .ok (.invokestatic 36, 3) := by decide +kernel
theorem d6_96 : decode prog_39_method_3_code 96 = .ok (.istore 4, 2) := by decide +kernel
theorem d6_98 : decode prog_39_method_3_code 98 = .ok (.iload 4, 2) := by decide +kernel
theorem d6_100 : decode prog_39_method_3_code 100 = .ok (.ireturn, 1) := by decide +kernel
theorem ef_isr (m : MethodId) (x0 : Addr) (x1 : Int32) : entryFrame m #[(.ref x0), (.int x1)] 6 = mkF m 0 #[.val (.ref x0), .val (.int x1), .unset, .unset, .unset, .unset] [] := by first | (simp [entryFrame, mkF, argsToLocals, Value.category]; done) | rfl
def Q_isr (Z : State) (wOPEN : Addr) (kOPEN : ClassId) (wCLOSE : Addr) (kCLOSE : ClassId) (wPARAMS : Addr) (kPARAMS : ClassId) (b : Addr) (p1 : Int32) (kb : ClassId) (nB : Int32) (bs : List Int32) (lenN : Nat) (h0 : Heap) (n0 : Nat) (v : Option Value) (h : Heap) (L : List Loc) : Prop := ∃ (r : Int32), v = some (.int r) ∧ Fr n0 L ∧ h = h0 ∧ ((r = 1 ∧ Yes (fun i => bs.getD i 0) lenN) ∨ (r = 0 ∧ No (fun i => bs.getD i 0) lenN))
set_option maxRecDepth 65536 in
set_option maxHeartbeats 40000000 in
theorem rm_isr (l : Launch) (Z : State) (a0 : Array Value) (hw : ∀ d ∈ tables_1, d.before a0 Z = true) (ws : List Jvm.Cond) (wOPEN : Addr) (kOPEN : ClassId) (wCLOSE : Addr) (kCLOSE : ClassId) (wPARAMS : Addr) (kPARAMS : ClassId) (hG : Glob Z wOPEN kOPEN wCLOSE kCLOSE wPARAMS kPARAMS) (b : Addr) (p1 : Int32) (kb : ClassId) (nB : Int32) (bs : List Int32) (lenN : Nat) (h0 : Heap) (n0 : Nat) (Z0 : n0 ≤ h0.size) (O0 : Old Z n0 h0) (P0 : Arv Z h0 b kb .byte nB (bs.map Value.int) (.int (0 : Int32))) (hN : nB.toInt = ((bs.length : Nat) : Int)) (hbl : bs.length ≤ 100) (hl : p1.toInt = ((lenN : Nat) : Int)) (hle : lenN ≤ bs.length) :
    MetFree l (⟨"com/example/wirecall/wirecall/bench/Answers", "isResult", "([BI)Z"⟩ : MethodName) (head1 (Jvm.Cond.code (⟨"com/example/wirecall/wirecall/bench/Answers", "isResult", "([BI)Z"⟩ : MethodName) prog_39_method_3_code 6 (some .boolean) :: ws) ({ frames := 2, cells := 0, slots := 0, locals := 33 } : Room)) (fun a U => a = #[(.ref b), (.int p1)] ∧ Z.Warmed39 U.vm ∧ U.heap = h0) (fun _ _ _ _ _ => True) (fun _ U o U' => ∃ v L, o = .returned v ∧ Q_isr Z wOPEN kOPEN wCLOSE kCLOSE wPARAMS kPARAMS b p1 kb nB bs lenN h0 n0 v U'.heap L ∧ FrameEnd U o U' L ({ frames := 2, cells := 0, slots := 0, locals := 33 } : Room).cells ({ frames := 2, cells := 0, slots := 0, locals := 33 } : Room).slots) := by
  refine MetFree.of_bodySF (plainFor_of_name pn_0) hisR ?_
  intro p e s m args below meth c s₁ Bd hml0 hP hK
  obtain ⟨rfl, hZ, hh⟩ := hP
  have hx := Bd.exec
  have hby := Bd.bytes
  have hml : c.maxLocals = 6 := hml0
  have hown : s.vm.findClass "com/example/wirecall/wirecall/bench/Answers" = some m.cls := findClass_of_methodNamed Bd.named
  have hnm := (name_of_methodNamed Bd.named Bd.method).1
  have hlk : meth.locks = false := BodyLoose.notSynchronized Bd
  have X0 : Stand p l e ({ frames := 2, cells := 0, slots := 0, locals := 33 } : Room) s m #[(.ref b), (.int p1)] below meth c s₁ [] 0 0 := Stand.of_body Bd
  have e0 : s₁.heap = h0 := by rw [← hh, Bd.state]; rfl
  have N0 := Fr.nil n0
  obtain ⟨G0, G1, G2, G3, G4, G5⟩ := id hG
  show Go p e below (End s (Q_isr Z wOPEN kOPEN wCLOSE kCLOSE wPARAMS kPARAMS b p1 kb nB bs lenN h0 n0) ({ frames := 2, cells := 0, slots := 0, locals := 33 } : Room).cells ({ frames := 2, cells := 0, slots := 0, locals := 33 } : Room).slots) (s₁.setTop (entryFrame m #[(.ref b), (.int p1)] 6))
  rw [ef_isr]
  generalize hP : End s (Q_isr Z wOPEN kOPEN wCLOSE kCLOSE wPARAMS kPARAMS b p1 kb nB bs lenN h0 n0) ({ frames := 2, cells := 0, slots := 0, locals := 33 } : Room).cells ({ frames := 2, cells := 0, slots := 0, locals := 33 } : Room).slots = P
  show Go p e below P (s₁.setTop (mkF m 0 #[.val (.ref b), .val (.int p1), .unset, .unset, .unset, .unset] []))
  refine Go.by (fun _ => XS.aloadN X0.here hx rfl (hb hby d6_0) rfl rfl) ?_
  show Go p e below P (s₁.setTop (mkF m 1 #[.val (.ref b), .val (.int p1), .unset, .unset, .unset, .unset] [(.ref b)]))
  refine Go.by (fun _ => XS.iloadN X0.here hx rfl (hb hby d6_1) rfl) ?_
  show Go p e below P (s₁.setTop (mkF m 2 #[.val (.ref b), .val (.int p1), .unset, .unset, .unset, .unset] [(.int p1), (.ref b)]))
  obtain ⟨T1, X1, e1, st1⟩ := getS2 X0 hx hZ hown (host := "") (Or.inl (hw _ (List.mem_of_getElem? (i := 23) rfl))) Via.refl e0 (G0.ext O0.2) (g := (mkF m 2 #[.val (.ref b), .val (.int p1), .unset, .unset, .unset, .unset] [(.int p1), (.ref b)])) rfl (hb hby d6_2)
  refine Go.by (fun _ => st1 _) ?_
  show Go p e below P (T1.setTop (mkF m 5 #[.val (.ref b), .val (.int p1), .unset, .unset, .unset, .unset] [(.ref wOPEN), (.int p1), (.ref b)]))
  obtain ⟨_, _, ⟨T2, L2, k2, n2⟩, -, X2, ⟨Lc2, hQ2, l2, y2, z2⟩, st2⟩ := Jvm.LawKit.callS X1 hx (y := (⟨"com/example/wirecall/wirecall/bench/Answers", "indexOf", "([BI[B)I"⟩ : MethodName)) hown (mvT hZ (hw _ (List.mem_of_getElem? (i := 25) rfl))) (mvT hZ (hw _ (List.mem_of_getElem? (i := 26) rfl))) (mvT hZ (hw _ (List.mem_of_getElem? (i := 21) rfl))) (mvT hZ (hw _ (List.mem_of_getElem? (i := 27) rfl))) (by decide) (backOf (W := 0) (rm_ixo l Z a0 hw [] wOPEN kOPEN wCLOSE kCLOSE wPARAMS kPARAMS hG b p1 wOPEN kb nB bs kOPEN ((16 : Int32)) OPN lenN h0 n0 Z0 O0 P0 (G1.ext O0.2) hN hbl hl hle rfl (by decide)) hZ (hw _ (List.mem_of_getElem? (i := 27) rfl)) (hw _ (List.mem_of_getElem? (i := 21) rfl)) (Nat.le_of_ble_eq_true rfl) (Nat.le_of_ble_eq_true rfl)) (g := (mkF m 5 #[.val (.ref b), .val (.int p1), .unset, .unset, .unset, .unset] [(.ref wOPEN), (.int p1), (.ref b)])) rfl (by rw [hml]; rfl) (argsL := [(.ref b), (.int p1), (.ref wOPEN)]) (rest := []) (lenOf pd_1 rfl) rfl (by show 2 * 0 + _ ≤ _; exact Nat.le_of_eq rfl) (hb hby d6_5) (fun _ _ => ⟨rfl, e1, (Nat.le_of_ble_eq_true rfl : 0 + 0 ≤ _), (Nat.le_of_ble_eq_true rfl : 0 + 0 ≤ _)⟩)
  dsimp only [Pt.U, Pt.locs, Pt.cells, Pt.slots] at X2 l2 y2 z2 st2 hQ2
  subst l2 y2 z2
  obtain ⟨r_2, rfl, Nq2, eq2, hq2_0⟩ := hQ2
  have N2 := Fr.app N0 Nq2
  refine Go.by (fun _ => st2 _) ?_
  show Go p e below P (T2.setTop (mkF m 8 #[.val (.ref b), .val (.int p1), .unset, .unset, .unset, .unset] [(.int r_2)]))
  refine Go.by (fun _ => XS.istoreN X2.here hx rfl (g := (mkF m 8 #[.val (.ref b), .val (.int p1), .unset, .unset, .unset, .unset] [(.int r_2)])) (hb hby d6_8) rfl (l' := #[.val (.ref b), .val (.int p1), .val (.int r_2), .unset, .unset, .unset]) rfl) ?_
  show Go p e below P (T2.setTop (mkF m 9 #[.val (.ref b), .val (.int p1), .val (.int r_2), .unset, .unset, .unset] []))
  refine Go.by (fun _ => XS.iloadN X2.here hx rfl (hb hby d6_9) rfl) ?_
  show Go p e below P (T2.setTop (mkF m 10 #[.val (.ref b), .val (.int p1), .val (.int r_2), .unset, .unset, .unset] [(.int p1)]))
  refine Go.by (fun _ => XS.istoreN X2.here hx rfl (g := (mkF m 10 #[.val (.ref b), .val (.int p1), .val (.int r_2), .unset, .unset, .unset] [(.int p1)])) (hb hby d6_10) rfl (l' := #[.val (.ref b), .val (.int p1), .val (.int r_2), .val (.int p1), .unset, .unset]) rfl) ?_
  show Go p e below P (T2.setTop (mkF m 11 #[.val (.ref b), .val (.int p1), .val (.int r_2), .val (.int p1), .unset, .unset] []))
  have J32 : ∀ (TJ32 : State) (lcJ32 : List Loc) (XJ32 : Stand p l e ({ frames := 2, cells := 0, slots := 0, locals := 33 } : Room) s m #[(.ref b), (.int p1)] below meth c TJ32 lcJ32 0 0) (eJ32 : TJ32.heap = h0) (NJ32 : Fr n0 lcJ32) (e_ : Int32) (eN : Nat) (heN : e_.toInt = ((eN : Nat) : Int)) (hE : EndT (fun i => bs.getD i 0) lenN eN), Go p e below P (TJ32.setTop (mkF m 32 #[.val (.ref b), .val (.int p1), .val (.int r_2), .val (.int e_), .unset, .unset] [])) := by
    intro TJ32 lcJ32 XJ32 eJ32 NJ32 e_ eN heN hE
    refine Go.by (fun _ => XS.iconst XJ32.here hx rfl (hb hby d6_32)) ?_
    show Go p e below P (TJ32.setTop (mkF m 33 #[.val (.ref b), .val (.int p1), .val (.int r_2), .val (.int e_), .unset, .unset] [(.int (0 : Int32))]))
    refine Go.by (fun _ => XS.istore XJ32.here hx rfl (g := (mkF m 33 #[.val (.ref b), .val (.int p1), .val (.int r_2), .val (.int e_), .unset, .unset] [(.int (0 : Int32))])) (hb hby d6_33) rfl (l' := #[.val (.ref b), .val (.int p1), .val (.int r_2), .val (.int e_), .val (.int (0 : Int32)), .unset]) rfl) ?_
    show Go p e below P (TJ32.setTop (mkF m 35 #[.val (.ref b), .val (.int p1), .val (.int r_2), .val (.int e_), .val (.int (0 : Int32)), .unset] []))
    rcases hq2_0 with ⟨rfl, hno⟩ | ⟨iN, hiN, hi1, hi2, hi3⟩
    · show Go p e below P (TJ32.setTop (mkF m 35 #[.val (.ref b), .val (.int p1), .val (.int (-1 : Int32)), .val (.int e_), .val (.int (0 : Int32)), .unset] []))
      refine Go.by (fun _ => XS.iloadN XJ32.here hx rfl (hb hby d6_35) rfl) ?_
      show Go p e below P (TJ32.setTop (mkF m 36 #[.val (.ref b), .val (.int p1), .val (.int (-1 : Int32)), .val (.int e_), .val (.int (0 : Int32)), .unset] [(.int (-1 : Int32))]))
      have hc36 : (-1 : Int32) < (0 : Int32) := by decide
      refine Go.by (fun _ => XS.ifYes XJ32.here hx rfl (pc0 := 36) (pc' := 98) rfl (hb hby d6_36) rfl ((if0 _ _).trans (tlt hc36).1) (by decide) (by decide)) ?_
      show Go p e below P (TJ32.setTop (mkF m 98 #[.val (.ref b), .val (.int p1), .val (.int (-1 : Int32)), .val (.int e_), .val (.int (0 : Int32)), .unset] []))
      refine Go.by (fun _ => XS.iload XJ32.here hx rfl (hb hby d6_98) rfl) ?_
      show Go p e below P (TJ32.setTop (mkF m 100 #[.val (.ref b), .val (.int p1), .val (.int (-1 : Int32)), .val (.int e_), .val (.int (0 : Int32)), .unset] [(.int (0 : Int32))]))
      subst hP
      refine Go.retZ XJ32 hx (t := .boolean) Bd.returns (by simp) hlk (hb hby d6_100) (Nat.le_of_ble_eq_true rfl) (Nat.le_of_ble_eq_true rfl) ?_
      rw [eJ32]
      exact ⟨_, rfl, NJ32, rfl, Or.inr ⟨rfl, Or.inl hno⟩⟩
    · have hi1' : iN + 16 ≤ lenN := hi1
      show Go p e below P (TJ32.setTop (mkF m 35 #[.val (.ref b), .val (.int p1), .val (.int r_2), .val (.int e_), .val (.int (0 : Int32)), .unset] []))
      refine Go.by (fun _ => XS.iloadN XJ32.here hx rfl (hb hby d6_35) rfl) ?_
      show Go p e below P (TJ32.setTop (mkF m 36 #[.val (.ref b), .val (.int p1), .val (.int r_2), .val (.int e_), .val (.int (0 : Int32)), .unset] [(.int r_2)]))
      have hc36 : ¬ (r_2 < (0 : Int32)) := (fun q => by rw [Int32.lt_iff_toInt_lt] at q; have l0 : (0 : Int32).toInt = 0 := rfl; omega)
      refine Go.by (fun _ => XS.ifNo XJ32.here hx rfl (hb hby d6_36) rfl ((if0 _ _).trans (flt hc36).1)) ?_
      show Go p e below P (TJ32.setTop (mkF m 39 #[.val (.ref b), .val (.int p1), .val (.int r_2), .val (.int e_), .val (.int (0 : Int32)), .unset] []))
      refine Go.by (fun _ => XS.aloadN XJ32.here hx rfl (hb hby d6_39) rfl rfl) ?_
      show Go p e below P (TJ32.setTop (mkF m 40 #[.val (.ref b), .val (.int p1), .val (.int r_2), .val (.int e_), .val (.int (0 : Int32)), .unset] [(.ref b)]))
      refine Go.by (fun _ => XS.iloadN XJ32.here hx rfl (hb hby d6_40) rfl) ?_
      show Go p e below P (TJ32.setTop (mkF m 41 #[.val (.ref b), .val (.int p1), .val (.int r_2), .val (.int e_), .val (.int (0 : Int32)), .unset] [(.int e_), (.ref b)]))
      refine Go.by (fun _ => XS.iloadN XJ32.here hx rfl (hb hby d6_41) rfl) ?_
      show Go p e below P (TJ32.setTop (mkF m 42 #[.val (.ref b), .val (.int p1), .val (.int r_2), .val (.int e_), .val (.int (0 : Int32)), .unset] [(.int e_), (.int e_), (.ref b)]))
      obtain ⟨T3, X3, e3, st3⟩ := getS2 XJ32 hx hZ hown (host := "") (Or.inl (hw _ (List.mem_of_getElem? (i := 34) rfl))) Via.refl eJ32 (G2.ext O0.2) (g := (mkF m 42 #[.val (.ref b), .val (.int p1), .val (.int r_2), .val (.int e_), .val (.int (0 : Int32)), .unset] [(.int e_), (.int e_), (.ref b)])) rfl (hb hby d6_42)
      refine Go.by (fun _ => st3 _) ?_
      show Go p e below P (T3.setTop (mkF m 45 #[.val (.ref b), .val (.int p1), .val (.int r_2), .val (.int e_), .val (.int (0 : Int32)), .unset] [(.ref wCLOSE), (.int e_), (.int e_), (.ref b)]))
      obtain ⟨cl4, Ar4, -, Sz4, Ng4, -, -⟩ := id ((G3.ext O0.2))
      refine Go.by (fun _ => X3.arraylength hx (by rw [e3]; exact Ar4.1) (State.isArrayOf_alike hZ.alike Ar4.2.1) (g := (mkF m 45 #[.val (.ref b), .val (.int p1), .val (.int r_2), .val (.int e_), .val (.int (0 : Int32)), .unset] [(.ref wCLOSE), (.int e_), (.int e_), (.ref b)])) rfl rfl (hb hby d6_45) _) ?_
      rw [len_of Sz4 Ng4]
      show Go p e below P (T3.setTop (mkF m 46 #[.val (.ref b), .val (.int p1), .val (.int r_2), .val (.int e_), .val (.int (0 : Int32)), .unset] [(.int (17 : Int32)), (.int e_), (.int e_), (.ref b)]))
      refine Go.by (fun _ => XS.isub X3.here hx rfl (hb hby d6_46) rfl) ?_
      show Go p e below P (T3.setTop (mkF m 47 #[.val (.ref b), .val (.int p1), .val (.int r_2), .val (.int e_), .val (.int (0 : Int32)), .unset] [(.int (e_ - (17 : Int32))), (.int e_), (.ref b)]))
      obtain ⟨T5, X5, e5, st5⟩ := getS2 X3 hx hZ hown (host := "") (Or.inl (hw _ (List.mem_of_getElem? (i := 34) rfl))) Via.refl e3 (G2.ext O0.2) (g := (mkF m 47 #[.val (.ref b), .val (.int p1), .val (.int r_2), .val (.int e_), .val (.int (0 : Int32)), .unset] [(.int (e_ - (17 : Int32))), (.int e_), (.ref b)])) rfl (hb hby d6_47)
      refine Go.by (fun _ => st5 _) ?_
      show Go p e below P (T5.setTop (mkF m 50 #[.val (.ref b), .val (.int p1), .val (.int r_2), .val (.int e_), .val (.int (0 : Int32)), .unset] [(.ref wCLOSE), (.int (e_ - (17 : Int32))), (.int e_), (.ref b)]))
      obtain ⟨_, _, ⟨T6, L6, k6, n6⟩, -, X6, ⟨Lc6, hQ6, l6, y6, z6⟩, st6⟩ := Jvm.LawKit.callS X5 hx (y := (⟨"com/example/wirecall/wirecall/bench/Answers", "startsAt", "([BII[B)Z"⟩ : MethodName)) hown (mvT hZ (hw _ (List.mem_of_getElem? (i := 28) rfl))) (mvT hZ (hw _ (List.mem_of_getElem? (i := 29) rfl))) (mvT hZ (hw _ (List.mem_of_getElem? (i := 21) rfl))) (mvT hZ (hw _ (List.mem_of_getElem? (i := 30) rfl))) (by decide) (backOf (W := 0) (rm_sta l Z a0 hw [] wOPEN kOPEN wCLOSE kCLOSE wPARAMS kPARAMS hG b e_ ((e_ - (17 : Int32))) wCLOSE kb nB bs kCLOSE ((17 : Int32)) CLO eN h0 n0 Z0 O0 P0 (G3.ext O0.2) hN hbl heN (Nat.le_trans hE.1 hle) rfl (by decide) (by rw [own_sub e_ 17 (by have := hE.1; omega) (by decide)]; have l17 : (17 : Int32).toInt = 17 := rfl; have := hE.1; omega)) hZ (hw _ (List.mem_of_getElem? (i := 30) rfl)) (hw _ (List.mem_of_getElem? (i := 21) rfl)) (Nat.le_of_ble_eq_true rfl) (Nat.le_of_ble_eq_true rfl)) (g := (mkF m 50 #[.val (.ref b), .val (.int p1), .val (.int r_2), .val (.int e_), .val (.int (0 : Int32)), .unset] [(.ref wCLOSE), (.int (e_ - (17 : Int32))), (.int e_), (.ref b)])) rfl (by rw [hml]; rfl) (argsL := [(.ref b), (.int e_), (.int (e_ - (17 : Int32))), (.ref wCLOSE)]) (rest := []) (lenOf pd_0 rfl) rfl (by show 2 * 0 + _ ≤ _; exact Nat.le_of_eq rfl) (hb hby d6_50) (fun _ _ => ⟨rfl, e5, (Nat.le_of_ble_eq_true rfl : 0 + 0 ≤ _), (Nat.le_of_ble_eq_true rfl : 0 + 0 ≤ _)⟩)
      dsimp only [Pt.U, Pt.locs, Pt.cells, Pt.slots] at X6 l6 y6 z6 st6 hQ6
      subst l6 y6 z6
      obtain ⟨r_6, rfl, Nq6, eq6, hq6_0⟩ := hQ6
      have N6 := Fr.app NJ32 Nq6
      refine Go.by (fun _ => st6 _) ?_
      show Go p e below P (T6.setTop (mkF m 53 #[.val (.ref b), .val (.int p1), .val (.int r_2), .val (.int e_), .val (.int (0 : Int32)), .unset] [(.int r_6)]))
      rcases hq6_0 with ⟨rfl, hCL⟩ | ⟨rfl, hCL⟩
      · show Go p e below P (T6.setTop (mkF m 53 #[.val (.ref b), .val (.int p1), .val (.int r_2), .val (.int e_), .val (.int (0 : Int32)), .unset] [(.int (1 : Int32))]))
        have hc53 : ¬ ((1 : Int32) = (0 : Int32)) := by decide
        refine Go.by (fun _ => XS.ifNo X6.here hx rfl (hb hby d6_53) rfl ((if0 _ _).trans (feq hc53).1)) ?_
        show Go p e below P (T6.setTop (mkF m 56 #[.val (.ref b), .val (.int p1), .val (.int r_2), .val (.int e_), .val (.int (0 : Int32)), .unset] []))
        refine Go.by (fun _ => XS.iloadN X6.here hx rfl (hb hby d6_56) rfl) ?_
        show Go p e below P (T6.setTop (mkF m 57 #[.val (.ref b), .val (.int p1), .val (.int r_2), .val (.int e_), .val (.int (0 : Int32)), .unset] [(.int r_2)]))
        obtain ⟨T7, X7, e7, st7⟩ := getS2 X6 hx hZ hown (host := "") (Or.inl (hw _ (List.mem_of_getElem? (i := 23) rfl))) Via.refl eq6 (G0.ext O0.2) (g := (mkF m 57 #[.val (.ref b), .val (.int p1), .val (.int r_2), .val (.int e_), .val (.int (0 : Int32)), .unset] [(.int r_2)])) rfl (hb hby d6_57)
        refine Go.by (fun _ => st7 _) ?_
        show Go p e below P (T7.setTop (mkF m 60 #[.val (.ref b), .val (.int p1), .val (.int r_2), .val (.int e_), .val (.int (0 : Int32)), .unset] [(.ref wOPEN), (.int r_2)]))
        obtain ⟨cl8, Ar8, -, Sz8, Ng8, -, -⟩ := id ((G1.ext O0.2))
        refine Go.by (fun _ => X7.arraylength hx (by rw [e7]; exact Ar8.1) (State.isArrayOf_alike hZ.alike Ar8.2.1) (g := (mkF m 60 #[.val (.ref b), .val (.int p1), .val (.int r_2), .val (.int e_), .val (.int (0 : Int32)), .unset] [(.ref wOPEN), (.int r_2)])) rfl rfl (hb hby d6_60) _) ?_
        rw [len_of Sz8 Ng8]
        show Go p e below P (T7.setTop (mkF m 61 #[.val (.ref b), .val (.int p1), .val (.int r_2), .val (.int e_), .val (.int (0 : Int32)), .unset] [(.int (16 : Int32)), (.int r_2)]))
        refine Go.by (fun _ => XS.iadd X7.here hx rfl (hb hby d6_61) rfl) ?_
        show Go p e below P (T7.setTop (mkF m 62 #[.val (.ref b), .val (.int p1), .val (.int r_2), .val (.int e_), .val (.int (0 : Int32)), .unset] [(.int (r_2 + (16 : Int32)))]))
        refine Go.by (fun _ => XS.istore X7.here hx rfl (g := (mkF m 62 #[.val (.ref b), .val (.int p1), .val (.int r_2), .val (.int e_), .val (.int (0 : Int32)), .unset] [(.int (r_2 + (16 : Int32)))])) (hb hby d6_62) rfl (l' := #[.val (.ref b), .val (.int p1), .val (.int r_2), .val (.int e_), .val (.int (0 : Int32)), .val (.int (r_2 + (16 : Int32)))]) rfl) ?_
        show Go p e below P (T7.setTop (mkF m 64 #[.val (.ref b), .val (.int p1), .val (.int r_2), .val (.int e_), .val (.int (0 : Int32)), .val (.int (r_2 + (16 : Int32)))] []))
        have hCL' := (own_sac e_ eN heN (by have := hE.1; omega)).mp hCL
        have J86 : ∀ (TJ86 : State) (lcJ86 : List Loc) (XJ86 : Stand p l e ({ frames := 2, cells := 0, slots := 0, locals := 33 } : Room) s m #[(.ref b), (.int p1)] below meth c TJ86 lcJ86 0 0) (eJ86 : TJ86.heap = h0) (NJ86 : Fr n0 lcJ86) (x5 : Int32) (xN : Nat) (hxN : x5.toInt = ((xN : Nat) : Int)) (hNx : Nxt (fun i => bs.getD i 0) (iN + 16) eN xN) (hxB : xN ≤ 300), Go p e below P (TJ86.setTop (mkF m 86 #[.val (.ref b), .val (.int p1), .val (.int r_2), .val (.int e_), .val (.int (0 : Int32)), .val (.int x5)] [])) := by
          intro TJ86 lcJ86 XJ86 eJ86 NJ86 x5 xN hxN hNx hxB
          refine Go.by (fun _ => XS.aloadN XJ86.here hx rfl (hb hby d6_86) rfl rfl) ?_
          show Go p e below P (TJ86.setTop (mkF m 87 #[.val (.ref b), .val (.int p1), .val (.int r_2), .val (.int e_), .val (.int (0 : Int32)), .val (.int x5)] [(.ref b)]))
          refine Go.by (fun _ => XS.iloadN XJ86.here hx rfl (hb hby d6_87) rfl) ?_
          show Go p e below P (TJ86.setTop (mkF m 88 #[.val (.ref b), .val (.int p1), .val (.int r_2), .val (.int e_), .val (.int (0 : Int32)), .val (.int x5)] [(.int e_), (.ref b)]))
          refine Go.by (fun _ => XS.iload XJ86.here hx rfl (hb hby d6_88) rfl) ?_
          show Go p e below P (TJ86.setTop (mkF m 90 #[.val (.ref b), .val (.int p1), .val (.int r_2), .val (.int e_), .val (.int (0 : Int32)), .val (.int x5)] [(.int x5), (.int e_), (.ref b)]))
          obtain ⟨T9, X9, e9, st9⟩ := getS2 XJ86 hx hZ hown (host := "") (Or.inl (hw _ (List.mem_of_getElem? (i := 36) rfl))) Via.refl eJ86 (G4.ext O0.2) (g := (mkF m 90 #[.val (.ref b), .val (.int p1), .val (.int r_2), .val (.int e_), .val (.int (0 : Int32)), .val (.int x5)] [(.int x5), (.int e_), (.ref b)])) rfl (hb hby d6_90)
          refine Go.by (fun _ => st9 _) ?_
          show Go p e below P (T9.setTop (mkF m 93 #[.val (.ref b), .val (.int p1), .val (.int r_2), .val (.int e_), .val (.int (0 : Int32)), .val (.int x5)] [(.ref wPARAMS), (.int x5), (.int e_), (.ref b)]))
          obtain ⟨_, _, ⟨T10, L10, k10, n10⟩, -, X10, ⟨Lc10, hQ10, l10, y10, z10⟩, st10⟩ := Jvm.LawKit.callS X9 hx (y := (⟨"com/example/wirecall/wirecall/bench/Answers", "startsAt", "([BII[B)Z"⟩ : MethodName)) hown (mvT hZ (hw _ (List.mem_of_getElem? (i := 28) rfl))) (mvT hZ (hw _ (List.mem_of_getElem? (i := 29) rfl))) (mvT hZ (hw _ (List.mem_of_getElem? (i := 21) rfl))) (mvT hZ (hw _ (List.mem_of_getElem? (i := 30) rfl))) (by decide) (backOf (W := 0) (rm_sta l Z a0 hw [] wOPEN kOPEN wCLOSE kCLOSE wPARAMS kPARAMS hG b e_ x5 wPARAMS kb nB bs kPARAMS ((8 : Int32)) PRM eN h0 n0 Z0 O0 P0 (G5.ext O0.2) hN hbl heN (Nat.le_trans hE.1 hle) rfl (by decide) (by omega)) hZ (hw _ (List.mem_of_getElem? (i := 30) rfl)) (hw _ (List.mem_of_getElem? (i := 21) rfl)) (Nat.le_of_ble_eq_true rfl) (Nat.le_of_ble_eq_true rfl)) (g := (mkF m 93 #[.val (.ref b), .val (.int p1), .val (.int r_2), .val (.int e_), .val (.int (0 : Int32)), .val (.int x5)] [(.ref wPARAMS), (.int x5), (.int e_), (.ref b)])) rfl (by rw [hml]; rfl) (argsL := [(.ref b), (.int e_), (.int x5), (.ref wPARAMS)]) (rest := []) (lenOf pd_0 rfl) rfl (by show 2 * 0 + _ ≤ _; exact Nat.le_of_eq rfl) (hb hby d6_93) (fun _ _ => ⟨rfl, e9, (Nat.le_of_ble_eq_true rfl : 0 + 0 ≤ _), (Nat.le_of_ble_eq_true rfl : 0 + 0 ≤ _)⟩)
          dsimp only [Pt.U, Pt.locs, Pt.cells, Pt.slots] at X10 l10 y10 z10 st10 hQ10
          subst l10 y10 z10
          obtain ⟨r_10, rfl, Nq10, eq10, hq10_0⟩ := hQ10
          have N10 := Fr.app NJ86 Nq10
          refine Go.by (fun _ => st10 _) ?_
          show Go p e below P (T10.setTop (mkF m 96 #[.val (.ref b), .val (.int p1), .val (.int r_2), .val (.int e_), .val (.int (0 : Int32)), .val (.int x5)] [(.int r_10)]))
          rcases hq10_0 with ⟨rfl, hPR⟩ | ⟨rfl, hPR⟩
          · show Go p e below P (T10.setTop (mkF m 96 #[.val (.ref b), .val (.int p1), .val (.int r_2), .val (.int e_), .val (.int (0 : Int32)), .val (.int x5)] [(.int (1 : Int32))]))
            refine Go.by (fun _ => XS.istore X10.here hx rfl (g := (mkF m 96 #[.val (.ref b), .val (.int p1), .val (.int r_2), .val (.int e_), .val (.int (0 : Int32)), .val (.int x5)] [(.int (1 : Int32))])) (hb hby d6_96) rfl (l' := #[.val (.ref b), .val (.int p1), .val (.int r_2), .val (.int e_), .val (.int (1 : Int32)), .val (.int x5)]) rfl) ?_
            show Go p e below P (T10.setTop (mkF m 98 #[.val (.ref b), .val (.int p1), .val (.int r_2), .val (.int e_), .val (.int (1 : Int32)), .val (.int x5)] []))
            refine Go.by (fun _ => XS.iload X10.here hx rfl (hb hby d6_98) rfl) ?_
            show Go p e below P (T10.setTop (mkF m 100 #[.val (.ref b), .val (.int p1), .val (.int r_2), .val (.int e_), .val (.int (1 : Int32)), .val (.int x5)] [(.int (1 : Int32))]))
            subst hP
            refine Go.retZ X10 hx (t := .boolean) Bd.returns (by simp) hlk (hb hby d6_100) (Nat.le_of_ble_eq_true rfl) (Nat.le_of_ble_eq_true rfl) ?_
            rw [eq10]
            exact ⟨_, rfl, N10, rfl, Or.inl ⟨rfl, iN, eN, xN, ⟨hi1', hi2, hi3⟩, hE, hCL', hNx, (own_sap x5 eN xN hxN).mp hPR⟩⟩
          · show Go p e below P (T10.setTop (mkF m 96 #[.val (.ref b), .val (.int p1), .val (.int r_2), .val (.int e_), .val (.int (0 : Int32)), .val (.int x5)] [(.int (0 : Int32))]))
            refine Go.by (fun _ => XS.istore X10.here hx rfl (g := (mkF m 96 #[.val (.ref b), .val (.int p1), .val (.int r_2), .val (.int e_), .val (.int (0 : Int32)), .val (.int x5)] [(.int (0 : Int32))])) (hb hby d6_96) rfl (l' := #[.val (.ref b), .val (.int p1), .val (.int r_2), .val (.int e_), .val (.int (0 : Int32)), .val (.int x5)]) rfl) ?_
            show Go p e below P (T10.setTop (mkF m 98 #[.val (.ref b), .val (.int p1), .val (.int r_2), .val (.int e_), .val (.int (0 : Int32)), .val (.int x5)] []))
            refine Go.by (fun _ => XS.iload X10.here hx rfl (hb hby d6_98) rfl) ?_
            show Go p e below P (T10.setTop (mkF m 100 #[.val (.ref b), .val (.int p1), .val (.int r_2), .val (.int e_), .val (.int (0 : Int32)), .val (.int x5)] [(.int (0 : Int32))]))
            subst hP
            refine Go.retZ X10 hx (t := .boolean) Bd.returns (by simp) hlk (hb hby d6_100) (Nat.le_of_ble_eq_true rfl) (Nat.le_of_ble_eq_true rfl) ?_
            rw [eq10]
            exact ⟨_, rfl, N10, rfl, Or.inr ⟨rfl, Or.inr (Or.inr ⟨iN, eN, xN, ⟨hi1', hi2, hi3⟩, hE, hNx, fun q => hPR ((own_sap x5 eN xN hxN).mpr q)⟩)⟩⟩
        have L64 : ∀ (k : Nat) (TL64 : State) (lcL64 : List Loc) (XL64 : Stand p l e ({ frames := 2, cells := 0, slots := 0, locals := 33 } : Room) s m #[(.ref b), (.int p1)] below meth c TL64 lcL64 0 0) (eL64 : TL64.heap = h0) (NL64 : Fr n0 lcL64) (y5 : Int32) (hk : k ≤ eN + 1) (hi : y5.toInt = ((iN + 16 + (eN + 1) - k : Nat) : Int)) (hsp : ∀ j, iN + 16 ≤ j → j < iN + 16 + (eN + 1) - k → isSp (bs.getD j 0)) (hxe : iN + 16 + (eN + 1) - k ≤ eN ∨ iN + 16 + (eN + 1) - k = iN + 16), Go p e below P (TL64.setTop (mkF m 64 #[.val (.ref b), .val (.int p1), .val (.int r_2), .val (.int e_), .val (.int (0 : Int32)), .val (.int y5)] [])) := by
          intro k
          induction k with
          | zero =>
            intro TL64 lcL64 XL64 eL64 NL64 y5 hk hi hsp hxe
            show Go p e below P (TL64.setTop (mkF m 64 #[.val (.ref b), .val (.int p1), .val (.int r_2), .val (.int e_), .val (.int (0 : Int32)), .val (.int y5)] []))
            refine Go.by (fun _ => XS.iload XL64.here hx rfl (hb hby d6_64) rfl) ?_
            show Go p e below P (TL64.setTop (mkF m 66 #[.val (.ref b), .val (.int p1), .val (.int r_2), .val (.int e_), .val (.int (0 : Int32)), .val (.int y5)] [(.int y5)]))
            refine Go.by (fun _ => XS.iloadN XL64.here hx rfl (hb hby d6_66) rfl) ?_
            show Go p e below P (TL64.setTop (mkF m 67 #[.val (.ref b), .val (.int p1), .val (.int r_2), .val (.int e_), .val (.int (0 : Int32)), .val (.int y5)] [(.int e_), (.int y5)]))
            have hc67 : ¬ (y5 < e_) := (fun q => by rw [Int32.lt_iff_toInt_lt] at q; omega)
            refine Go.by (fun _ => XS.icmpYes XL64.here hx rfl (pc0 := 67) (pc' := 86) rfl (hb hby d6_67) rfl (flt hc67).2.1 (by decide) (by decide)) ?_
            show Go p e below P (TL64.setTop (mkF m 86 #[.val (.ref b), .val (.int p1), .val (.int r_2), .val (.int e_), .val (.int (0 : Int32)), .val (.int y5)] []))
            exact J86 TL64 _ XL64 eL64 NL64 y5 ((iN + 16 + (eN + 1) - 0)) (by omega) ⟨by omega, hsp, Or.inl (by have z := hc67; rw [Int32.lt_iff_toInt_lt] at z; omega), hxe⟩ (by have := hE.1; omega)
          | succ k ih =>
            intro TL64 lcL64 XL64 eL64 NL64 y5 hk hi hsp hxe
            show Go p e below P (TL64.setTop (mkF m 64 #[.val (.ref b), .val (.int p1), .val (.int r_2), .val (.int e_), .val (.int (0 : Int32)), .val (.int y5)] []))
            refine Go.by (fun _ => XS.iload XL64.here hx rfl (hb hby d6_64) rfl) ?_
            show Go p e below P (TL64.setTop (mkF m 66 #[.val (.ref b), .val (.int p1), .val (.int r_2), .val (.int e_), .val (.int (0 : Int32)), .val (.int y5)] [(.int y5)]))
            refine Go.by (fun _ => XS.iloadN XL64.here hx rfl (hb hby d6_66) rfl) ?_
            show Go p e below P (TL64.setTop (mkF m 67 #[.val (.ref b), .val (.int p1), .val (.int r_2), .val (.int e_), .val (.int (0 : Int32)), .val (.int y5)] [(.int e_), (.int y5)]))
            by_cases hc67 : y5 < e_
            · refine Go.by (fun _ => XS.icmpNo XL64.here hx rfl (hb hby d6_67) rfl (tlt hc67).2.1) ?_
              show Go p e below P (TL64.setTop (mkF m 70 #[.val (.ref b), .val (.int p1), .val (.int r_2), .val (.int e_), .val (.int (0 : Int32)), .val (.int y5)] []))
              refine Go.by (fun _ => XS.aloadN XL64.here hx rfl (hb hby d6_70) rfl rfl) ?_
              show Go p e below P (TL64.setTop (mkF m 71 #[.val (.ref b), .val (.int p1), .val (.int r_2), .val (.int e_), .val (.int (0 : Int32)), .val (.int y5)] [(.ref b)]))
              refine Go.by (fun _ => XS.iload XL64.here hx rfl (hb hby d6_71) rfl) ?_
              show Go p e below P (TL64.setTop (mkF m 73 #[.val (.ref b), .val (.int p1), .val (.int r_2), .val (.int e_), .val (.int (0 : Int32)), .val (.int y5)] [(.int y5), (.ref b)]))
              have hj11 : (y5).toInt = ((iN + 16 + (eN + 1) - (k + 1) : Nat) : Int) := (by omega)
              have hi11 : iN + 16 + (eN + 1) - (k + 1) < (bs).length := (by have z := hc67; rw [Int32.lt_iff_toInt_lt] at z; have := hE.1; omega)
              obtain ⟨hx11, hy11, hz11⟩ := own_ix hj11 hN hi11
              obtain ⟨cl11, Ar11, qc11, Sz11, Ng11, Hs11, Gf11⟩ := id (P0)
              have hin11 : ¬ (y5 < 0 ∨ cl11.slots.size ≤ (y5).toNatClampNeg) := inb_of Sz11 ⟨hx11, hy11⟩
              refine Go.by (fun _ => XL64.baloadBytes hx (j := y5) (v := (.int (bs.getD (iN + 16 + (eN + 1) - (k + 1)) 0))) (by rw [eL64]; exact Ar11.1) (State.isArrayOf_alike hZ.alike Ar11.2.1) Ar11.2.2 hin11 (Has.at Hs11 hin11 (by rw [hz11]; exact own_get _ _)) (g := (mkF m 73 #[.val (.ref b), .val (.int p1), .val (.int r_2), .val (.int e_), .val (.int (0 : Int32)), .val (.int y5)] [(.int y5), (.ref b)])) rfl rfl (hb hby d6_73) _) ?_
              show Go p e below P (TL64.setTop (mkF m 74 #[.val (.ref b), .val (.int p1), .val (.int r_2), .val (.int e_), .val (.int (0 : Int32)), .val (.int y5)] [(.int (bs.getD (iN + 16 + (eN + 1) - (k + 1)) 0))]))
              obtain ⟨_, _, ⟨T12, L12, k12, n12⟩, -, X12, ⟨Lc12, hQ12, l12, y12, z12⟩, st12⟩ := Jvm.LawKit.callS XL64 hx (y := (⟨"com/example/wirecall/wirecall/bench/Answers", "isSpace", "(B)Z"⟩ : MethodName)) hown (mvT hZ (hw _ (List.mem_of_getElem? (i := 31) rfl))) (mvT hZ (hw _ (List.mem_of_getElem? (i := 32) rfl))) (mvT hZ (hw _ (List.mem_of_getElem? (i := 21) rfl))) (mvT hZ (hw _ (List.mem_of_getElem? (i := 33) rfl))) (by decide) (backOf (W := 0) (rm_isp l Z a0 hw [] wOPEN kOPEN wCLOSE kCLOSE wPARAMS kPARAMS hG ((bs.getD (iN + 16 + (eN + 1) - (k + 1)) 0)) h0 n0 Z0 O0  ) hZ (hw _ (List.mem_of_getElem? (i := 33) rfl)) (hw _ (List.mem_of_getElem? (i := 21) rfl)) (Nat.le_of_ble_eq_true rfl) (Nat.le_of_ble_eq_true rfl)) (g := (mkF m 74 #[.val (.ref b), .val (.int p1), .val (.int r_2), .val (.int e_), .val (.int (0 : Int32)), .val (.int y5)] [(.int (bs.getD (iN + 16 + (eN + 1) - (k + 1)) 0))])) rfl (by rw [hml]; rfl) (argsL := [(.int (bs.getD (iN + 16 + (eN + 1) - (k + 1)) 0))]) (rest := []) (lenOf pd_2 rfl) rfl (by show 2 * 0 + _ ≤ _; exact Nat.le_of_eq rfl) (hb hby d6_74) (fun _ _ => ⟨rfl, eL64, (Nat.le_of_ble_eq_true rfl : 0 + 0 ≤ _), (Nat.le_of_ble_eq_true rfl : 0 + 0 ≤ _)⟩)
              dsimp only [Pt.U, Pt.locs, Pt.cells, Pt.slots] at X12 l12 y12 z12 st12 hQ12
              subst l12 y12 z12
              obtain ⟨r_12, rfl, Nq12, eq12, hq12_0⟩ := hQ12
              have N12 := Fr.app NL64 Nq12
              refine Go.by (fun _ => st12 _) ?_
              show Go p e below P (T12.setTop (mkF m 77 #[.val (.ref b), .val (.int p1), .val (.int r_2), .val (.int e_), .val (.int (0 : Int32)), .val (.int y5)] [(.int r_12)]))
              rcases hq12_0 with ⟨rfl, hS2⟩ | ⟨rfl, hS2⟩
              · show Go p e below P (T12.setTop (mkF m 77 #[.val (.ref b), .val (.int p1), .val (.int r_2), .val (.int e_), .val (.int (0 : Int32)), .val (.int y5)] [(.int (1 : Int32))]))
                have hc77 : ¬ ((1 : Int32) = (0 : Int32)) := by decide
                refine Go.by (fun _ => XS.ifNo X12.here hx rfl (hb hby d6_77) rfl ((if0 _ _).trans (feq hc77).1)) ?_
                show Go p e below P (T12.setTop (mkF m 80 #[.val (.ref b), .val (.int p1), .val (.int r_2), .val (.int e_), .val (.int (0 : Int32)), .val (.int y5)] []))
                refine Go.by (fun _ => own_iinc X12.here hx rfl (g := (mkF m 80 #[.val (.ref b), .val (.int p1), .val (.int r_2), .val (.int e_), .val (.int (0 : Int32)), .val (.int y5)] [])) (hb hby d6_80) rfl (z := (1 : Int32)) (by decide) (l' := #[.val (.ref b), .val (.int p1), .val (.int r_2), .val (.int e_), .val (.int (0 : Int32)), .val (.int (y5 + (1 : Int32)))]) rfl) ?_
                show Go p e below P (T12.setTop (mkF m 83 #[.val (.ref b), .val (.int p1), .val (.int r_2), .val (.int e_), .val (.int (0 : Int32)), .val (.int (y5 + (1 : Int32)))] []))
                refine Go.by (fun _ => XS.goto X12.here hx rfl (pc0 := 83) (pc' := 64) rfl (hb hby d6_83) (by decide) (by decide)) ?_
                show Go p e below P (T12.setTop (mkF m 64 #[.val (.ref b), .val (.int p1), .val (.int r_2), .val (.int e_), .val (.int (0 : Int32)), .val (.int (y5 + (1 : Int32)))] []))
                exact ih T12 _ X12 eq12 N12 (y5 + (1 : Int32)) (by omega) (by rw [own_add y5 1 (by have := hE.1; omega) (by decide)]; have l1 : (1 : Int32).toInt = 1 := rfl; omega) (fun j h1 h2 => (Nat.lt_or_ge j (iN + 16 + (eN + 1) - (k + 1))).elim (fun q => hsp j h1 q) (fun q => by have e2 : j = iN + 16 + (eN + 1) - (k + 1) := (by omega); rw [e2]; exact hS2)) (by have z := hc67; rw [Int32.lt_iff_toInt_lt] at z; omega)
              · show Go p e below P (T12.setTop (mkF m 77 #[.val (.ref b), .val (.int p1), .val (.int r_2), .val (.int e_), .val (.int (0 : Int32)), .val (.int y5)] [(.int (0 : Int32))]))
                have hc77 : (0 : Int32) = (0 : Int32) := by decide
                refine Go.by (fun _ => XS.ifYes X12.here hx rfl (pc0 := 77) (pc' := 86) rfl (hb hby d6_77) rfl ((if0 _ _).trans (teq hc77).1) (by decide) (by decide)) ?_
                show Go p e below P (T12.setTop (mkF m 86 #[.val (.ref b), .val (.int p1), .val (.int r_2), .val (.int e_), .val (.int (0 : Int32)), .val (.int y5)] []))
                exact J86 T12 _ X12 eq12 N12 y5 ((iN + 16 + (eN + 1) - (k + 1))) (by omega) ⟨by omega, hsp, Or.inr hS2, hxe⟩ (by have := hE.1; omega)
            · refine Go.by (fun _ => XS.icmpYes XL64.here hx rfl (pc0 := 67) (pc' := 86) rfl (hb hby d6_67) rfl (flt hc67).2.1 (by decide) (by decide)) ?_
              show Go p e below P (TL64.setTop (mkF m 86 #[.val (.ref b), .val (.int p1), .val (.int r_2), .val (.int e_), .val (.int (0 : Int32)), .val (.int y5)] []))
              exact J86 TL64 _ XL64 eL64 NL64 y5 ((iN + 16 + (eN + 1) - (k + 1))) (by omega) ⟨by omega, hsp, Or.inl (by have z := hc67; rw [Int32.lt_iff_toInt_lt] at z; omega), hxe⟩ (by have := hE.1; omega)
        exact L64 (eN + 1) T7 _ X7 e7 N6 (r_2 + (16 : Int32)) (Nat.le_refl _) (by rw [own_add _ 16 (by have := hE.1; omega) (by decide)]; have l16 : (16 : Int32).toInt = 16 := rfl; omega) (fun j h1 h2 => by omega) (Or.inr (by omega))
      · show Go p e below P (T6.setTop (mkF m 53 #[.val (.ref b), .val (.int p1), .val (.int r_2), .val (.int e_), .val (.int (0 : Int32)), .unset] [(.int (0 : Int32))]))
        have hc53 : (0 : Int32) = (0 : Int32) := by decide
        refine Go.by (fun _ => XS.ifYes X6.here hx rfl (pc0 := 53) (pc' := 98) rfl (hb hby d6_53) rfl ((if0 _ _).trans (teq hc53).1) (by decide) (by decide)) ?_
        show Go p e below P (T6.setTop (mkF m 98 #[.val (.ref b), .val (.int p1), .val (.int r_2), .val (.int e_), .val (.int (0 : Int32)), .unset] []))
        refine Go.by (fun _ => XS.iload X6.here hx rfl (hb hby d6_98) rfl) ?_
        show Go p e below P (T6.setTop (mkF m 100 #[.val (.ref b), .val (.int p1), .val (.int r_2), .val (.int e_), .val (.int (0 : Int32)), .unset] [(.int (0 : Int32))]))
        subst hP
        refine Go.retZ X6 hx (t := .boolean) Bd.returns (by simp) hlk (hb hby d6_100) (Nat.le_of_ble_eq_true rfl) (Nat.le_of_ble_eq_true rfl) ?_
        rw [eq6]
        exact ⟨_, rfl, N6, rfl, Or.inr ⟨rfl, Or.inr (Or.inl ⟨iN, eN, ⟨hi1', hi2, hi3⟩, hE, fun q => hCL ((own_sac e_ eN heN (by have := hE.1; omega)).mpr q)⟩)⟩⟩
  have L11 : ∀ (k : Nat) (TL11 : State) (lcL11 : List Loc) (XL11 : Stand p l e ({ frames := 2, cells := 0, slots := 0, locals := 33 } : Room) s m #[(.ref b), (.int p1)] below meth c TL11 lcL11 0 0) (eL11 : TL11.heap = h0) (NL11 : Fr n0 lcL11) (x3 : Int32) (hk : k ≤ lenN) (hi : x3.toInt = ((k : Nat) : Int)) (hsp : ∀ j, k ≤ j → j < lenN → isSp (bs.getD j 0)), Go p e below P (TL11.setTop (mkF m 11 #[.val (.ref b), .val (.int p1), .val (.int r_2), .val (.int x3), .unset, .unset] [])) := by
    intro k
    induction k with
    | zero =>
      intro TL11 lcL11 XL11 eL11 NL11 x3 hk hi hsp
      show Go p e below P (TL11.setTop (mkF m 11 #[.val (.ref b), .val (.int p1), .val (.int r_2), .val (.int x3), .unset, .unset] []))
      refine Go.by (fun _ => XS.iloadN XL11.here hx rfl (hb hby d6_11) rfl) ?_
      show Go p e below P (TL11.setTop (mkF m 12 #[.val (.ref b), .val (.int p1), .val (.int r_2), .val (.int x3), .unset, .unset] [(.int x3)]))
      have hc12 : ¬ ((0 : Int32) < x3) := (fun q => by rw [Int32.lt_iff_toInt_lt] at q; have l0 : (0 : Int32).toInt = 0 := rfl; omega)
      refine Go.by (fun _ => XS.ifYes XL11.here hx rfl (pc0 := 12) (pc' := 32) rfl (hb hby d6_12) rfl ((if0 _ _).trans (flt hc12).2.2.2) (by decide) (by decide)) ?_
      show Go p e below P (TL11.setTop (mkF m 32 #[.val (.ref b), .val (.int p1), .val (.int r_2), .val (.int x3), .unset, .unset] []))
      exact J32 TL11 _ XL11 eL11 NL11 x3 (0) (by omega) ⟨Nat.zero_le _, hsp, Or.inl rfl⟩
    | succ k ih =>
      intro TL11 lcL11 XL11 eL11 NL11 x3 hk hi hsp
      show Go p e below P (TL11.setTop (mkF m 11 #[.val (.ref b), .val (.int p1), .val (.int r_2), .val (.int x3), .unset, .unset] []))
      refine Go.by (fun _ => XS.iloadN XL11.here hx rfl (hb hby d6_11) rfl) ?_
      show Go p e below P (TL11.setTop (mkF m 12 #[.val (.ref b), .val (.int p1), .val (.int r_2), .val (.int x3), .unset, .unset] [(.int x3)]))
      have hc12 : (0 : Int32) < x3 := (by rw [Int32.lt_iff_toInt_lt]; have l0 : (0 : Int32).toInt = 0 := rfl; omega)
      refine Go.by (fun _ => XS.ifNo XL11.here hx rfl (hb hby d6_12) rfl ((if0 _ _).trans (tlt hc12).2.2.2)) ?_
      show Go p e below P (TL11.setTop (mkF m 15 #[.val (.ref b), .val (.int p1), .val (.int r_2), .val (.int x3), .unset, .unset] []))
      refine Go.by (fun _ => XS.aloadN XL11.here hx rfl (hb hby d6_15) rfl rfl) ?_
      show Go p e below P (TL11.setTop (mkF m 16 #[.val (.ref b), .val (.int p1), .val (.int r_2), .val (.int x3), .unset, .unset] [(.ref b)]))
      refine Go.by (fun _ => XS.iloadN XL11.here hx rfl (hb hby d6_16) rfl) ?_
      show Go p e below P (TL11.setTop (mkF m 17 #[.val (.ref b), .val (.int p1), .val (.int r_2), .val (.int x3), .unset, .unset] [(.int x3), (.ref b)]))
      refine Go.by (fun _ => XS.iconst XL11.here hx rfl (hb hby d6_17)) ?_
      show Go p e below P (TL11.setTop (mkF m 18 #[.val (.ref b), .val (.int p1), .val (.int r_2), .val (.int x3), .unset, .unset] [(.int (1 : Int32)), (.int x3), (.ref b)]))
      refine Go.by (fun _ => XS.isub XL11.here hx rfl (hb hby d6_18) rfl) ?_
      show Go p e below P (TL11.setTop (mkF m 19 #[.val (.ref b), .val (.int p1), .val (.int r_2), .val (.int x3), .unset, .unset] [(.int (x3 - (1 : Int32))), (.ref b)]))
      have hj13 : ((x3 - (1 : Int32))).toInt = ((k : Nat) : Int) := (by rw [own_sub x3 1 (by omega) (by decide)]; have l1 : (1 : Int32).toInt = 1 := rfl; omega)
      have hi13 : k < (bs).length := (by omega)
      obtain ⟨hx13, hy13, hz13⟩ := own_ix hj13 hN hi13
      obtain ⟨cl13, Ar13, qc13, Sz13, Ng13, Hs13, Gf13⟩ := id (P0)
      have hin13 : ¬ ((x3 - (1 : Int32)) < 0 ∨ cl13.slots.size ≤ ((x3 - (1 : Int32))).toNatClampNeg) := inb_of Sz13 ⟨hx13, hy13⟩
      refine Go.by (fun _ => XL11.baloadBytes hx (j := (x3 - (1 : Int32))) (v := (.int (bs.getD (k) 0))) (by rw [eL11]; exact Ar13.1) (State.isArrayOf_alike hZ.alike Ar13.2.1) Ar13.2.2 hin13 (Has.at Hs13 hin13 (by rw [hz13]; exact own_get _ _)) (g := (mkF m 19 #[.val (.ref b), .val (.int p1), .val (.int r_2), .val (.int x3), .unset, .unset] [(.int (x3 - (1 : Int32))), (.ref b)])) rfl rfl (hb hby d6_19) _) ?_
      show Go p e below P (TL11.setTop (mkF m 20 #[.val (.ref b), .val (.int p1), .val (.int r_2), .val (.int x3), .unset, .unset] [(.int (bs.getD (k) 0))]))
      obtain ⟨_, _, ⟨T14, L14, k14, n14⟩, -, X14, ⟨Lc14, hQ14, l14, y14, z14⟩, st14⟩ := Jvm.LawKit.callS XL11 hx (y := (⟨"com/example/wirecall/wirecall/bench/Answers", "isSpace", "(B)Z"⟩ : MethodName)) hown (mvT hZ (hw _ (List.mem_of_getElem? (i := 31) rfl))) (mvT hZ (hw _ (List.mem_of_getElem? (i := 32) rfl))) (mvT hZ (hw _ (List.mem_of_getElem? (i := 21) rfl))) (mvT hZ (hw _ (List.mem_of_getElem? (i := 33) rfl))) (by decide) (backOf (W := 0) (rm_isp l Z a0 hw [] wOPEN kOPEN wCLOSE kCLOSE wPARAMS kPARAMS hG ((bs.getD (k) 0)) h0 n0 Z0 O0  ) hZ (hw _ (List.mem_of_getElem? (i := 33) rfl)) (hw _ (List.mem_of_getElem? (i := 21) rfl)) (Nat.le_of_ble_eq_true rfl) (Nat.le_of_ble_eq_true rfl)) (g := (mkF m 20 #[.val (.ref b), .val (.int p1), .val (.int r_2), .val (.int x3), .unset, .unset] [(.int (bs.getD (k) 0))])) rfl (by rw [hml]; rfl) (argsL := [(.int (bs.getD (k) 0))]) (rest := []) (lenOf pd_2 rfl) rfl (by show 2 * 0 + _ ≤ _; exact Nat.le_of_eq rfl) (hb hby d6_20) (fun _ _ => ⟨rfl, eL11, (Nat.le_of_ble_eq_true rfl : 0 + 0 ≤ _), (Nat.le_of_ble_eq_true rfl : 0 + 0 ≤ _)⟩)
      dsimp only [Pt.U, Pt.locs, Pt.cells, Pt.slots] at X14 l14 y14 z14 st14 hQ14
      subst l14 y14 z14
      obtain ⟨r_14, rfl, Nq14, eq14, hq14_0⟩ := hQ14
      have N14 := Fr.app NL11 Nq14
      refine Go.by (fun _ => st14 _) ?_
      show Go p e below P (T14.setTop (mkF m 23 #[.val (.ref b), .val (.int p1), .val (.int r_2), .val (.int x3), .unset, .unset] [(.int r_14)]))
      rcases hq14_0 with ⟨rfl, hS1⟩ | ⟨rfl, hS1⟩
      · show Go p e below P (T14.setTop (mkF m 23 #[.val (.ref b), .val (.int p1), .val (.int r_2), .val (.int x3), .unset, .unset] [(.int (1 : Int32))]))
        have hc23 : ¬ ((1 : Int32) = (0 : Int32)) := by decide
        refine Go.by (fun _ => XS.ifNo X14.here hx rfl (hb hby d6_23) rfl ((if0 _ _).trans (feq hc23).1)) ?_
        show Go p e below P (T14.setTop (mkF m 26 #[.val (.ref b), .val (.int p1), .val (.int r_2), .val (.int x3), .unset, .unset] []))
        refine Go.by (fun _ => own_iinc X14.here hx rfl (g := (mkF m 26 #[.val (.ref b), .val (.int p1), .val (.int r_2), .val (.int x3), .unset, .unset] [])) (hb hby d6_26) rfl (z := (-1 : Int32)) (by decide) (l' := #[.val (.ref b), .val (.int p1), .val (.int r_2), .val (.int (x3 + (-1 : Int32))), .unset, .unset]) rfl) ?_
        show Go p e below P (T14.setTop (mkF m 29 #[.val (.ref b), .val (.int p1), .val (.int r_2), .val (.int (x3 + (-1 : Int32))), .unset, .unset] []))
        refine Go.by (fun _ => XS.goto X14.here hx rfl (pc0 := 29) (pc' := 11) rfl (hb hby d6_29) (by decide) (by decide)) ?_
        show Go p e below P (T14.setTop (mkF m 11 #[.val (.ref b), .val (.int p1), .val (.int r_2), .val (.int (x3 + (-1 : Int32))), .unset, .unset] []))
        exact ih T14 _ X14 eq14 N14 (x3 + (-1 : Int32)) (by omega) (by rw [own_add x3 (-1) (by omega) (by decide)]; have l1 : (-1 : Int32).toInt = -1 := rfl; omega) (fun j h1 h2 => (Nat.lt_or_ge k j).elim (fun q => hsp j (by omega) h2) (fun q => by have e2 : j = k := (by omega); rw [e2]; exact hS1))
      · show Go p e below P (T14.setTop (mkF m 23 #[.val (.ref b), .val (.int p1), .val (.int r_2), .val (.int x3), .unset, .unset] [(.int (0 : Int32))]))
        have hc23 : (0 : Int32) = (0 : Int32) := by decide
        refine Go.by (fun _ => XS.ifYes X14.here hx rfl (pc0 := 23) (pc' := 32) rfl (hb hby d6_23) rfl ((if0 _ _).trans (teq hc23).1) (by decide) (by decide)) ?_
        show Go p e below P (T14.setTop (mkF m 32 #[.val (.ref b), .val (.int p1), .val (.int r_2), .val (.int x3), .unset, .unset] []))
        exact J32 T14 _ X14 eq14 N14 x3 (k + 1) (by omega) ⟨by omega, hsp, Or.inr hS1⟩
  exact L11 lenN T2 _ X2 eq2 N2 p1 (Nat.le_refl _) (by omega) (fun j h1 h2 => by omega)
theorem ef_law (m : MethodId) (x0 : Int64) (x1 : Int64) (x2 : Int64) (x3 : Int32) (x4 : Int32) (x5 : Int32) : entryFrame m #[(.long x0), (.long x1), (.long x2), (.int x3), (.int x4), (.int x5)] maxLocals = mkF m 0 #[.val (.long x0), .second, .val (.long x1), .second, .val (.long x2), .second, .val (.int x3), .val (.int x4), .val (.int x5), .unset, .unset, .unset, .unset, .unset, .unset, .unset, .unset, .unset, .unset, .unset, .unset, .unset, .unset, .unset, .unset, .unset, .unset, .unset, .unset, .unset, .unset, .unset, .unset, .unset] [] := by first | (simp [entryFrame, mkF, argsToLocals, Value.category, maxLocals]; done) | rfl
def Q_law (Z : State) (wOPEN : Addr) (kOPEN : ClassId) (wCLOSE : Addr) (kCLOSE : ClassId) (wPARAMS : Addr) (kPARAMS : ClassId) (q0 : Int64) (q2 : Int64) (q4 : Int64) (p6 : Int32) (p7 : Int32) (p8 : Int32) (h0 : Heap) (n0 : Nat) (v : Option Value) (h : Heap) (L : List Loc) : Prop := v = some (.int 1) ∧ Fr n0 L
set_option maxRecDepth 65536 in
set_option maxHeartbeats 40000000 in
theorem rm_law (l : Launch) (Z : State) (a0 : Array Value) (hw : ∀ d ∈ tables_1, d.before a0 Z = true) (ws : List Jvm.Cond) (wOPEN : Addr) (kOPEN : ClassId) (wCLOSE : Addr) (kCLOSE : ClassId) (wPARAMS : Addr) (kPARAMS : ClassId) (hG : Glob Z wOPEN kOPEN wCLOSE kCLOSE wPARAMS kPARAMS) (q0 : Int64) (q2 : Int64) (q4 : Int64) (p6 : Int32) (p7 : Int32) (p8 : Int32) (h0 : Heap) (n0 : Nat) (Z0 : n0 ≤ h0.size) (O0 : Old Z n0 h0) :
    MetFree l x (head1 (Jvm.Cond.code x code maxLocals ret :: ws) room_1) (fun a U => a = #[(.long q0), (.long q2), (.long q4), (.int p6), (.int p7), (.int p8)] ∧ Z.Warmed39 U.vm ∧ U.heap = h0) (fun _ _ _ _ _ => True) (fun _ U o U' => ∃ v L, o = .returned v ∧ Q_law Z wOPEN kOPEN wCLOSE kCLOSE wPARAMS kPARAMS q0 q2 q4 p6 p7 p8 h0 n0 v U'.heap L ∧ FrameEnd U o U' L 1 60) := by
  refine MetFree.of_bodySF (plainFor_of_name pn_1) hisR ?_
  intro p e s m args below meth c s₁ Bd hml0 hP hK
  obtain ⟨rfl, hZ, hh⟩ := hP
  have hx := Bd.exec
  have hby := Bd.bytes
  have hml : c.maxLocals = 34 := hml0
  have hown : s.vm.findClass "com/example/wirecall/wirecall/bench/AnswersIsResultPinLaw" = some m.cls := findClass_of_methodNamed Bd.named
  have hnm := (name_of_methodNamed Bd.named Bd.method).1
  have hlk : meth.locks = false := BodyLoose.notSynchronized Bd
  have X0 : Stand p l e room_1 s m #[(.long q0), (.long q2), (.long q4), (.int p6), (.int p7), (.int p8)] below meth c s₁ [] 0 0 := Stand.of_body Bd
  have e0 : s₁.heap = h0 := by rw [← hh, Bd.state]; rfl
  have N0 := Fr.nil n0
  obtain ⟨G0, G1, G2, G3, G4, G5⟩ := id hG
  show Go p e below (End s (Q_law Z wOPEN kOPEN wCLOSE kCLOSE wPARAMS kPARAMS q0 q2 q4 p6 p7 p8 h0 n0) 1 60) (s₁.setTop (entryFrame m #[(.long q0), (.long q2), (.long q4), (.int p6), (.int p7), (.int p8)] maxLocals))
  rw [ef_law]
  generalize hP : End s (Q_law Z wOPEN kOPEN wCLOSE kCLOSE wPARAMS kPARAMS q0 q2 q4 p6 p7 p8 h0 n0) 1 60 = P
  show Go p e below P (s₁.setTop (mkF m 0 #[.val (.long q0), .second, .val (.long q2), .second, .val (.long q4), .second, .val (.int p6), .val (.int p7), .val (.int p8), .unset, .unset, .unset, .unset, .unset, .unset, .unset, .unset, .unset, .unset, .unset, .unset, .unset, .unset, .unset, .unset, .unset, .unset, .unset, .unset, .unset, .unset, .unset, .unset, .unset] []))
  refine Go.by (fun _ => XS.lloadN X0.here hx rfl (hb hby at_0) rfl) ?_
  show Go p e below P (s₁.setTop (mkF m 1 #[.val (.long q0), .second, .val (.long q2), .second, .val (.long q4), .second, .val (.int p6), .val (.int p7), .val (.int p8), .unset, .unset, .unset, .unset, .unset, .unset, .unset, .unset, .unset, .unset, .unset, .unset, .unset, .unset, .unset, .unset, .unset, .unset, .unset, .unset, .unset, .unset, .unset, .unset, .unset] [(.long q0)]))
  refine Go.by (fun _ => X0.ldc2Long hx hown (mvT hZ (hw _ (List.mem_of_getElem? (i := 0) rfl))) (g := (mkF m 1 #[.val (.long q0), .second, .val (.long q2), .second, .val (.long q4), .second, .val (.int p6), .val (.int p7), .val (.int p8), .unset, .unset, .unset, .unset, .unset, .unset, .unset, .unset, .unset, .unset, .unset, .unset, .unset, .unset, .unset, .unset, .unset, .unset, .unset, .unset, .unset, .unset, .unset, .unset, .unset] [(.long q0)])) rfl (hb hby at_1) _) ?_
  show Go p e below P (s₁.setTop (mkF m 4 #[.val (.long q0), .second, .val (.long q2), .second, .val (.long q4), .second, .val (.int p6), .val (.int p7), .val (.int p8), .unset, .unset, .unset, .unset, .unset, .unset, .unset, .unset, .unset, .unset, .unset, .unset, .unset, .unset, .unset, .unset, .unset, .unset, .unset, .unset, .unset, .unset, .unset, .unset, .unset] [(.long (3 : Int64)), (.long q0)]))
  refine Go.by (fun _ => XS.land X0.here hx rfl (hb hby at_4) rfl) ?_
  show Go p e below P (s₁.setTop (mkF m 5 #[.val (.long q0), .second, .val (.long q2), .second, .val (.long q4), .second, .val (.int p6), .val (.int p7), .val (.int p8), .unset, .unset, .unset, .unset, .unset, .unset, .unset, .unset, .unset, .unset, .unset, .unset, .unset, .unset, .unset, .unset, .unset, .unset, .unset, .unset, .unset, .unset, .unset, .unset, .unset] [(.long (q0 &&& (3 : Int64)))]))
  refine Go.by (fun _ => XS.l2i X0.here hx rfl (hb hby at_5) rfl) ?_
  show Go p e below P (s₁.setTop (mkF m 6 #[.val (.long q0), .second, .val (.long q2), .second, .val (.long q4), .second, .val (.int p6), .val (.int p7), .val (.int p8), .unset, .unset, .unset, .unset, .unset, .unset, .unset, .unset, .unset, .unset, .unset, .unset, .unset, .unset, .unset, .unset, .unset, .unset, .unset, .unset, .unset, .unset, .unset, .unset, .unset] [(.int (((q0 &&& (3 : Int64))).toInt32))]))
  generalize hv_p9 : (((q0 &&& (3 : Int64))).toInt32) = p9
  refine Go.by (fun _ => XS.istore X0.here hx rfl (g := (mkF m 6 #[.val (.long q0), .second, .val (.long q2), .second, .val (.long q4), .second, .val (.int p6), .val (.int p7), .val (.int p8), .unset, .unset, .unset, .unset, .unset, .unset, .unset, .unset, .unset, .unset, .unset, .unset, .unset, .unset, .unset, .unset, .unset, .unset, .unset, .unset, .unset, .unset, .unset, .unset, .unset] [(.int p9)])) (hb hby at_6) rfl (l' := #[.val (.long q0), .second, .val (.long q2), .second, .val (.long q4), .second, .val (.int p6), .val (.int p7), .val (.int p8), .val (.int p9), .unset, .unset, .unset, .unset, .unset, .unset, .unset, .unset, .unset, .unset, .unset, .unset, .unset, .unset, .unset, .unset, .unset, .unset, .unset, .unset, .unset, .unset, .unset, .unset]) rfl) ?_
  show Go p e below P (s₁.setTop (mkF m 8 #[.val (.long q0), .second, .val (.long q2), .second, .val (.long q4), .second, .val (.int p6), .val (.int p7), .val (.int p8), .val (.int p9), .unset, .unset, .unset, .unset, .unset, .unset, .unset, .unset, .unset, .unset, .unset, .unset, .unset, .unset, .unset, .unset, .unset, .unset, .unset, .unset, .unset, .unset, .unset, .unset] []))
  refine Go.by (fun _ => XS.lloadN X0.here hx rfl (hb hby at_8) rfl) ?_
  show Go p e below P (s₁.setTop (mkF m 9 #[.val (.long q0), .second, .val (.long q2), .second, .val (.long q4), .second, .val (.int p6), .val (.int p7), .val (.int p8), .val (.int p9), .unset, .unset, .unset, .unset, .unset, .unset, .unset, .unset, .unset, .unset, .unset, .unset, .unset, .unset, .unset, .unset, .unset, .unset, .unset, .unset, .unset, .unset, .unset, .unset] [(.long q2)]))
  refine Go.by (fun _ => X0.ldc2Long hx hown (mvT hZ (hw _ (List.mem_of_getElem? (i := 1) rfl))) (g := (mkF m 9 #[.val (.long q0), .second, .val (.long q2), .second, .val (.long q4), .second, .val (.int p6), .val (.int p7), .val (.int p8), .val (.int p9), .unset, .unset, .unset, .unset, .unset, .unset, .unset, .unset, .unset, .unset, .unset, .unset, .unset, .unset, .unset, .unset, .unset, .unset, .unset, .unset, .unset, .unset, .unset, .unset] [(.long q2)])) rfl (hb hby at_9) _) ?_
  show Go p e below P (s₁.setTop (mkF m 12 #[.val (.long q0), .second, .val (.long q2), .second, .val (.long q4), .second, .val (.int p6), .val (.int p7), .val (.int p8), .val (.int p9), .unset, .unset, .unset, .unset, .unset, .unset, .unset, .unset, .unset, .unset, .unset, .unset, .unset, .unset, .unset, .unset, .unset, .unset, .unset, .unset, .unset, .unset, .unset, .unset] [(.long (255 : Int64)), (.long q2)]))
  refine Go.by (fun _ => XS.land X0.here hx rfl (hb hby at_12) rfl) ?_
  show Go p e below P (s₁.setTop (mkF m 13 #[.val (.long q0), .second, .val (.long q2), .second, .val (.long q4), .second, .val (.int p6), .val (.int p7), .val (.int p8), .val (.int p9), .unset, .unset, .unset, .unset, .unset, .unset, .unset, .unset, .unset, .unset, .unset, .unset, .unset, .unset, .unset, .unset, .unset, .unset, .unset, .unset, .unset, .unset, .unset, .unset] [(.long (q2 &&& (255 : Int64)))]))
  refine Go.by (fun _ => X0.ldc2Long hx hown (mvT hZ (hw _ (List.mem_of_getElem? (i := 0) rfl))) (g := (mkF m 13 #[.val (.long q0), .second, .val (.long q2), .second, .val (.long q4), .second, .val (.int p6), .val (.int p7), .val (.int p8), .val (.int p9), .unset, .unset, .unset, .unset, .unset, .unset, .unset, .unset, .unset, .unset, .unset, .unset, .unset, .unset, .unset, .unset, .unset, .unset, .unset, .unset, .unset, .unset, .unset, .unset] [(.long (q2 &&& (255 : Int64)))])) rfl (hb hby at_13) _) ?_
  show Go p e below P (s₁.setTop (mkF m 16 #[.val (.long q0), .second, .val (.long q2), .second, .val (.long q4), .second, .val (.int p6), .val (.int p7), .val (.int p8), .val (.int p9), .unset, .unset, .unset, .unset, .unset, .unset, .unset, .unset, .unset, .unset, .unset, .unset, .unset, .unset, .unset, .unset, .unset, .unset, .unset, .unset, .unset, .unset, .unset, .unset] [(.long (3 : Int64)), (.long (q2 &&& (255 : Int64)))]))
  refine Go.by (fun _ => XS.lrem X0.here hx rfl (hb hby at_16) rfl (by decide)) ?_
  show Go p e below P (s₁.setTop (mkF m 17 #[.val (.long q0), .second, .val (.long q2), .second, .val (.long q4), .second, .val (.int p6), .val (.int p7), .val (.int p8), .val (.int p9), .unset, .unset, .unset, .unset, .unset, .unset, .unset, .unset, .unset, .unset, .unset, .unset, .unset, .unset, .unset, .unset, .unset, .unset, .unset, .unset, .unset, .unset, .unset, .unset] [(.long ((q2 &&& (255 : Int64)) - ((q2 &&& (255 : Int64)) / (3 : Int64)) * (3 : Int64)))]))
  refine Go.by (fun _ => XS.l2i X0.here hx rfl (hb hby at_17) rfl) ?_
  show Go p e below P (s₁.setTop (mkF m 18 #[.val (.long q0), .second, .val (.long q2), .second, .val (.long q4), .second, .val (.int p6), .val (.int p7), .val (.int p8), .val (.int p9), .unset, .unset, .unset, .unset, .unset, .unset, .unset, .unset, .unset, .unset, .unset, .unset, .unset, .unset, .unset, .unset, .unset, .unset, .unset, .unset, .unset, .unset, .unset, .unset] [(.int ((((q2 &&& (255 : Int64)) - ((q2 &&& (255 : Int64)) / (3 : Int64)) * (3 : Int64))).toInt32))]))
  generalize hv_w10 : ((((q2 &&& (255 : Int64)) - ((q2 &&& (255 : Int64)) / (3 : Int64)) * (3 : Int64))).toInt32) = w10
  refine Go.by (fun _ => XS.istore X0.here hx rfl (g := (mkF m 18 #[.val (.long q0), .second, .val (.long q2), .second, .val (.long q4), .second, .val (.int p6), .val (.int p7), .val (.int p8), .val (.int p9), .unset, .unset, .unset, .unset, .unset, .unset, .unset, .unset, .unset, .unset, .unset, .unset, .unset, .unset, .unset, .unset, .unset, .unset, .unset, .unset, .unset, .unset, .unset, .unset] [(.int w10)])) (hb hby at_18) rfl (l' := #[.val (.long q0), .second, .val (.long q2), .second, .val (.long q4), .second, .val (.int p6), .val (.int p7), .val (.int p8), .val (.int p9), .val (.int w10), .unset, .unset, .unset, .unset, .unset, .unset, .unset, .unset, .unset, .unset, .unset, .unset, .unset, .unset, .unset, .unset, .unset, .unset, .unset, .unset, .unset, .unset, .unset]) rfl) ?_
  show Go p e below P (s₁.setTop (mkF m 20 #[.val (.long q0), .second, .val (.long q2), .second, .val (.long q4), .second, .val (.int p6), .val (.int p7), .val (.int p8), .val (.int p9), .val (.int w10), .unset, .unset, .unset, .unset, .unset, .unset, .unset, .unset, .unset, .unset, .unset, .unset, .unset, .unset, .unset, .unset, .unset, .unset, .unset, .unset, .unset, .unset, .unset] []))
  refine Go.by (fun _ => XS.lload X0.here hx rfl (hb hby at_20) rfl) ?_
  show Go p e below P (s₁.setTop (mkF m 22 #[.val (.long q0), .second, .val (.long q2), .second, .val (.long q4), .second, .val (.int p6), .val (.int p7), .val (.int p8), .val (.int p9), .val (.int w10), .unset, .unset, .unset, .unset, .unset, .unset, .unset, .unset, .unset, .unset, .unset, .unset, .unset, .unset, .unset, .unset, .unset, .unset, .unset, .unset, .unset, .unset, .unset] [(.long q4)]))
  refine Go.by (fun _ => X0.ldc2Long hx hown (mvT hZ (hw _ (List.mem_of_getElem? (i := 1) rfl))) (g := (mkF m 22 #[.val (.long q0), .second, .val (.long q2), .second, .val (.long q4), .second, .val (.int p6), .val (.int p7), .val (.int p8), .val (.int p9), .val (.int w10), .unset, .unset, .unset, .unset, .unset, .unset, .unset, .unset, .unset, .unset, .unset, .unset, .unset, .unset, .unset, .unset, .unset, .unset, .unset, .unset, .unset, .unset, .unset] [(.long q4)])) rfl (hb hby at_22) _) ?_
  show Go p e below P (s₁.setTop (mkF m 25 #[.val (.long q0), .second, .val (.long q2), .second, .val (.long q4), .second, .val (.int p6), .val (.int p7), .val (.int p8), .val (.int p9), .val (.int w10), .unset, .unset, .unset, .unset, .unset, .unset, .unset, .unset, .unset, .unset, .unset, .unset, .unset, .unset, .unset, .unset, .unset, .unset, .unset, .unset, .unset, .unset, .unset] [(.long (255 : Int64)), (.long q4)]))
  refine Go.by (fun _ => XS.land X0.here hx rfl (hb hby at_25) rfl) ?_
  show Go p e below P (s₁.setTop (mkF m 26 #[.val (.long q0), .second, .val (.long q2), .second, .val (.long q4), .second, .val (.int p6), .val (.int p7), .val (.int p8), .val (.int p9), .val (.int w10), .unset, .unset, .unset, .unset, .unset, .unset, .unset, .unset, .unset, .unset, .unset, .unset, .unset, .unset, .unset, .unset, .unset, .unset, .unset, .unset, .unset, .unset, .unset] [(.long (q4 &&& (255 : Int64)))]))
  refine Go.by (fun _ => X0.ldc2Long hx hown (mvT hZ (hw _ (List.mem_of_getElem? (i := 0) rfl))) (g := (mkF m 26 #[.val (.long q0), .second, .val (.long q2), .second, .val (.long q4), .second, .val (.int p6), .val (.int p7), .val (.int p8), .val (.int p9), .val (.int w10), .unset, .unset, .unset, .unset, .unset, .unset, .unset, .unset, .unset, .unset, .unset, .unset, .unset, .unset, .unset, .unset, .unset, .unset, .unset, .unset, .unset, .unset, .unset] [(.long (q4 &&& (255 : Int64)))])) rfl (hb hby at_26) _) ?_
  show Go p e below P (s₁.setTop (mkF m 29 #[.val (.long q0), .second, .val (.long q2), .second, .val (.long q4), .second, .val (.int p6), .val (.int p7), .val (.int p8), .val (.int p9), .val (.int w10), .unset, .unset, .unset, .unset, .unset, .unset, .unset, .unset, .unset, .unset, .unset, .unset, .unset, .unset, .unset, .unset, .unset, .unset, .unset, .unset, .unset, .unset, .unset] [(.long (3 : Int64)), (.long (q4 &&& (255 : Int64)))]))
  refine Go.by (fun _ => XS.lrem X0.here hx rfl (hb hby at_29) rfl (by decide)) ?_
  show Go p e below P (s₁.setTop (mkF m 30 #[.val (.long q0), .second, .val (.long q2), .second, .val (.long q4), .second, .val (.int p6), .val (.int p7), .val (.int p8), .val (.int p9), .val (.int w10), .unset, .unset, .unset, .unset, .unset, .unset, .unset, .unset, .unset, .unset, .unset, .unset, .unset, .unset, .unset, .unset, .unset, .unset, .unset, .unset, .unset, .unset, .unset] [(.long ((q4 &&& (255 : Int64)) - ((q4 &&& (255 : Int64)) / (3 : Int64)) * (3 : Int64)))]))
  refine Go.by (fun _ => XS.l2i X0.here hx rfl (hb hby at_30) rfl) ?_
  show Go p e below P (s₁.setTop (mkF m 31 #[.val (.long q0), .second, .val (.long q2), .second, .val (.long q4), .second, .val (.int p6), .val (.int p7), .val (.int p8), .val (.int p9), .val (.int w10), .unset, .unset, .unset, .unset, .unset, .unset, .unset, .unset, .unset, .unset, .unset, .unset, .unset, .unset, .unset, .unset, .unset, .unset, .unset, .unset, .unset, .unset, .unset] [(.int ((((q4 &&& (255 : Int64)) - ((q4 &&& (255 : Int64)) / (3 : Int64)) * (3 : Int64))).toInt32))]))
  generalize hv_t11 : ((((q4 &&& (255 : Int64)) - ((q4 &&& (255 : Int64)) / (3 : Int64)) * (3 : Int64))).toInt32) = t11
  refine Go.by (fun _ => XS.istore X0.here hx rfl (g := (mkF m 31 #[.val (.long q0), .second, .val (.long q2), .second, .val (.long q4), .second, .val (.int p6), .val (.int p7), .val (.int p8), .val (.int p9), .val (.int w10), .unset, .unset, .unset, .unset, .unset, .unset, .unset, .unset, .unset, .unset, .unset, .unset, .unset, .unset, .unset, .unset, .unset, .unset, .unset, .unset, .unset, .unset, .unset] [(.int t11)])) (hb hby at_31) rfl (l' := #[.val (.long q0), .second, .val (.long q2), .second, .val (.long q4), .second, .val (.int p6), .val (.int p7), .val (.int p8), .val (.int p9), .val (.int w10), .val (.int t11), .unset, .unset, .unset, .unset, .unset, .unset, .unset, .unset, .unset, .unset, .unset, .unset, .unset, .unset, .unset, .unset, .unset, .unset, .unset, .unset, .unset, .unset]) rfl) ?_
  show Go p e below P (s₁.setTop (mkF m 33 #[.val (.long q0), .second, .val (.long q2), .second, .val (.long q4), .second, .val (.int p6), .val (.int p7), .val (.int p8), .val (.int p9), .val (.int w10), .val (.int t11), .unset, .unset, .unset, .unset, .unset, .unset, .unset, .unset, .unset, .unset, .unset, .unset, .unset, .unset, .unset, .unset, .unset, .unset, .unset, .unset, .unset, .unset] []))
  refine Go.by (fun _ => XS.iload X0.here hx rfl (hb hby at_33) rfl) ?_
  show Go p e below P (s₁.setTop (mkF m 35 #[.val (.long q0), .second, .val (.long q2), .second, .val (.long q4), .second, .val (.int p6), .val (.int p7), .val (.int p8), .val (.int p9), .val (.int w10), .val (.int t11), .unset, .unset, .unset, .unset, .unset, .unset, .unset, .unset, .unset, .unset, .unset, .unset, .unset, .unset, .unset, .unset, .unset, .unset, .unset, .unset, .unset, .unset] [(.int p8)]))
  refine Go.by (fun _ => XS.sipush X0.here hx rfl (hb hby at_35)) ?_
  show Go p e below P (s₁.setTop (mkF m 38 #[.val (.long q0), .second, .val (.long q2), .second, .val (.long q4), .second, .val (.int p6), .val (.int p7), .val (.int p8), .val (.int p9), .val (.int w10), .val (.int t11), .unset, .unset, .unset, .unset, .unset, .unset, .unset, .unset, .unset, .unset, .unset, .unset, .unset, .unset, .unset, .unset, .unset, .unset, .unset, .unset, .unset, .unset] [(.int (255 : Int32)), (.int p8)]))
  refine Go.by (fun _ => XS.iand X0.here hx rfl (hb hby at_38) rfl) ?_
  show Go p e below P (s₁.setTop (mkF m 39 #[.val (.long q0), .second, .val (.long q2), .second, .val (.long q4), .second, .val (.int p6), .val (.int p7), .val (.int p8), .val (.int p9), .val (.int w10), .val (.int t11), .unset, .unset, .unset, .unset, .unset, .unset, .unset, .unset, .unset, .unset, .unset, .unset, .unset, .unset, .unset, .unset, .unset, .unset, .unset, .unset, .unset, .unset] [(.int (p8 &&& (255 : Int32)))]))
  refine Go.by (fun _ => XS.iconst X0.here hx rfl (hb hby at_39)) ?_
  show Go p e below P (s₁.setTop (mkF m 40 #[.val (.long q0), .second, .val (.long q2), .second, .val (.long q4), .second, .val (.int p6), .val (.int p7), .val (.int p8), .val (.int p9), .val (.int w10), .val (.int t11), .unset, .unset, .unset, .unset, .unset, .unset, .unset, .unset, .unset, .unset, .unset, .unset, .unset, .unset, .unset, .unset, .unset, .unset, .unset, .unset, .unset, .unset] [(.int (3 : Int32)), (.int (p8 &&& (255 : Int32)))]))
  refine Go.by (fun _ => iremM X0 hx rfl (hb hby at_40) rfl (by decide)) ?_
  show Go p e below P (s₁.setTop (mkF m 41 #[.val (.long q0), .second, .val (.long q2), .second, .val (.long q4), .second, .val (.int p6), .val (.int p7), .val (.int p8), .val (.int p9), .val (.int w10), .val (.int t11), .unset, .unset, .unset, .unset, .unset, .unset, .unset, .unset, .unset, .unset, .unset, .unset, .unset, .unset, .unset, .unset, .unset, .unset, .unset, .unset, .unset, .unset] [(.int ((p8 &&& (255 : Int32)) % (3 : Int32)))]))
  generalize hv_j12 : ((p8 &&& (255 : Int32)) % (3 : Int32)) = j12
  refine Go.by (fun _ => XS.istore X0.here hx rfl (g := (mkF m 41 #[.val (.long q0), .second, .val (.long q2), .second, .val (.long q4), .second, .val (.int p6), .val (.int p7), .val (.int p8), .val (.int p9), .val (.int w10), .val (.int t11), .unset, .unset, .unset, .unset, .unset, .unset, .unset, .unset, .unset, .unset, .unset, .unset, .unset, .unset, .unset, .unset, .unset, .unset, .unset, .unset, .unset, .unset] [(.int j12)])) (hb hby at_41) rfl (l' := #[.val (.long q0), .second, .val (.long q2), .second, .val (.long q4), .second, .val (.int p6), .val (.int p7), .val (.int p8), .val (.int p9), .val (.int w10), .val (.int t11), .val (.int j12), .unset, .unset, .unset, .unset, .unset, .unset, .unset, .unset, .unset, .unset, .unset, .unset, .unset, .unset, .unset, .unset, .unset, .unset, .unset, .unset, .unset]) rfl) ?_
  show Go p e below P (s₁.setTop (mkF m 43 #[.val (.long q0), .second, .val (.long q2), .second, .val (.long q4), .second, .val (.int p6), .val (.int p7), .val (.int p8), .val (.int p9), .val (.int w10), .val (.int t11), .val (.int j12), .unset, .unset, .unset, .unset, .unset, .unset, .unset, .unset, .unset, .unset, .unset, .unset, .unset, .unset, .unset, .unset, .unset, .unset, .unset, .unset, .unset] []))
  obtain ⟨oN, hoN, boN⟩ : ∃ k : Nat, Tn p9 k ∧ k ≤ 3 := own_tn (b := 3) (by rw [← hv_p9]; exact own_p9 q0)
  obtain ⟨wN, hwN, bwN⟩ : ∃ k : Nat, Tn w10 k ∧ k ≤ 2 := own_tn (b := 2) (by rw [← hv_w10]; exact own_w10 q2)
  obtain ⟨tN, htN, btN⟩ : ∃ k : Nat, Tn t11 k ∧ k ≤ 2 := own_tn (b := 2) (by rw [← hv_t11]; exact own_w10 q4)
  obtain ⟨jN, hjN, bjN⟩ : ∃ k : Nat, Tn j12 k ∧ k ≤ 2 := own_tn (b := 2) (by rw [← hv_j12]; exact own_j12 p8)
  refine Go.by (fun _ => XS.iload X0.here hx rfl (hb hby at_43) rfl) ?_
  show Go p e below P (s₁.setTop (mkF m 45 #[.val (.long q0), .second, .val (.long q2), .second, .val (.long q4), .second, .val (.int p6), .val (.int p7), .val (.int p8), .val (.int p9), .val (.int w10), .val (.int t11), .val (.int j12), .unset, .unset, .unset, .unset, .unset, .unset, .unset, .unset, .unset, .unset, .unset, .unset, .unset, .unset, .unset, .unset, .unset, .unset, .unset, .unset, .unset] [(.int p9)]))
  refine Go.by (fun _ => XS.istore X0.here hx rfl (g := (mkF m 45 #[.val (.long q0), .second, .val (.long q2), .second, .val (.long q4), .second, .val (.int p6), .val (.int p7), .val (.int p8), .val (.int p9), .val (.int w10), .val (.int t11), .val (.int j12), .unset, .unset, .unset, .unset, .unset, .unset, .unset, .unset, .unset, .unset, .unset, .unset, .unset, .unset, .unset, .unset, .unset, .unset, .unset, .unset, .unset] [(.int p9)])) (hb hby at_45) rfl (l' := #[.val (.long q0), .second, .val (.long q2), .second, .val (.long q4), .second, .val (.int p6), .val (.int p7), .val (.int p8), .val (.int p9), .val (.int w10), .val (.int t11), .val (.int j12), .val (.int p9), .unset, .unset, .unset, .unset, .unset, .unset, .unset, .unset, .unset, .unset, .unset, .unset, .unset, .unset, .unset, .unset, .unset, .unset, .unset, .unset]) rfl) ?_
  show Go p e below P (s₁.setTop (mkF m 47 #[.val (.long q0), .second, .val (.long q2), .second, .val (.long q4), .second, .val (.int p6), .val (.int p7), .val (.int p8), .val (.int p9), .val (.int w10), .val (.int t11), .val (.int j12), .val (.int p9), .unset, .unset, .unset, .unset, .unset, .unset, .unset, .unset, .unset, .unset, .unset, .unset, .unset, .unset, .unset, .unset, .unset, .unset, .unset, .unset] []))
  refine Go.by (fun _ => XS.iload X0.here hx rfl (hb hby at_47) rfl) ?_
  show Go p e below P (s₁.setTop (mkF m 49 #[.val (.long q0), .second, .val (.long q2), .second, .val (.long q4), .second, .val (.int p6), .val (.int p7), .val (.int p8), .val (.int p9), .val (.int w10), .val (.int t11), .val (.int j12), .val (.int p9), .unset, .unset, .unset, .unset, .unset, .unset, .unset, .unset, .unset, .unset, .unset, .unset, .unset, .unset, .unset, .unset, .unset, .unset, .unset, .unset] [(.int p9)]))
  refine Go.by (fun _ => XS.bipush X0.here hx rfl (hb hby at_49)) ?_
  show Go p e below P (s₁.setTop (mkF m 51 #[.val (.long q0), .second, .val (.long q2), .second, .val (.long q4), .second, .val (.int p6), .val (.int p7), .val (.int p8), .val (.int p9), .val (.int w10), .val (.int t11), .val (.int j12), .val (.int p9), .unset, .unset, .unset, .unset, .unset, .unset, .unset, .unset, .unset, .unset, .unset, .unset, .unset, .unset, .unset, .unset, .unset, .unset, .unset, .unset] [(.int (16 : Int32)), (.int p9)]))
  refine Go.by (fun _ => XS.iadd X0.here hx rfl (hb hby at_51) rfl) ?_
  show Go p e below P (s₁.setTop (mkF m 52 #[.val (.long q0), .second, .val (.long q2), .second, .val (.long q4), .second, .val (.int p6), .val (.int p7), .val (.int p8), .val (.int p9), .val (.int w10), .val (.int t11), .val (.int j12), .val (.int p9), .unset, .unset, .unset, .unset, .unset, .unset, .unset, .unset, .unset, .unset, .unset, .unset, .unset, .unset, .unset, .unset, .unset, .unset, .unset, .unset] [(.int (p9 + (16 : Int32)))]))
  generalize hv_ws : (p9 + (16 : Int32)) = ws
  refine Go.by (fun _ => XS.istore X0.here hx rfl (g := (mkF m 52 #[.val (.long q0), .second, .val (.long q2), .second, .val (.long q4), .second, .val (.int p6), .val (.int p7), .val (.int p8), .val (.int p9), .val (.int w10), .val (.int t11), .val (.int j12), .val (.int p9), .unset, .unset, .unset, .unset, .unset, .unset, .unset, .unset, .unset, .unset, .unset, .unset, .unset, .unset, .unset, .unset, .unset, .unset, .unset, .unset] [(.int ws)])) (hb hby at_52) rfl (l' := #[.val (.long q0), .second, .val (.long q2), .second, .val (.long q4), .second, .val (.int p6), .val (.int p7), .val (.int p8), .val (.int p9), .val (.int w10), .val (.int t11), .val (.int j12), .val (.int p9), .val (.int ws), .unset, .unset, .unset, .unset, .unset, .unset, .unset, .unset, .unset, .unset, .unset, .unset, .unset, .unset, .unset, .unset, .unset, .unset, .unset]) rfl) ?_
  show Go p e below P (s₁.setTop (mkF m 54 #[.val (.long q0), .second, .val (.long q2), .second, .val (.long q4), .second, .val (.int p6), .val (.int p7), .val (.int p8), .val (.int p9), .val (.int w10), .val (.int t11), .val (.int j12), .val (.int p9), .val (.int ws), .unset, .unset, .unset, .unset, .unset, .unset, .unset, .unset, .unset, .unset, .unset, .unset, .unset, .unset, .unset, .unset, .unset, .unset, .unset] []))
  refine Go.by (fun _ => XS.iload X0.here hx rfl (hb hby at_54) rfl) ?_
  show Go p e below P (s₁.setTop (mkF m 56 #[.val (.long q0), .second, .val (.long q2), .second, .val (.long q4), .second, .val (.int p6), .val (.int p7), .val (.int p8), .val (.int p9), .val (.int w10), .val (.int t11), .val (.int j12), .val (.int p9), .val (.int ws), .unset, .unset, .unset, .unset, .unset, .unset, .unset, .unset, .unset, .unset, .unset, .unset, .unset, .unset, .unset, .unset, .unset, .unset, .unset] [(.int ws)]))
  refine Go.by (fun _ => XS.iload X0.here hx rfl (hb hby at_56) rfl) ?_
  show Go p e below P (s₁.setTop (mkF m 58 #[.val (.long q0), .second, .val (.long q2), .second, .val (.long q4), .second, .val (.int p6), .val (.int p7), .val (.int p8), .val (.int p9), .val (.int w10), .val (.int t11), .val (.int j12), .val (.int p9), .val (.int ws), .unset, .unset, .unset, .unset, .unset, .unset, .unset, .unset, .unset, .unset, .unset, .unset, .unset, .unset, .unset, .unset, .unset, .unset, .unset] [(.int w10), (.int ws)]))
  refine Go.by (fun _ => XS.iadd X0.here hx rfl (hb hby at_58) rfl) ?_
  show Go p e below P (s₁.setTop (mkF m 59 #[.val (.long q0), .second, .val (.long q2), .second, .val (.long q4), .second, .val (.int p6), .val (.int p7), .val (.int p8), .val (.int p9), .val (.int w10), .val (.int t11), .val (.int j12), .val (.int p9), .val (.int ws), .unset, .unset, .unset, .unset, .unset, .unset, .unset, .unset, .unset, .unset, .unset, .unset, .unset, .unset, .unset, .unset, .unset, .unset, .unset] [(.int (ws + w10))]))
  generalize hv_pr : (ws + w10) = pr
  refine Go.by (fun _ => XS.istore X0.here hx rfl (g := (mkF m 59 #[.val (.long q0), .second, .val (.long q2), .second, .val (.long q4), .second, .val (.int p6), .val (.int p7), .val (.int p8), .val (.int p9), .val (.int w10), .val (.int t11), .val (.int j12), .val (.int p9), .val (.int ws), .unset, .unset, .unset, .unset, .unset, .unset, .unset, .unset, .unset, .unset, .unset, .unset, .unset, .unset, .unset, .unset, .unset, .unset, .unset] [(.int pr)])) (hb hby at_59) rfl (l' := #[.val (.long q0), .second, .val (.long q2), .second, .val (.long q4), .second, .val (.int p6), .val (.int p7), .val (.int p8), .val (.int p9), .val (.int w10), .val (.int t11), .val (.int j12), .val (.int p9), .val (.int ws), .val (.int pr), .unset, .unset, .unset, .unset, .unset, .unset, .unset, .unset, .unset, .unset, .unset, .unset, .unset, .unset, .unset, .unset, .unset, .unset]) rfl) ?_
  show Go p e below P (s₁.setTop (mkF m 61 #[.val (.long q0), .second, .val (.long q2), .second, .val (.long q4), .second, .val (.int p6), .val (.int p7), .val (.int p8), .val (.int p9), .val (.int w10), .val (.int t11), .val (.int j12), .val (.int p9), .val (.int ws), .val (.int pr), .unset, .unset, .unset, .unset, .unset, .unset, .unset, .unset, .unset, .unset, .unset, .unset, .unset, .unset, .unset, .unset, .unset, .unset] []))
  refine Go.by (fun _ => XS.iload X0.here hx rfl (hb hby at_61) rfl) ?_
  show Go p e below P (s₁.setTop (mkF m 63 #[.val (.long q0), .second, .val (.long q2), .second, .val (.long q4), .second, .val (.int p6), .val (.int p7), .val (.int p8), .val (.int p9), .val (.int w10), .val (.int t11), .val (.int j12), .val (.int p9), .val (.int ws), .val (.int pr), .unset, .unset, .unset, .unset, .unset, .unset, .unset, .unset, .unset, .unset, .unset, .unset, .unset, .unset, .unset, .unset, .unset, .unset] [(.int pr)]))
  refine Go.by (fun _ => XS.bipush X0.here hx rfl (hb hby at_63)) ?_
  show Go p e below P (s₁.setTop (mkF m 65 #[.val (.long q0), .second, .val (.long q2), .second, .val (.long q4), .second, .val (.int p6), .val (.int p7), .val (.int p8), .val (.int p9), .val (.int w10), .val (.int t11), .val (.int j12), .val (.int p9), .val (.int ws), .val (.int pr), .unset, .unset, .unset, .unset, .unset, .unset, .unset, .unset, .unset, .unset, .unset, .unset, .unset, .unset, .unset, .unset, .unset, .unset] [(.int (8 : Int32)), (.int pr)]))
  refine Go.by (fun _ => XS.iadd X0.here hx rfl (hb hby at_65) rfl) ?_
  show Go p e below P (s₁.setTop (mkF m 66 #[.val (.long q0), .second, .val (.long q2), .second, .val (.long q4), .second, .val (.int p6), .val (.int p7), .val (.int p8), .val (.int p9), .val (.int w10), .val (.int t11), .val (.int j12), .val (.int p9), .val (.int ws), .val (.int pr), .unset, .unset, .unset, .unset, .unset, .unset, .unset, .unset, .unset, .unset, .unset, .unset, .unset, .unset, .unset, .unset, .unset, .unset] [(.int (pr + (8 : Int32)))]))
  generalize hv_cl : (pr + (8 : Int32)) = cl
  refine Go.by (fun _ => XS.istore X0.here hx rfl (g := (mkF m 66 #[.val (.long q0), .second, .val (.long q2), .second, .val (.long q4), .second, .val (.int p6), .val (.int p7), .val (.int p8), .val (.int p9), .val (.int w10), .val (.int t11), .val (.int j12), .val (.int p9), .val (.int ws), .val (.int pr), .unset, .unset, .unset, .unset, .unset, .unset, .unset, .unset, .unset, .unset, .unset, .unset, .unset, .unset, .unset, .unset, .unset, .unset] [(.int cl)])) (hb hby at_66) rfl (l' := #[.val (.long q0), .second, .val (.long q2), .second, .val (.long q4), .second, .val (.int p6), .val (.int p7), .val (.int p8), .val (.int p9), .val (.int w10), .val (.int t11), .val (.int j12), .val (.int p9), .val (.int ws), .val (.int pr), .val (.int cl), .unset, .unset, .unset, .unset, .unset, .unset, .unset, .unset, .unset, .unset, .unset, .unset, .unset, .unset, .unset, .unset, .unset]) rfl) ?_
  show Go p e below P (s₁.setTop (mkF m 68 #[.val (.long q0), .second, .val (.long q2), .second, .val (.long q4), .second, .val (.int p6), .val (.int p7), .val (.int p8), .val (.int p9), .val (.int w10), .val (.int t11), .val (.int j12), .val (.int p9), .val (.int ws), .val (.int pr), .val (.int cl), .unset, .unset, .unset, .unset, .unset, .unset, .unset, .unset, .unset, .unset, .unset, .unset, .unset, .unset, .unset, .unset, .unset] []))
  refine Go.by (fun _ => XS.iload X0.here hx rfl (hb hby at_68) rfl) ?_
  show Go p e below P (s₁.setTop (mkF m 70 #[.val (.long q0), .second, .val (.long q2), .second, .val (.long q4), .second, .val (.int p6), .val (.int p7), .val (.int p8), .val (.int p9), .val (.int w10), .val (.int t11), .val (.int j12), .val (.int p9), .val (.int ws), .val (.int pr), .val (.int cl), .unset, .unset, .unset, .unset, .unset, .unset, .unset, .unset, .unset, .unset, .unset, .unset, .unset, .unset, .unset, .unset, .unset] [(.int cl)]))
  refine Go.by (fun _ => XS.bipush X0.here hx rfl (hb hby at_70)) ?_
  show Go p e below P (s₁.setTop (mkF m 72 #[.val (.long q0), .second, .val (.long q2), .second, .val (.long q4), .second, .val (.int p6), .val (.int p7), .val (.int p8), .val (.int p9), .val (.int w10), .val (.int t11), .val (.int j12), .val (.int p9), .val (.int ws), .val (.int pr), .val (.int cl), .unset, .unset, .unset, .unset, .unset, .unset, .unset, .unset, .unset, .unset, .unset, .unset, .unset, .unset, .unset, .unset, .unset] [(.int (17 : Int32)), (.int cl)]))
  refine Go.by (fun _ => XS.iadd X0.here hx rfl (hb hby at_72) rfl) ?_
  show Go p e below P (s₁.setTop (mkF m 73 #[.val (.long q0), .second, .val (.long q2), .second, .val (.long q4), .second, .val (.int p6), .val (.int p7), .val (.int p8), .val (.int p9), .val (.int w10), .val (.int t11), .val (.int j12), .val (.int p9), .val (.int ws), .val (.int pr), .val (.int cl), .unset, .unset, .unset, .unset, .unset, .unset, .unset, .unset, .unset, .unset, .unset, .unset, .unset, .unset, .unset, .unset, .unset] [(.int (cl + (17 : Int32)))]))
  generalize hv_tr : (cl + (17 : Int32)) = tr
  refine Go.by (fun _ => XS.istore X0.here hx rfl (g := (mkF m 73 #[.val (.long q0), .second, .val (.long q2), .second, .val (.long q4), .second, .val (.int p6), .val (.int p7), .val (.int p8), .val (.int p9), .val (.int w10), .val (.int t11), .val (.int j12), .val (.int p9), .val (.int ws), .val (.int pr), .val (.int cl), .unset, .unset, .unset, .unset, .unset, .unset, .unset, .unset, .unset, .unset, .unset, .unset, .unset, .unset, .unset, .unset, .unset] [(.int tr)])) (hb hby at_73) rfl (l' := #[.val (.long q0), .second, .val (.long q2), .second, .val (.long q4), .second, .val (.int p6), .val (.int p7), .val (.int p8), .val (.int p9), .val (.int w10), .val (.int t11), .val (.int j12), .val (.int p9), .val (.int ws), .val (.int pr), .val (.int cl), .val (.int tr), .unset, .unset, .unset, .unset, .unset, .unset, .unset, .unset, .unset, .unset, .unset, .unset, .unset, .unset, .unset, .unset]) rfl) ?_
  show Go p e below P (s₁.setTop (mkF m 75 #[.val (.long q0), .second, .val (.long q2), .second, .val (.long q4), .second, .val (.int p6), .val (.int p7), .val (.int p8), .val (.int p9), .val (.int w10), .val (.int t11), .val (.int j12), .val (.int p9), .val (.int ws), .val (.int pr), .val (.int cl), .val (.int tr), .unset, .unset, .unset, .unset, .unset, .unset, .unset, .unset, .unset, .unset, .unset, .unset, .unset, .unset, .unset, .unset] []))
  refine Go.by (fun _ => XS.iload X0.here hx rfl (hb hby at_75) rfl) ?_
  show Go p e below P (s₁.setTop (mkF m 77 #[.val (.long q0), .second, .val (.long q2), .second, .val (.long q4), .second, .val (.int p6), .val (.int p7), .val (.int p8), .val (.int p9), .val (.int w10), .val (.int t11), .val (.int j12), .val (.int p9), .val (.int ws), .val (.int pr), .val (.int cl), .val (.int tr), .unset, .unset, .unset, .unset, .unset, .unset, .unset, .unset, .unset, .unset, .unset, .unset, .unset, .unset, .unset, .unset] [(.int tr)]))
  refine Go.by (fun _ => XS.iload X0.here hx rfl (hb hby at_77) rfl) ?_
  show Go p e below P (s₁.setTop (mkF m 79 #[.val (.long q0), .second, .val (.long q2), .second, .val (.long q4), .second, .val (.int p6), .val (.int p7), .val (.int p8), .val (.int p9), .val (.int w10), .val (.int t11), .val (.int j12), .val (.int p9), .val (.int ws), .val (.int pr), .val (.int cl), .val (.int tr), .unset, .unset, .unset, .unset, .unset, .unset, .unset, .unset, .unset, .unset, .unset, .unset, .unset, .unset, .unset, .unset] [(.int t11), (.int tr)]))
  refine Go.by (fun _ => XS.iadd X0.here hx rfl (hb hby at_79) rfl) ?_
  show Go p e below P (s₁.setTop (mkF m 80 #[.val (.long q0), .second, .val (.long q2), .second, .val (.long q4), .second, .val (.int p6), .val (.int p7), .val (.int p8), .val (.int p9), .val (.int w10), .val (.int t11), .val (.int j12), .val (.int p9), .val (.int ws), .val (.int pr), .val (.int cl), .val (.int tr), .unset, .unset, .unset, .unset, .unset, .unset, .unset, .unset, .unset, .unset, .unset, .unset, .unset, .unset, .unset, .unset] [(.int (tr + t11))]))
  generalize hv_nn : (tr + t11) = nn
  refine Go.by (fun _ => XS.istore X0.here hx rfl (g := (mkF m 80 #[.val (.long q0), .second, .val (.long q2), .second, .val (.long q4), .second, .val (.int p6), .val (.int p7), .val (.int p8), .val (.int p9), .val (.int w10), .val (.int t11), .val (.int j12), .val (.int p9), .val (.int ws), .val (.int pr), .val (.int cl), .val (.int tr), .unset, .unset, .unset, .unset, .unset, .unset, .unset, .unset, .unset, .unset, .unset, .unset, .unset, .unset, .unset, .unset] [(.int nn)])) (hb hby at_80) rfl (l' := #[.val (.long q0), .second, .val (.long q2), .second, .val (.long q4), .second, .val (.int p6), .val (.int p7), .val (.int p8), .val (.int p9), .val (.int w10), .val (.int t11), .val (.int j12), .val (.int p9), .val (.int ws), .val (.int pr), .val (.int cl), .val (.int tr), .val (.int nn), .unset, .unset, .unset, .unset, .unset, .unset, .unset, .unset, .unset, .unset, .unset, .unset, .unset, .unset, .unset]) rfl) ?_
  show Go p e below P (s₁.setTop (mkF m 82 #[.val (.long q0), .second, .val (.long q2), .second, .val (.long q4), .second, .val (.int p6), .val (.int p7), .val (.int p8), .val (.int p9), .val (.int w10), .val (.int t11), .val (.int j12), .val (.int p9), .val (.int ws), .val (.int pr), .val (.int cl), .val (.int tr), .val (.int nn), .unset, .unset, .unset, .unset, .unset, .unset, .unset, .unset, .unset, .unset, .unset, .unset, .unset, .unset, .unset] []))
  have hws : Tn ws (oN + 16) := by rw [← hv_ws]; exact own_tadd hoN (show Tn 16 16 from rfl) (by omega) (by decide)
  have hpr : Tn pr (oN + 16 + wN) := by rw [← hv_pr]; exact own_tadd hws hwN (by omega) (by omega)
  have hcl : Tn cl (oN + 16 + wN + 8) := by rw [← hv_cl]; exact own_tadd hpr (show Tn 8 8 from rfl) (by omega) (by decide)
  have htr : Tn tr (oN + 16 + wN + 8 + 17) := by rw [← hv_tr]; exact own_tadd hcl (show Tn 17 17 from rfl) (by omega) (by decide)
  have hnn : Tn nn (oN + 16 + wN + 8 + 17 + tN) := by rw [← hv_nn]; exact own_tadd htr htN (by omega) (by omega)
  refine Go.by (fun _ => XS.iload X0.here hx rfl (hb hby at_82) rfl) ?_
  show Go p e below P (s₁.setTop (mkF m 84 #[.val (.long q0), .second, .val (.long q2), .second, .val (.long q4), .second, .val (.int p6), .val (.int p7), .val (.int p8), .val (.int p9), .val (.int w10), .val (.int t11), .val (.int j12), .val (.int p9), .val (.int ws), .val (.int pr), .val (.int cl), .val (.int tr), .val (.int nn), .unset, .unset, .unset, .unset, .unset, .unset, .unset, .unset, .unset, .unset, .unset, .unset, .unset, .unset, .unset] [(.int nn)]))
  refine Go.by (fun _ => XS.iload X0.here hx rfl (hb hby at_84) rfl) ?_
  show Go p e below P (s₁.setTop (mkF m 86 #[.val (.long q0), .second, .val (.long q2), .second, .val (.long q4), .second, .val (.int p6), .val (.int p7), .val (.int p8), .val (.int p9), .val (.int w10), .val (.int t11), .val (.int j12), .val (.int p9), .val (.int ws), .val (.int pr), .val (.int cl), .val (.int tr), .val (.int nn), .unset, .unset, .unset, .unset, .unset, .unset, .unset, .unset, .unset, .unset, .unset, .unset, .unset, .unset, .unset] [(.int j12), (.int nn)]))
  refine Go.by (fun _ => XS.iadd X0.here hx rfl (hb hby at_86) rfl) ?_
  show Go p e below P (s₁.setTop (mkF m 87 #[.val (.long q0), .second, .val (.long q2), .second, .val (.long q4), .second, .val (.int p6), .val (.int p7), .val (.int p8), .val (.int p9), .val (.int w10), .val (.int t11), .val (.int j12), .val (.int p9), .val (.int ws), .val (.int pr), .val (.int cl), .val (.int tr), .val (.int nn), .unset, .unset, .unset, .unset, .unset, .unset, .unset, .unset, .unset, .unset, .unset, .unset, .unset, .unset, .unset] [(.int (nn + j12))]))
  generalize hv_NB : (nn + j12) = NB
  have hNB : Tn NB (oN + 16 + wN + 8 + 17 + tN + jN) := by rw [← hv_NB]; exact own_tadd hnn hjN (by omega) (by omega)
  have hNNb : (oN + 16 + wN + 8 + 17 + tN + jN) ≤ 60 := by omega
  obtain ⟨T1, h1, k1, X1, e1, E1, A1, st1⟩ := newP X0 hx hZ (hw _ (List.mem_of_getElem? (i := 2) rfl)) e0 (g := (mkF m 87 #[.val (.long q0), .second, .val (.long q2), .second, .val (.long q4), .second, .val (.int p6), .val (.int p7), .val (.int p8), .val (.int p9), .val (.int w10), .val (.int t11), .val (.int j12), .val (.int p9), .val (.int ws), .val (.int pr), .val (.int cl), .val (.int tr), .val (.int nn), .unset, .unset, .unset, .unset, .unset, .unset, .unset, .unset, .unset, .unset, .unset, .unset, .unset, .unset, .unset] [(.int NB)])) rfl (hb hby at_87) rfl (own_ge0 hNB) (cap := 60) (own_cap hNB (by omega)) (Nat.le_of_ble_eq_true rfl) (Nat.le_of_ble_eq_true rfl) (Nat.le_of_ble_eq_true rfl)
  obtain ⟨b1, q1⟩ : ∃ z, z = h0.size := ⟨_, rfl⟩
  rw [← q1] at A1 st1
  refine Go.by (fun _ => st1 _) ?_
  have g_b1 : n0 ≤ b1 := Nat.le_trans Z0 (Nat.le_of_eq q1.symm)
  have O1 := O0.ext E1
  have Z1 : n0 ≤ h1.size := Nat.le_trans Z0 E1.1
  have F2 : Arv Z h1 b1 k1 .byte NB [] (.int (0 : Int32)) := Arv.new A1 (own_ge0 hNB)
  show Go p e below P (T1.setTop (mkF m 89 #[.val (.long q0), .second, .val (.long q2), .second, .val (.long q4), .second, .val (.int p6), .val (.int p7), .val (.int p8), .val (.int p9), .val (.int w10), .val (.int t11), .val (.int j12), .val (.int p9), .val (.int ws), .val (.int pr), .val (.int cl), .val (.int tr), .val (.int nn), .unset, .unset, .unset, .unset, .unset, .unset, .unset, .unset, .unset, .unset, .unset, .unset, .unset, .unset, .unset] [(.ref b1)]))
  have F3 : Arv Z h1 b1 k1 .byte NB ((List.replicate (oN + 16 + wN + 8 + 17 + tN + jN) (0 : Int32)).map Value.int) (.int (0 : Int32)) := F2.pad (own_rep _)
  obtain ⟨bs0, hb_bs0, Fb_bs0⟩ : ∃ b_ : List Int32, b_ = (List.replicate (oN + 16 + wN + 8 + 17 + tN + jN) (0 : Int32)) ∧ Arv Z h1 b1 k1 .byte NB (b_.map Value.int) (.int (0 : Int32)) := ⟨_, rfl, F3⟩
  have hl0 : bs0.length = (oN + 16 + wN + 8 + 17 + tN + jN) := by rw [hb_bs0]; exact List.length_replicate
  refine Go.by (fun _ => XS.astore X1.here hx rfl (g := (mkF m 89 #[.val (.long q0), .second, .val (.long q2), .second, .val (.long q4), .second, .val (.int p6), .val (.int p7), .val (.int p8), .val (.int p9), .val (.int w10), .val (.int t11), .val (.int j12), .val (.int p9), .val (.int ws), .val (.int pr), .val (.int cl), .val (.int tr), .val (.int nn), .unset, .unset, .unset, .unset, .unset, .unset, .unset, .unset, .unset, .unset, .unset, .unset, .unset, .unset, .unset] [(.ref b1)])) (hb hby at_89) rfl rfl (l' := #[.val (.long q0), .second, .val (.long q2), .second, .val (.long q4), .second, .val (.int p6), .val (.int p7), .val (.int p8), .val (.int p9), .val (.int w10), .val (.int t11), .val (.int j12), .val (.int p9), .val (.int ws), .val (.int pr), .val (.int cl), .val (.int tr), .val (.int nn), .val (.ref b1), .unset, .unset, .unset, .unset, .unset, .unset, .unset, .unset, .unset, .unset, .unset, .unset, .unset, .unset]) rfl) ?_
  show Go p e below P (T1.setTop (mkF m 91 #[.val (.long q0), .second, .val (.long q2), .second, .val (.long q4), .second, .val (.int p6), .val (.int p7), .val (.int p8), .val (.int p9), .val (.int w10), .val (.int t11), .val (.int j12), .val (.int p9), .val (.int ws), .val (.int pr), .val (.int cl), .val (.int tr), .val (.int nn), .val (.ref b1), .unset, .unset, .unset, .unset, .unset, .unset, .unset, .unset, .unset, .unset, .unset, .unset, .unset, .unset] []))
  refine Go.by (fun _ => XS.iload X1.here hx rfl (hb hby at_91) rfl) ?_
  show Go p e below P (T1.setTop (mkF m 93 #[.val (.long q0), .second, .val (.long q2), .second, .val (.long q4), .second, .val (.int p6), .val (.int p7), .val (.int p8), .val (.int p9), .val (.int w10), .val (.int t11), .val (.int j12), .val (.int p9), .val (.int ws), .val (.int pr), .val (.int cl), .val (.int tr), .val (.int nn), .val (.ref b1), .unset, .unset, .unset, .unset, .unset, .unset, .unset, .unset, .unset, .unset, .unset, .unset, .unset, .unset] [(.int p9)]))
  have J106 : ∀ (TJ106 : State) (lcJ106 : List Loc) (hJ106 : Heap) (XJ106 : Stand p l e room_1 s m #[(.long q0), (.long q2), (.long q4), (.int p6), (.int p7), (.int p8)] below meth c TJ106 lcJ106 1 60) (eJ106 : TJ106.heap = hJ106) (NJ106 : Fr n0 lcJ106) (bs1 : List Int32) (OJ106 : Old Z n0 hJ106) (ZJ106 : n0 ≤ hJ106.size) (FJ106_0 : Arv Z hJ106 b1 k1 .byte NB (bs1.map Value.int) (.int (0 : Int32))) (hl_bs1 : bs1.length = (oN + 16 + wN + 8 + 17 + tN + jN)), Go p e below P (TJ106.setTop (mkF m 106 #[.val (.long q0), .second, .val (.long q2), .second, .val (.long q4), .second, .val (.int p6), .val (.int p7), .val (.int p8), .val (.int p9), .val (.int w10), .val (.int t11), .val (.int j12), .val (.int p9), .val (.int ws), .val (.int pr), .val (.int cl), .val (.int tr), .val (.int nn), .val (.ref b1), .unset, .unset, .unset, .unset, .unset, .unset, .unset, .unset, .unset, .unset, .unset, .unset, .unset, .unset] [])) := by
    intro TJ106 lcJ106 hJ106 XJ106 eJ106 NJ106 bs1 OJ106 ZJ106 FJ106_0 hl_bs1
    clear hl0
    refine Go.by (fun _ => XS.iload XJ106.here hx rfl (hb hby at_106) rfl) ?_
    show Go p e below P (TJ106.setTop (mkF m 108 #[.val (.long q0), .second, .val (.long q2), .second, .val (.long q4), .second, .val (.int p6), .val (.int p7), .val (.int p8), .val (.int p9), .val (.int w10), .val (.int t11), .val (.int j12), .val (.int p9), .val (.int ws), .val (.int pr), .val (.int cl), .val (.int tr), .val (.int nn), .val (.ref b1), .unset, .unset, .unset, .unset, .unset, .unset, .unset, .unset, .unset, .unset, .unset, .unset, .unset, .unset] [(.int p9)]))
    refine Go.by (fun _ => XS.iconst XJ106.here hx rfl (hb hby at_108)) ?_
    show Go p e below P (TJ106.setTop (mkF m 109 #[.val (.long q0), .second, .val (.long q2), .second, .val (.long q4), .second, .val (.int p6), .val (.int p7), .val (.int p8), .val (.int p9), .val (.int w10), .val (.int t11), .val (.int j12), .val (.int p9), .val (.int ws), .val (.int pr), .val (.int cl), .val (.int tr), .val (.int nn), .val (.ref b1), .unset, .unset, .unset, .unset, .unset, .unset, .unset, .unset, .unset, .unset, .unset, .unset, .unset, .unset] [(.int (1 : Int32)), (.int p9)]))
    have J122 : ∀ (TJ122 : State) (lcJ122 : List Loc) (hJ122 : Heap) (XJ122 : Stand p l e room_1 s m #[(.long q0), (.long q2), (.long q4), (.int p6), (.int p7), (.int p8)] below meth c TJ122 lcJ122 1 60) (eJ122 : TJ122.heap = hJ122) (NJ122 : Fr n0 lcJ122) (bs2 : List Int32) (OJ122 : Old Z n0 hJ122) (ZJ122 : n0 ≤ hJ122.size) (FJ122_0 : Arv Z hJ122 b1 k1 .byte NB (bs2.map Value.int) (.int (0 : Int32))) (hl_bs2 : bs2.length = (oN + 16 + wN + 8 + 17 + tN + jN)), Go p e below P (TJ122.setTop (mkF m 122 #[.val (.long q0), .second, .val (.long q2), .second, .val (.long q4), .second, .val (.int p6), .val (.int p7), .val (.int p8), .val (.int p9), .val (.int w10), .val (.int t11), .val (.int j12), .val (.int p9), .val (.int ws), .val (.int pr), .val (.int cl), .val (.int tr), .val (.int nn), .val (.ref b1), .unset, .unset, .unset, .unset, .unset, .unset, .unset, .unset, .unset, .unset, .unset, .unset, .unset, .unset] [])) := by
      intro TJ122 lcJ122 hJ122 XJ122 eJ122 NJ122 bs2 OJ122 ZJ122 FJ122_0 hl_bs2
      clear hl_bs1
      refine Go.by (fun _ => XS.iload XJ122.here hx rfl (hb hby at_122) rfl) ?_
      show Go p e below P (TJ122.setTop (mkF m 124 #[.val (.long q0), .second, .val (.long q2), .second, .val (.long q4), .second, .val (.int p6), .val (.int p7), .val (.int p8), .val (.int p9), .val (.int w10), .val (.int t11), .val (.int j12), .val (.int p9), .val (.int ws), .val (.int pr), .val (.int cl), .val (.int tr), .val (.int nn), .val (.ref b1), .unset, .unset, .unset, .unset, .unset, .unset, .unset, .unset, .unset, .unset, .unset, .unset, .unset, .unset] [(.int p9)]))
      refine Go.by (fun _ => XS.iconst XJ122.here hx rfl (hb hby at_124)) ?_
      show Go p e below P (TJ122.setTop (mkF m 125 #[.val (.long q0), .second, .val (.long q2), .second, .val (.long q4), .second, .val (.int p6), .val (.int p7), .val (.int p8), .val (.int p9), .val (.int w10), .val (.int t11), .val (.int j12), .val (.int p9), .val (.int ws), .val (.int pr), .val (.int cl), .val (.int tr), .val (.int nn), .val (.ref b1), .unset, .unset, .unset, .unset, .unset, .unset, .unset, .unset, .unset, .unset, .unset, .unset, .unset, .unset] [(.int (2 : Int32)), (.int p9)]))
      have J138 : ∀ (TJ138 : State) (lcJ138 : List Loc) (hJ138 : Heap) (XJ138 : Stand p l e room_1 s m #[(.long q0), (.long q2), (.long q4), (.int p6), (.int p7), (.int p8)] below meth c TJ138 lcJ138 1 60) (eJ138 : TJ138.heap = hJ138) (NJ138 : Fr n0 lcJ138) (bs3 : List Int32) (OJ138 : Old Z n0 hJ138) (ZJ138 : n0 ≤ hJ138.size) (FJ138_0 : Arv Z hJ138 b1 k1 .byte NB (bs3.map Value.int) (.int (0 : Int32))) (hl_bs3 : bs3.length = (oN + 16 + wN + 8 + 17 + tN + jN)), Go p e below P (TJ138.setTop (mkF m 138 #[.val (.long q0), .second, .val (.long q2), .second, .val (.long q4), .second, .val (.int p6), .val (.int p7), .val (.int p8), .val (.int p9), .val (.int w10), .val (.int t11), .val (.int j12), .val (.int p9), .val (.int ws), .val (.int pr), .val (.int cl), .val (.int tr), .val (.int nn), .val (.ref b1), .unset, .unset, .unset, .unset, .unset, .unset, .unset, .unset, .unset, .unset, .unset, .unset, .unset, .unset] [])) := by
        intro TJ138 lcJ138 hJ138 XJ138 eJ138 NJ138 bs3 OJ138 ZJ138 FJ138_0 hl_bs3
        clear hl_bs2
        refine Go.by (fun _ => XS.aload XJ138.here hx rfl (hb hby at_138) rfl rfl) ?_
        show Go p e below P (TJ138.setTop (mkF m 140 #[.val (.long q0), .second, .val (.long q2), .second, .val (.long q4), .second, .val (.int p6), .val (.int p7), .val (.int p8), .val (.int p9), .val (.int w10), .val (.int t11), .val (.int j12), .val (.int p9), .val (.int ws), .val (.int pr), .val (.int cl), .val (.int tr), .val (.int nn), .val (.ref b1), .unset, .unset, .unset, .unset, .unset, .unset, .unset, .unset, .unset, .unset, .unset, .unset, .unset, .unset] [(.ref b1)]))
        refine Go.by (fun _ => XS.iload XJ138.here hx rfl (hb hby at_140) rfl) ?_
        show Go p e below P (TJ138.setTop (mkF m 142 #[.val (.long q0), .second, .val (.long q2), .second, .val (.long q4), .second, .val (.int p6), .val (.int p7), .val (.int p8), .val (.int p9), .val (.int w10), .val (.int t11), .val (.int j12), .val (.int p9), .val (.int ws), .val (.int pr), .val (.int cl), .val (.int tr), .val (.int nn), .val (.ref b1), .unset, .unset, .unset, .unset, .unset, .unset, .unset, .unset, .unset, .unset, .unset, .unset, .unset, .unset] [(.int p9), (.ref b1)]))
        obtain ⟨_, _, ⟨T4, L4, k4, n4⟩, -, X4, ⟨Lc4, hQ4, l4, y4, z4⟩, st4⟩ := Jvm.LawKit.callS XJ138 hx (y := (⟨"com/example/wirecall/wirecall/bench/AnswersIsResultPinLaw", "putOpen", "([BI)V"⟩ : MethodName)) hown (mvT hZ (hw _ (List.mem_of_getElem? (i := 3) rfl))) (mvT hZ (hw _ (List.mem_of_getElem? (i := 4) rfl))) (mvT hZ (hw _ (List.mem_of_getElem? (i := 5) rfl))) (mvT hZ (hw _ (List.mem_of_getElem? (i := 6) rfl))) (by decide) (backOf (W := 0) (rm_po l Z a0 hw [] wOPEN kOPEN wCLOSE kCLOSE wPARAMS kPARAMS hG b1 p9 k1 NB bs3 oN hJ138 n0 ZJ138 OJ138 FJ138_0 g_b1 (by rw [hl_bs3]; exact hNB) hoN (by rw [hl_bs3]; omega) (by rw [hl_bs3]; omega)) hZ (hw _ (List.mem_of_getElem? (i := 6) rfl)) (hw _ (List.mem_of_getElem? (i := 5) rfl)) (Nat.le_of_ble_eq_true rfl) (Nat.le_of_ble_eq_true rfl)) (g := (mkF m 142 #[.val (.long q0), .second, .val (.long q2), .second, .val (.long q4), .second, .val (.int p6), .val (.int p7), .val (.int p8), .val (.int p9), .val (.int w10), .val (.int t11), .val (.int j12), .val (.int p9), .val (.int ws), .val (.int pr), .val (.int cl), .val (.int tr), .val (.int nn), .val (.ref b1), .unset, .unset, .unset, .unset, .unset, .unset, .unset, .unset, .unset, .unset, .unset, .unset, .unset, .unset] [(.int p9), (.ref b1)])) rfl (by rw [hml]; rfl) (argsL := [(.ref b1), (.int p9)]) (rest := []) (lenOf pd_3 rfl) rfl (by show 2 * 0 + _ ≤ _; exact Nat.le_of_eq rfl) (hb hby at_142) (fun _ _ => ⟨rfl, eJ138, (Nat.le_of_ble_eq_true rfl : 1 + 0 ≤ _), (Nat.le_of_ble_eq_true rfl : 60 + 0 ≤ _)⟩)
        dsimp only [Pt.U, Pt.locs, Pt.cells, Pt.slots] at X4 l4 y4 z4 st4 hQ4
        subst l4 y4 z4
        obtain ⟨rfl, Nq4, Kc4, F5⟩ := hQ4
        have N4 := Fr.app NJ138 Nq4
        refine Go.by (fun _ => st4 _) ?_
        have O4 := OJ138.keep Kc4 (allS g_b1 all0)
        have Z4 : n0 ≤ T4.heap.size := Nat.le_trans ZJ138 Kc4.1
        show Go p e below P (T4.setTop (mkF m 145 #[.val (.long q0), .second, .val (.long q2), .second, .val (.long q4), .second, .val (.int p6), .val (.int p7), .val (.int p8), .val (.int p9), .val (.int w10), .val (.int t11), .val (.int j12), .val (.int p9), .val (.int ws), .val (.int pr), .val (.int cl), .val (.int tr), .val (.int nn), .val (.ref b1), .unset, .unset, .unset, .unset, .unset, .unset, .unset, .unset, .unset, .unset, .unset, .unset, .unset, .unset] []))
        obtain ⟨bs4, hb_bs4, Fb_bs4⟩ : ∃ b_ : List Int32, b_ = (puts bs3 (oN) OPN) ∧ Arv Z T4.heap b1 k1 .byte NB (b_.map Value.int) (.int (0 : Int32)) := ⟨_, rfl, F5⟩
        have hl_bs4 : bs4.length = (oN + 16 + wN + 8 + 17 + tN + jN) := by rw [hb_bs4, own_puts_len]; exact hl_bs3
        have HO4 : Mt (fun i => bs4.getD i 0) (oN) OPN := by rw [hb_bs4]; exact own_puts_self bs3 (oN) OPN (by rw [hl_bs3]; have : OPN.length = 16 := rfl; omega)
        clear hl_bs3
        refine Go.by (fun _ => XS.lloadN X4.here hx rfl (hb hby at_145) rfl) ?_
        show Go p e below P (T4.setTop (mkF m 146 #[.val (.long q0), .second, .val (.long q2), .second, .val (.long q4), .second, .val (.int p6), .val (.int p7), .val (.int p8), .val (.int p9), .val (.int w10), .val (.int t11), .val (.int j12), .val (.int p9), .val (.int ws), .val (.int pr), .val (.int cl), .val (.int tr), .val (.int nn), .val (.ref b1), .unset, .unset, .unset, .unset, .unset, .unset, .unset, .unset, .unset, .unset, .unset, .unset, .unset, .unset] [(.long q2)]))
        refine Go.by (fun _ => XS.bipush X4.here hx rfl (hb hby at_146)) ?_
        show Go p e below P (T4.setTop (mkF m 148 #[.val (.long q0), .second, .val (.long q2), .second, .val (.long q4), .second, .val (.int p6), .val (.int p7), .val (.int p8), .val (.int p9), .val (.int w10), .val (.int t11), .val (.int j12), .val (.int p9), .val (.int ws), .val (.int pr), .val (.int cl), .val (.int tr), .val (.int nn), .val (.ref b1), .unset, .unset, .unset, .unset, .unset, .unset, .unset, .unset, .unset, .unset, .unset, .unset, .unset, .unset] [(.int (8 : Int32)), (.long q2)]))
        refine Go.by (fun _ => XS.lushr X4.here hx rfl (hb hby at_148) rfl) ?_
        show Go p e below P (T4.setTop (mkF m 149 #[.val (.long q0), .second, .val (.long q2), .second, .val (.long q4), .second, .val (.int p6), .val (.int p7), .val (.int p8), .val (.int p9), .val (.int w10), .val (.int t11), .val (.int j12), .val (.int p9), .val (.int ws), .val (.int pr), .val (.int cl), .val (.int tr), .val (.int nn), .val (.ref b1), .unset, .unset, .unset, .unset, .unset, .unset, .unset, .unset, .unset, .unset, .unset, .unset, .unset, .unset] [(.long (((q2).toUInt64 >>> ((8 : Int32) &&& 0x3f).toInt64.toUInt64).toInt64))]))
        refine Go.by (fun _ => XS.l2i X4.here hx rfl (hb hby at_149) rfl) ?_
        show Go p e below P (T4.setTop (mkF m 150 #[.val (.long q0), .second, .val (.long q2), .second, .val (.long q4), .second, .val (.int p6), .val (.int p7), .val (.int p8), .val (.int p9), .val (.int w10), .val (.int t11), .val (.int j12), .val (.int p9), .val (.int ws), .val (.int pr), .val (.int cl), .val (.int tr), .val (.int nn), .val (.ref b1), .unset, .unset, .unset, .unset, .unset, .unset, .unset, .unset, .unset, .unset, .unset, .unset, .unset, .unset] [(.int (((((q2).toUInt64 >>> ((8 : Int32) &&& 0x3f).toInt64.toUInt64).toInt64)).toInt32))]))
        obtain ⟨_, _, ⟨T6, L6, k6, n6⟩, -, X6, ⟨Lc6, hQ6, l6, y6, z6⟩, st6⟩ := Jvm.LawKit.callS X4 hx (y := (⟨"com/example/wirecall/wirecall/bench/AnswersIsResultPinLaw", "pick", "(I)B"⟩ : MethodName)) hown (mvT hZ (hw _ (List.mem_of_getElem? (i := 7) rfl))) (mvT hZ (hw _ (List.mem_of_getElem? (i := 8) rfl))) (mvT hZ (hw _ (List.mem_of_getElem? (i := 5) rfl))) (mvT hZ (hw _ (List.mem_of_getElem? (i := 9) rfl))) (by decide) (backOf (W := 0) (rm_pick l Z a0 hw [] wOPEN kOPEN wCLOSE kCLOSE wPARAMS kPARAMS hG ((((((q2).toUInt64 >>> ((8 : Int32) &&& 0x3f).toInt64.toUInt64).toInt64)).toInt32)) T4.heap n0 Z4 O4  ) hZ (hw _ (List.mem_of_getElem? (i := 9) rfl)) (hw _ (List.mem_of_getElem? (i := 5) rfl)) (Nat.le_of_ble_eq_true rfl) (Nat.le_of_ble_eq_true rfl)) (g := (mkF m 150 #[.val (.long q0), .second, .val (.long q2), .second, .val (.long q4), .second, .val (.int p6), .val (.int p7), .val (.int p8), .val (.int p9), .val (.int w10), .val (.int t11), .val (.int j12), .val (.int p9), .val (.int ws), .val (.int pr), .val (.int cl), .val (.int tr), .val (.int nn), .val (.ref b1), .unset, .unset, .unset, .unset, .unset, .unset, .unset, .unset, .unset, .unset, .unset, .unset, .unset, .unset] [(.int (((((q2).toUInt64 >>> ((8 : Int32) &&& 0x3f).toInt64.toUInt64).toInt64)).toInt32))])) rfl (by rw [hml]; rfl) (argsL := [(.int (((((q2).toUInt64 >>> ((8 : Int32) &&& 0x3f).toInt64.toUInt64).toInt64)).toInt32))]) (rest := []) (lenOf pd_4 rfl) rfl (by show 2 * 0 + _ ≤ _; exact Nat.le_of_eq rfl) (hb hby at_150) (fun _ _ => ⟨rfl, rfl, (Nat.le_of_ble_eq_true rfl : 1 + 0 ≤ _), (Nat.le_of_ble_eq_true rfl : 60 + 0 ≤ _)⟩)
        dsimp only [Pt.U, Pt.locs, Pt.cells, Pt.slots] at X6 l6 y6 z6 st6 hQ6
        subst l6 y6 z6
        obtain ⟨r_6, rfl, Nq6, eq6, hq6_0⟩ := hQ6
        have N6 := Fr.app N4 Nq6
        refine Go.by (fun _ => st6 _) ?_
        show Go p e below P (T6.setTop (mkF m 153 #[.val (.long q0), .second, .val (.long q2), .second, .val (.long q4), .second, .val (.int p6), .val (.int p7), .val (.int p8), .val (.int p9), .val (.int w10), .val (.int t11), .val (.int j12), .val (.int p9), .val (.int ws), .val (.int pr), .val (.int cl), .val (.int tr), .val (.int nn), .val (.ref b1), .unset, .unset, .unset, .unset, .unset, .unset, .unset, .unset, .unset, .unset, .unset, .unset, .unset, .unset] [(.int r_6)]))
        refine Go.by (fun _ => XS.istore X6.here hx rfl (g := (mkF m 153 #[.val (.long q0), .second, .val (.long q2), .second, .val (.long q4), .second, .val (.int p6), .val (.int p7), .val (.int p8), .val (.int p9), .val (.int w10), .val (.int t11), .val (.int j12), .val (.int p9), .val (.int ws), .val (.int pr), .val (.int cl), .val (.int tr), .val (.int nn), .val (.ref b1), .unset, .unset, .unset, .unset, .unset, .unset, .unset, .unset, .unset, .unset, .unset, .unset, .unset, .unset] [(.int r_6)])) (hb hby at_153) rfl (l' := #[.val (.long q0), .second, .val (.long q2), .second, .val (.long q4), .second, .val (.int p6), .val (.int p7), .val (.int p8), .val (.int p9), .val (.int w10), .val (.int t11), .val (.int j12), .val (.int p9), .val (.int ws), .val (.int pr), .val (.int cl), .val (.int tr), .val (.int nn), .val (.ref b1), .val (.int r_6), .unset, .unset, .unset, .unset, .unset, .unset, .unset, .unset, .unset, .unset, .unset, .unset, .unset]) rfl) ?_
        show Go p e below P (T6.setTop (mkF m 155 #[.val (.long q0), .second, .val (.long q2), .second, .val (.long q4), .second, .val (.int p6), .val (.int p7), .val (.int p8), .val (.int p9), .val (.int w10), .val (.int t11), .val (.int j12), .val (.int p9), .val (.int ws), .val (.int pr), .val (.int cl), .val (.int tr), .val (.int nn), .val (.ref b1), .val (.int r_6), .unset, .unset, .unset, .unset, .unset, .unset, .unset, .unset, .unset, .unset, .unset, .unset, .unset] []))
        refine Go.by (fun _ => XS.lloadN X6.here hx rfl (hb hby at_155) rfl) ?_
        show Go p e below P (T6.setTop (mkF m 156 #[.val (.long q0), .second, .val (.long q2), .second, .val (.long q4), .second, .val (.int p6), .val (.int p7), .val (.int p8), .val (.int p9), .val (.int w10), .val (.int t11), .val (.int j12), .val (.int p9), .val (.int ws), .val (.int pr), .val (.int cl), .val (.int tr), .val (.int nn), .val (.ref b1), .val (.int r_6), .unset, .unset, .unset, .unset, .unset, .unset, .unset, .unset, .unset, .unset, .unset, .unset, .unset] [(.long q2)]))
        refine Go.by (fun _ => XS.bipush X6.here hx rfl (hb hby at_156)) ?_
        show Go p e below P (T6.setTop (mkF m 158 #[.val (.long q0), .second, .val (.long q2), .second, .val (.long q4), .second, .val (.int p6), .val (.int p7), .val (.int p8), .val (.int p9), .val (.int w10), .val (.int t11), .val (.int j12), .val (.int p9), .val (.int ws), .val (.int pr), .val (.int cl), .val (.int tr), .val (.int nn), .val (.ref b1), .val (.int r_6), .unset, .unset, .unset, .unset, .unset, .unset, .unset, .unset, .unset, .unset, .unset, .unset, .unset] [(.int (24 : Int32)), (.long q2)]))
        refine Go.by (fun _ => XS.lushr X6.here hx rfl (hb hby at_158) rfl) ?_
        show Go p e below P (T6.setTop (mkF m 159 #[.val (.long q0), .second, .val (.long q2), .second, .val (.long q4), .second, .val (.int p6), .val (.int p7), .val (.int p8), .val (.int p9), .val (.int w10), .val (.int t11), .val (.int j12), .val (.int p9), .val (.int ws), .val (.int pr), .val (.int cl), .val (.int tr), .val (.int nn), .val (.ref b1), .val (.int r_6), .unset, .unset, .unset, .unset, .unset, .unset, .unset, .unset, .unset, .unset, .unset, .unset, .unset] [(.long (((q2).toUInt64 >>> ((24 : Int32) &&& 0x3f).toInt64.toUInt64).toInt64))]))
        refine Go.by (fun _ => XS.l2i X6.here hx rfl (hb hby at_159) rfl) ?_
        show Go p e below P (T6.setTop (mkF m 160 #[.val (.long q0), .second, .val (.long q2), .second, .val (.long q4), .second, .val (.int p6), .val (.int p7), .val (.int p8), .val (.int p9), .val (.int w10), .val (.int t11), .val (.int j12), .val (.int p9), .val (.int ws), .val (.int pr), .val (.int cl), .val (.int tr), .val (.int nn), .val (.ref b1), .val (.int r_6), .unset, .unset, .unset, .unset, .unset, .unset, .unset, .unset, .unset, .unset, .unset, .unset, .unset] [(.int (((((q2).toUInt64 >>> ((24 : Int32) &&& 0x3f).toInt64.toUInt64).toInt64)).toInt32))]))
        obtain ⟨_, _, ⟨T7, L7, k7, n7⟩, -, X7, ⟨Lc7, hQ7, l7, y7, z7⟩, st7⟩ := Jvm.LawKit.callS X6 hx (y := (⟨"com/example/wirecall/wirecall/bench/AnswersIsResultPinLaw", "pick", "(I)B"⟩ : MethodName)) hown (mvT hZ (hw _ (List.mem_of_getElem? (i := 7) rfl))) (mvT hZ (hw _ (List.mem_of_getElem? (i := 8) rfl))) (mvT hZ (hw _ (List.mem_of_getElem? (i := 5) rfl))) (mvT hZ (hw _ (List.mem_of_getElem? (i := 9) rfl))) (by decide) (backOf (W := 0) (rm_pick l Z a0 hw [] wOPEN kOPEN wCLOSE kCLOSE wPARAMS kPARAMS hG ((((((q2).toUInt64 >>> ((24 : Int32) &&& 0x3f).toInt64.toUInt64).toInt64)).toInt32)) T4.heap n0 Z4 O4  ) hZ (hw _ (List.mem_of_getElem? (i := 9) rfl)) (hw _ (List.mem_of_getElem? (i := 5) rfl)) (Nat.le_of_ble_eq_true rfl) (Nat.le_of_ble_eq_true rfl)) (g := (mkF m 160 #[.val (.long q0), .second, .val (.long q2), .second, .val (.long q4), .second, .val (.int p6), .val (.int p7), .val (.int p8), .val (.int p9), .val (.int w10), .val (.int t11), .val (.int j12), .val (.int p9), .val (.int ws), .val (.int pr), .val (.int cl), .val (.int tr), .val (.int nn), .val (.ref b1), .val (.int r_6), .unset, .unset, .unset, .unset, .unset, .unset, .unset, .unset, .unset, .unset, .unset, .unset, .unset] [(.int (((((q2).toUInt64 >>> ((24 : Int32) &&& 0x3f).toInt64.toUInt64).toInt64)).toInt32))])) rfl (by rw [hml]; rfl) (argsL := [(.int (((((q2).toUInt64 >>> ((24 : Int32) &&& 0x3f).toInt64.toUInt64).toInt64)).toInt32))]) (rest := []) (lenOf pd_4 rfl) rfl (by show 2 * 0 + _ ≤ _; exact Nat.le_of_eq rfl) (hb hby at_160) (fun _ _ => ⟨rfl, eq6, (Nat.le_of_ble_eq_true rfl : 1 + 0 ≤ _), (Nat.le_of_ble_eq_true rfl : 60 + 0 ≤ _)⟩)
        dsimp only [Pt.U, Pt.locs, Pt.cells, Pt.slots] at X7 l7 y7 z7 st7 hQ7
        subst l7 y7 z7
        obtain ⟨r_7, rfl, Nq7, eq7, hq7_0⟩ := hQ7
        have N7 := Fr.app N6 Nq7
        refine Go.by (fun _ => st7 _) ?_
        show Go p e below P (T7.setTop (mkF m 163 #[.val (.long q0), .second, .val (.long q2), .second, .val (.long q4), .second, .val (.int p6), .val (.int p7), .val (.int p8), .val (.int p9), .val (.int w10), .val (.int t11), .val (.int j12), .val (.int p9), .val (.int ws), .val (.int pr), .val (.int cl), .val (.int tr), .val (.int nn), .val (.ref b1), .val (.int r_6), .unset, .unset, .unset, .unset, .unset, .unset, .unset, .unset, .unset, .unset, .unset, .unset, .unset] [(.int r_7)]))
        refine Go.by (fun _ => XS.istore X7.here hx rfl (g := (mkF m 163 #[.val (.long q0), .second, .val (.long q2), .second, .val (.long q4), .second, .val (.int p6), .val (.int p7), .val (.int p8), .val (.int p9), .val (.int w10), .val (.int t11), .val (.int j12), .val (.int p9), .val (.int ws), .val (.int pr), .val (.int cl), .val (.int tr), .val (.int nn), .val (.ref b1), .val (.int r_6), .unset, .unset, .unset, .unset, .unset, .unset, .unset, .unset, .unset, .unset, .unset, .unset, .unset] [(.int r_7)])) (hb hby at_163) rfl (l' := #[.val (.long q0), .second, .val (.long q2), .second, .val (.long q4), .second, .val (.int p6), .val (.int p7), .val (.int p8), .val (.int p9), .val (.int w10), .val (.int t11), .val (.int j12), .val (.int p9), .val (.int ws), .val (.int pr), .val (.int cl), .val (.int tr), .val (.int nn), .val (.ref b1), .val (.int r_6), .val (.int r_7), .unset, .unset, .unset, .unset, .unset, .unset, .unset, .unset, .unset, .unset, .unset, .unset]) rfl) ?_
        show Go p e below P (T7.setTop (mkF m 165 #[.val (.long q0), .second, .val (.long q2), .second, .val (.long q4), .second, .val (.int p6), .val (.int p7), .val (.int p8), .val (.int p9), .val (.int w10), .val (.int t11), .val (.int j12), .val (.int p9), .val (.int ws), .val (.int pr), .val (.int cl), .val (.int tr), .val (.int nn), .val (.ref b1), .val (.int r_6), .val (.int r_7), .unset, .unset, .unset, .unset, .unset, .unset, .unset, .unset, .unset, .unset, .unset, .unset] []))
        refine Go.by (fun _ => XS.iload X7.here hx rfl (hb hby at_165) rfl) ?_
        show Go p e below P (T7.setTop (mkF m 167 #[.val (.long q0), .second, .val (.long q2), .second, .val (.long q4), .second, .val (.int p6), .val (.int p7), .val (.int p8), .val (.int p9), .val (.int w10), .val (.int t11), .val (.int j12), .val (.int p9), .val (.int ws), .val (.int pr), .val (.int cl), .val (.int tr), .val (.int nn), .val (.ref b1), .val (.int r_6), .val (.int r_7), .unset, .unset, .unset, .unset, .unset, .unset, .unset, .unset, .unset, .unset, .unset, .unset] [(.int w10)]))
        have J177 : ∀ (TJ177 : State) (lcJ177 : List Loc) (hJ177 : Heap) (XJ177 : Stand p l e room_1 s m #[(.long q0), (.long q2), (.long q4), (.int p6), (.int p7), (.int p8)] below meth c TJ177 lcJ177 1 60) (eJ177 : TJ177.heap = hJ177) (NJ177 : Fr n0 lcJ177) (bs5 : List Int32) (OJ177 : Old Z n0 hJ177) (ZJ177 : n0 ≤ hJ177.size) (FJ177_0 : Arv Z hJ177 b1 k1 .byte NB (bs5.map Value.int) (.int (0 : Int32))) (hl_bs5 : bs5.length = (oN + 16 + wN + 8 + 17 + tN + jN)) (HO5 : Mt (fun i => bs5.getD i 0) (oN) OPN) (HA5 : Imp (0 < wN) (bs5.getD (oN + 16) 0 = r_6)), Go p e below P (TJ177.setTop (mkF m 177 #[.val (.long q0), .second, .val (.long q2), .second, .val (.long q4), .second, .val (.int p6), .val (.int p7), .val (.int p8), .val (.int p9), .val (.int w10), .val (.int t11), .val (.int j12), .val (.int p9), .val (.int ws), .val (.int pr), .val (.int cl), .val (.int tr), .val (.int nn), .val (.ref b1), .val (.int r_6), .val (.int r_7), .unset, .unset, .unset, .unset, .unset, .unset, .unset, .unset, .unset, .unset, .unset, .unset] [])) := by
          intro TJ177 lcJ177 hJ177 XJ177 eJ177 NJ177 bs5 OJ177 ZJ177 FJ177_0 hl_bs5 HO5 HA5
          clear hl_bs4
          refine Go.by (fun _ => XS.iload XJ177.here hx rfl (hb hby at_177) rfl) ?_
          show Go p e below P (TJ177.setTop (mkF m 179 #[.val (.long q0), .second, .val (.long q2), .second, .val (.long q4), .second, .val (.int p6), .val (.int p7), .val (.int p8), .val (.int p9), .val (.int w10), .val (.int t11), .val (.int j12), .val (.int p9), .val (.int ws), .val (.int pr), .val (.int cl), .val (.int tr), .val (.int nn), .val (.ref b1), .val (.int r_6), .val (.int r_7), .unset, .unset, .unset, .unset, .unset, .unset, .unset, .unset, .unset, .unset, .unset, .unset] [(.int w10)]))
          refine Go.by (fun _ => XS.iconst XJ177.here hx rfl (hb hby at_179)) ?_
          show Go p e below P (TJ177.setTop (mkF m 180 #[.val (.long q0), .second, .val (.long q2), .second, .val (.long q4), .second, .val (.int p6), .val (.int p7), .val (.int p8), .val (.int p9), .val (.int w10), .val (.int t11), .val (.int j12), .val (.int p9), .val (.int ws), .val (.int pr), .val (.int cl), .val (.int tr), .val (.int nn), .val (.ref b1), .val (.int r_6), .val (.int r_7), .unset, .unset, .unset, .unset, .unset, .unset, .unset, .unset, .unset, .unset, .unset, .unset] [(.int (1 : Int32)), (.int w10)]))
          have J192 : ∀ (TJ192 : State) (lcJ192 : List Loc) (hJ192 : Heap) (XJ192 : Stand p l e room_1 s m #[(.long q0), (.long q2), (.long q4), (.int p6), (.int p7), (.int p8)] below meth c TJ192 lcJ192 1 60) (eJ192 : TJ192.heap = hJ192) (NJ192 : Fr n0 lcJ192) (bs6 : List Int32) (OJ192 : Old Z n0 hJ192) (ZJ192 : n0 ≤ hJ192.size) (FJ192_0 : Arv Z hJ192 b1 k1 .byte NB (bs6.map Value.int) (.int (0 : Int32))) (hl_bs6 : bs6.length = (oN + 16 + wN + 8 + 17 + tN + jN)) (HO6 : Mt (fun i => bs6.getD i 0) (oN) OPN) (HA6 : Imp (0 < wN) (bs6.getD (oN + 16) 0 = r_6)) (HB6 : Imp (1 < wN) (bs6.getD (oN + 17) 0 = r_7)), Go p e below P (TJ192.setTop (mkF m 192 #[.val (.long q0), .second, .val (.long q2), .second, .val (.long q4), .second, .val (.int p6), .val (.int p7), .val (.int p8), .val (.int p9), .val (.int w10), .val (.int t11), .val (.int j12), .val (.int p9), .val (.int ws), .val (.int pr), .val (.int cl), .val (.int tr), .val (.int nn), .val (.ref b1), .val (.int r_6), .val (.int r_7), .unset, .unset, .unset, .unset, .unset, .unset, .unset, .unset, .unset, .unset, .unset, .unset] [])) := by
            intro TJ192 lcJ192 hJ192 XJ192 eJ192 NJ192 bs6 OJ192 ZJ192 FJ192_0 hl_bs6 HO6 HA6 HB6
            clear hl_bs5
            refine Go.by (fun _ => XS.aload XJ192.here hx rfl (hb hby at_192) rfl rfl) ?_
            show Go p e below P (TJ192.setTop (mkF m 194 #[.val (.long q0), .second, .val (.long q2), .second, .val (.long q4), .second, .val (.int p6), .val (.int p7), .val (.int p8), .val (.int p9), .val (.int w10), .val (.int t11), .val (.int j12), .val (.int p9), .val (.int ws), .val (.int pr), .val (.int cl), .val (.int tr), .val (.int nn), .val (.ref b1), .val (.int r_6), .val (.int r_7), .unset, .unset, .unset, .unset, .unset, .unset, .unset, .unset, .unset, .unset, .unset, .unset] [(.ref b1)]))
            refine Go.by (fun _ => XS.iload XJ192.here hx rfl (hb hby at_194) rfl) ?_
            show Go p e below P (TJ192.setTop (mkF m 196 #[.val (.long q0), .second, .val (.long q2), .second, .val (.long q4), .second, .val (.int p6), .val (.int p7), .val (.int p8), .val (.int p9), .val (.int w10), .val (.int t11), .val (.int j12), .val (.int p9), .val (.int ws), .val (.int pr), .val (.int cl), .val (.int tr), .val (.int nn), .val (.ref b1), .val (.int r_6), .val (.int r_7), .unset, .unset, .unset, .unset, .unset, .unset, .unset, .unset, .unset, .unset, .unset, .unset] [(.int pr), (.ref b1)]))
            obtain ⟨_, _, ⟨T8, L8, k8, n8⟩, -, X8, ⟨Lc8, hQ8, l8, y8, z8⟩, st8⟩ := Jvm.LawKit.callS XJ192 hx (y := (⟨"com/example/wirecall/wirecall/bench/AnswersIsResultPinLaw", "putParams", "([BI)V"⟩ : MethodName)) hown (mvT hZ (hw _ (List.mem_of_getElem? (i := 10) rfl))) (mvT hZ (hw _ (List.mem_of_getElem? (i := 11) rfl))) (mvT hZ (hw _ (List.mem_of_getElem? (i := 5) rfl))) (mvT hZ (hw _ (List.mem_of_getElem? (i := 12) rfl))) (by decide) (backOf (W := 0) (rm_pp l Z a0 hw [] wOPEN kOPEN wCLOSE kCLOSE wPARAMS kPARAMS hG b1 pr k1 NB bs6 ((oN + 16 + wN)) hJ192 n0 ZJ192 OJ192 FJ192_0 g_b1 (by rw [hl_bs6]; exact hNB) hpr (by rw [hl_bs6]; omega) (by rw [hl_bs6]; omega)) hZ (hw _ (List.mem_of_getElem? (i := 12) rfl)) (hw _ (List.mem_of_getElem? (i := 5) rfl)) (Nat.le_of_ble_eq_true rfl) (Nat.le_of_ble_eq_true rfl)) (g := (mkF m 196 #[.val (.long q0), .second, .val (.long q2), .second, .val (.long q4), .second, .val (.int p6), .val (.int p7), .val (.int p8), .val (.int p9), .val (.int w10), .val (.int t11), .val (.int j12), .val (.int p9), .val (.int ws), .val (.int pr), .val (.int cl), .val (.int tr), .val (.int nn), .val (.ref b1), .val (.int r_6), .val (.int r_7), .unset, .unset, .unset, .unset, .unset, .unset, .unset, .unset, .unset, .unset, .unset, .unset] [(.int pr), (.ref b1)])) rfl (by rw [hml]; rfl) (argsL := [(.ref b1), (.int pr)]) (rest := []) (lenOf pd_3 rfl) rfl (by show 2 * 0 + _ ≤ _; exact Nat.le_of_eq rfl) (hb hby at_196) (fun _ _ => ⟨rfl, eJ192, (Nat.le_of_ble_eq_true rfl : 1 + 0 ≤ _), (Nat.le_of_ble_eq_true rfl : 60 + 0 ≤ _)⟩)
            dsimp only [Pt.U, Pt.locs, Pt.cells, Pt.slots] at X8 l8 y8 z8 st8 hQ8
            subst l8 y8 z8
            obtain ⟨rfl, Nq8, Kc8, F9⟩ := hQ8
            have N8 := Fr.app NJ192 Nq8
            refine Go.by (fun _ => st8 _) ?_
            have O8 := OJ192.keep Kc8 (allS g_b1 all0)
            have Z8 : n0 ≤ T8.heap.size := Nat.le_trans ZJ192 Kc8.1
            show Go p e below P (T8.setTop (mkF m 199 #[.val (.long q0), .second, .val (.long q2), .second, .val (.long q4), .second, .val (.int p6), .val (.int p7), .val (.int p8), .val (.int p9), .val (.int w10), .val (.int t11), .val (.int j12), .val (.int p9), .val (.int ws), .val (.int pr), .val (.int cl), .val (.int tr), .val (.int nn), .val (.ref b1), .val (.int r_6), .val (.int r_7), .unset, .unset, .unset, .unset, .unset, .unset, .unset, .unset, .unset, .unset, .unset, .unset] []))
            obtain ⟨bs7, hb_bs7, Fb_bs7⟩ : ∃ b_ : List Int32, b_ = (puts bs6 (oN + 16 + wN) PRM) ∧ Arv Z T8.heap b1 k1 .byte NB (b_.map Value.int) (.int (0 : Int32)) := ⟨_, rfl, F9⟩
            have hl_bs7 : bs7.length = (oN + 16 + wN + 8 + 17 + tN + jN) := by rw [hb_bs7, own_puts_len]; exact hl_bs6
            have HP7 : Mt (fun i => bs7.getD i 0) (oN + 16 + wN) PRM := by rw [hb_bs7]; exact own_puts_self bs6 (oN + 16 + wN) PRM (by rw [hl_bs6]; have lp : PRM.length = 8 := rfl; omega)
            have HO7 : Mt (fun i => bs7.getD i 0) (oN) OPN := by rw [hb_bs7]; exact own_Mt_puts (a := oN + 16 + wN) (V := PRM) HO6 (Or.inl (by have lo : OPN.length = 16 := rfl; omega))
            have HA7 : Imp (0 < wN) (bs7.getD (oN + 16) 0 = r_6) := by rw [hb_bs7]; exact fun q => (own_gd_puts bs6 (oN + 16 + wN) PRM (oN + 16) (Or.inl (own_lt1 q))).trans (HA6 q)
            have HB7 : Imp (1 < wN) (bs7.getD (oN + 17) 0 = r_7) := by rw [hb_bs7]; exact fun q => (own_gd_puts bs6 (oN + 16 + wN) PRM (oN + 17) (Or.inl (own_lt2 q))).trans (HB6 q)
            clear hl_bs6
            refine Go.by (fun _ => XS.aload X8.here hx rfl (hb hby at_199) rfl rfl) ?_
            show Go p e below P (T8.setTop (mkF m 201 #[.val (.long q0), .second, .val (.long q2), .second, .val (.long q4), .second, .val (.int p6), .val (.int p7), .val (.int p8), .val (.int p9), .val (.int w10), .val (.int t11), .val (.int j12), .val (.int p9), .val (.int ws), .val (.int pr), .val (.int cl), .val (.int tr), .val (.int nn), .val (.ref b1), .val (.int r_6), .val (.int r_7), .unset, .unset, .unset, .unset, .unset, .unset, .unset, .unset, .unset, .unset, .unset, .unset] [(.ref b1)]))
            refine Go.by (fun _ => XS.iload X8.here hx rfl (hb hby at_201) rfl) ?_
            show Go p e below P (T8.setTop (mkF m 203 #[.val (.long q0), .second, .val (.long q2), .second, .val (.long q4), .second, .val (.int p6), .val (.int p7), .val (.int p8), .val (.int p9), .val (.int w10), .val (.int t11), .val (.int j12), .val (.int p9), .val (.int ws), .val (.int pr), .val (.int cl), .val (.int tr), .val (.int nn), .val (.ref b1), .val (.int r_6), .val (.int r_7), .unset, .unset, .unset, .unset, .unset, .unset, .unset, .unset, .unset, .unset, .unset, .unset] [(.int cl), (.ref b1)]))
            obtain ⟨_, _, ⟨T10, L10, k10, n10⟩, -, X10, ⟨Lc10, hQ10, l10, y10, z10⟩, st10⟩ := Jvm.LawKit.callS X8 hx (y := (⟨"com/example/wirecall/wirecall/bench/AnswersIsResultPinLaw", "putClose", "([BI)V"⟩ : MethodName)) hown (mvT hZ (hw _ (List.mem_of_getElem? (i := 13) rfl))) (mvT hZ (hw _ (List.mem_of_getElem? (i := 14) rfl))) (mvT hZ (hw _ (List.mem_of_getElem? (i := 5) rfl))) (mvT hZ (hw _ (List.mem_of_getElem? (i := 15) rfl))) (by decide) (backOf (W := 0) (rm_pcl l Z a0 hw [] wOPEN kOPEN wCLOSE kCLOSE wPARAMS kPARAMS hG b1 cl k1 NB bs7 ((oN + 16 + wN + 8)) T8.heap n0 Z8 O8 Fb_bs7 g_b1 (by rw [hl_bs7]; exact hNB) hcl (by rw [hl_bs7]; omega) (by rw [hl_bs7]; omega)) hZ (hw _ (List.mem_of_getElem? (i := 15) rfl)) (hw _ (List.mem_of_getElem? (i := 5) rfl)) (Nat.le_of_ble_eq_true rfl) (Nat.le_of_ble_eq_true rfl)) (g := (mkF m 203 #[.val (.long q0), .second, .val (.long q2), .second, .val (.long q4), .second, .val (.int p6), .val (.int p7), .val (.int p8), .val (.int p9), .val (.int w10), .val (.int t11), .val (.int j12), .val (.int p9), .val (.int ws), .val (.int pr), .val (.int cl), .val (.int tr), .val (.int nn), .val (.ref b1), .val (.int r_6), .val (.int r_7), .unset, .unset, .unset, .unset, .unset, .unset, .unset, .unset, .unset, .unset, .unset, .unset] [(.int cl), (.ref b1)])) rfl (by rw [hml]; rfl) (argsL := [(.ref b1), (.int cl)]) (rest := []) (lenOf pd_3 rfl) rfl (by show 2 * 0 + _ ≤ _; exact Nat.le_of_eq rfl) (hb hby at_203) (fun _ _ => ⟨rfl, rfl, (Nat.le_of_ble_eq_true rfl : 1 + 0 ≤ _), (Nat.le_of_ble_eq_true rfl : 60 + 0 ≤ _)⟩)
            dsimp only [Pt.U, Pt.locs, Pt.cells, Pt.slots] at X10 l10 y10 z10 st10 hQ10
            subst l10 y10 z10
            obtain ⟨rfl, Nq10, Kc10, F11⟩ := hQ10
            have N10 := Fr.app N8 Nq10
            refine Go.by (fun _ => st10 _) ?_
            have O10 := O8.keep Kc10 (allS g_b1 all0)
            have Z10 : n0 ≤ T10.heap.size := Nat.le_trans Z8 Kc10.1
            show Go p e below P (T10.setTop (mkF m 206 #[.val (.long q0), .second, .val (.long q2), .second, .val (.long q4), .second, .val (.int p6), .val (.int p7), .val (.int p8), .val (.int p9), .val (.int w10), .val (.int t11), .val (.int j12), .val (.int p9), .val (.int ws), .val (.int pr), .val (.int cl), .val (.int tr), .val (.int nn), .val (.ref b1), .val (.int r_6), .val (.int r_7), .unset, .unset, .unset, .unset, .unset, .unset, .unset, .unset, .unset, .unset, .unset, .unset] []))
            obtain ⟨bs8, hb_bs8, Fb_bs8⟩ : ∃ b_ : List Int32, b_ = (puts bs7 (oN + 16 + wN + 8) CLO) ∧ Arv Z T10.heap b1 k1 .byte NB (b_.map Value.int) (.int (0 : Int32)) := ⟨_, rfl, F11⟩
            have hl_bs8 : bs8.length = (oN + 16 + wN + 8 + 17 + tN + jN) := by rw [hb_bs8, own_puts_len]; exact hl_bs7
            have HC8 : Mt (fun i => bs8.getD i 0) (oN + 16 + wN + 8) CLO := by rw [hb_bs8]; exact own_puts_self bs7 (oN + 16 + wN + 8) CLO (by rw [hl_bs7]; have lc : CLO.length = 17 := rfl; omega)
            have HP8 : Mt (fun i => bs8.getD i 0) (oN + 16 + wN) PRM := by rw [hb_bs8]; exact own_Mt_puts (a := oN + 16 + wN + 8) (V := CLO) HP7 (Or.inl (by have lp : PRM.length = 8 := rfl; omega))
            have HO8 : Mt (fun i => bs8.getD i 0) (oN) OPN := by rw [hb_bs8]; exact own_Mt_puts (a := oN + 16 + wN + 8) (V := CLO) HO7 (Or.inl (by have lo : OPN.length = 16 := rfl; omega))
            have HA8 : Imp (0 < wN) (bs8.getD (oN + 16) 0 = r_6) := by rw [hb_bs8]; exact fun q => (own_gd_puts bs7 (oN + 16 + wN + 8) CLO (oN + 16) (Or.inl (own_lt3 q))).trans (HA7 q)
            have HB8 : Imp (1 < wN) (bs8.getD (oN + 17) 0 = r_7) := by rw [hb_bs8]; exact fun q => (own_gd_puts bs7 (oN + 16 + wN + 8) CLO (oN + 17) (Or.inl (own_lt4 q))).trans (HB7 q)
            clear hl_bs7
            refine Go.by (fun _ => XS.lload X10.here hx rfl (hb hby at_206) rfl) ?_
            show Go p e below P (T10.setTop (mkF m 208 #[.val (.long q0), .second, .val (.long q2), .second, .val (.long q4), .second, .val (.int p6), .val (.int p7), .val (.int p8), .val (.int p9), .val (.int w10), .val (.int t11), .val (.int j12), .val (.int p9), .val (.int ws), .val (.int pr), .val (.int cl), .val (.int tr), .val (.int nn), .val (.ref b1), .val (.int r_6), .val (.int r_7), .unset, .unset, .unset, .unset, .unset, .unset, .unset, .unset, .unset, .unset, .unset, .unset] [(.long q4)]))
            refine Go.by (fun _ => XS.bipush X10.here hx rfl (hb hby at_208)) ?_
            show Go p e below P (T10.setTop (mkF m 210 #[.val (.long q0), .second, .val (.long q2), .second, .val (.long q4), .second, .val (.int p6), .val (.int p7), .val (.int p8), .val (.int p9), .val (.int w10), .val (.int t11), .val (.int j12), .val (.int p9), .val (.int ws), .val (.int pr), .val (.int cl), .val (.int tr), .val (.int nn), .val (.ref b1), .val (.int r_6), .val (.int r_7), .unset, .unset, .unset, .unset, .unset, .unset, .unset, .unset, .unset, .unset, .unset, .unset] [(.int (8 : Int32)), (.long q4)]))
            refine Go.by (fun _ => XS.lushr X10.here hx rfl (hb hby at_210) rfl) ?_
            show Go p e below P (T10.setTop (mkF m 211 #[.val (.long q0), .second, .val (.long q2), .second, .val (.long q4), .second, .val (.int p6), .val (.int p7), .val (.int p8), .val (.int p9), .val (.int w10), .val (.int t11), .val (.int j12), .val (.int p9), .val (.int ws), .val (.int pr), .val (.int cl), .val (.int tr), .val (.int nn), .val (.ref b1), .val (.int r_6), .val (.int r_7), .unset, .unset, .unset, .unset, .unset, .unset, .unset, .unset, .unset, .unset, .unset, .unset] [(.long (((q4).toUInt64 >>> ((8 : Int32) &&& 0x3f).toInt64.toUInt64).toInt64))]))
            refine Go.by (fun _ => XS.l2i X10.here hx rfl (hb hby at_211) rfl) ?_
            show Go p e below P (T10.setTop (mkF m 212 #[.val (.long q0), .second, .val (.long q2), .second, .val (.long q4), .second, .val (.int p6), .val (.int p7), .val (.int p8), .val (.int p9), .val (.int w10), .val (.int t11), .val (.int j12), .val (.int p9), .val (.int ws), .val (.int pr), .val (.int cl), .val (.int tr), .val (.int nn), .val (.ref b1), .val (.int r_6), .val (.int r_7), .unset, .unset, .unset, .unset, .unset, .unset, .unset, .unset, .unset, .unset, .unset, .unset] [(.int (((((q4).toUInt64 >>> ((8 : Int32) &&& 0x3f).toInt64.toUInt64).toInt64)).toInt32))]))
            obtain ⟨_, _, ⟨T12, L12, k12, n12⟩, -, X12, ⟨Lc12, hQ12, l12, y12, z12⟩, st12⟩ := Jvm.LawKit.callS X10 hx (y := (⟨"com/example/wirecall/wirecall/bench/AnswersIsResultPinLaw", "pick", "(I)B"⟩ : MethodName)) hown (mvT hZ (hw _ (List.mem_of_getElem? (i := 7) rfl))) (mvT hZ (hw _ (List.mem_of_getElem? (i := 8) rfl))) (mvT hZ (hw _ (List.mem_of_getElem? (i := 5) rfl))) (mvT hZ (hw _ (List.mem_of_getElem? (i := 9) rfl))) (by decide) (backOf (W := 0) (rm_pick l Z a0 hw [] wOPEN kOPEN wCLOSE kCLOSE wPARAMS kPARAMS hG ((((((q4).toUInt64 >>> ((8 : Int32) &&& 0x3f).toInt64.toUInt64).toInt64)).toInt32)) T10.heap n0 Z10 O10  ) hZ (hw _ (List.mem_of_getElem? (i := 9) rfl)) (hw _ (List.mem_of_getElem? (i := 5) rfl)) (Nat.le_of_ble_eq_true rfl) (Nat.le_of_ble_eq_true rfl)) (g := (mkF m 212 #[.val (.long q0), .second, .val (.long q2), .second, .val (.long q4), .second, .val (.int p6), .val (.int p7), .val (.int p8), .val (.int p9), .val (.int w10), .val (.int t11), .val (.int j12), .val (.int p9), .val (.int ws), .val (.int pr), .val (.int cl), .val (.int tr), .val (.int nn), .val (.ref b1), .val (.int r_6), .val (.int r_7), .unset, .unset, .unset, .unset, .unset, .unset, .unset, .unset, .unset, .unset, .unset, .unset] [(.int (((((q4).toUInt64 >>> ((8 : Int32) &&& 0x3f).toInt64.toUInt64).toInt64)).toInt32))])) rfl (by rw [hml]; rfl) (argsL := [(.int (((((q4).toUInt64 >>> ((8 : Int32) &&& 0x3f).toInt64.toUInt64).toInt64)).toInt32))]) (rest := []) (lenOf pd_4 rfl) rfl (by show 2 * 0 + _ ≤ _; exact Nat.le_of_eq rfl) (hb hby at_212) (fun _ _ => ⟨rfl, rfl, (Nat.le_of_ble_eq_true rfl : 1 + 0 ≤ _), (Nat.le_of_ble_eq_true rfl : 60 + 0 ≤ _)⟩)
            dsimp only [Pt.U, Pt.locs, Pt.cells, Pt.slots] at X12 l12 y12 z12 st12 hQ12
            subst l12 y12 z12
            obtain ⟨r_12, rfl, Nq12, eq12, hq12_0⟩ := hQ12
            have N12 := Fr.app N10 Nq12
            refine Go.by (fun _ => st12 _) ?_
            show Go p e below P (T12.setTop (mkF m 215 #[.val (.long q0), .second, .val (.long q2), .second, .val (.long q4), .second, .val (.int p6), .val (.int p7), .val (.int p8), .val (.int p9), .val (.int w10), .val (.int t11), .val (.int j12), .val (.int p9), .val (.int ws), .val (.int pr), .val (.int cl), .val (.int tr), .val (.int nn), .val (.ref b1), .val (.int r_6), .val (.int r_7), .unset, .unset, .unset, .unset, .unset, .unset, .unset, .unset, .unset, .unset, .unset, .unset] [(.int r_12)]))
            refine Go.by (fun _ => XS.istore X12.here hx rfl (g := (mkF m 215 #[.val (.long q0), .second, .val (.long q2), .second, .val (.long q4), .second, .val (.int p6), .val (.int p7), .val (.int p8), .val (.int p9), .val (.int w10), .val (.int t11), .val (.int j12), .val (.int p9), .val (.int ws), .val (.int pr), .val (.int cl), .val (.int tr), .val (.int nn), .val (.ref b1), .val (.int r_6), .val (.int r_7), .unset, .unset, .unset, .unset, .unset, .unset, .unset, .unset, .unset, .unset, .unset, .unset] [(.int r_12)])) (hb hby at_215) rfl (l' := #[.val (.long q0), .second, .val (.long q2), .second, .val (.long q4), .second, .val (.int p6), .val (.int p7), .val (.int p8), .val (.int p9), .val (.int w10), .val (.int t11), .val (.int j12), .val (.int p9), .val (.int ws), .val (.int pr), .val (.int cl), .val (.int tr), .val (.int nn), .val (.ref b1), .val (.int r_6), .val (.int r_7), .val (.int r_12), .unset, .unset, .unset, .unset, .unset, .unset, .unset, .unset, .unset, .unset, .unset]) rfl) ?_
            show Go p e below P (T12.setTop (mkF m 217 #[.val (.long q0), .second, .val (.long q2), .second, .val (.long q4), .second, .val (.int p6), .val (.int p7), .val (.int p8), .val (.int p9), .val (.int w10), .val (.int t11), .val (.int j12), .val (.int p9), .val (.int ws), .val (.int pr), .val (.int cl), .val (.int tr), .val (.int nn), .val (.ref b1), .val (.int r_6), .val (.int r_7), .val (.int r_12), .unset, .unset, .unset, .unset, .unset, .unset, .unset, .unset, .unset, .unset, .unset] []))
            refine Go.by (fun _ => XS.lload X12.here hx rfl (hb hby at_217) rfl) ?_
            show Go p e below P (T12.setTop (mkF m 219 #[.val (.long q0), .second, .val (.long q2), .second, .val (.long q4), .second, .val (.int p6), .val (.int p7), .val (.int p8), .val (.int p9), .val (.int w10), .val (.int t11), .val (.int j12), .val (.int p9), .val (.int ws), .val (.int pr), .val (.int cl), .val (.int tr), .val (.int nn), .val (.ref b1), .val (.int r_6), .val (.int r_7), .val (.int r_12), .unset, .unset, .unset, .unset, .unset, .unset, .unset, .unset, .unset, .unset, .unset] [(.long q4)]))
            refine Go.by (fun _ => XS.bipush X12.here hx rfl (hb hby at_219)) ?_
            show Go p e below P (T12.setTop (mkF m 221 #[.val (.long q0), .second, .val (.long q2), .second, .val (.long q4), .second, .val (.int p6), .val (.int p7), .val (.int p8), .val (.int p9), .val (.int w10), .val (.int t11), .val (.int j12), .val (.int p9), .val (.int ws), .val (.int pr), .val (.int cl), .val (.int tr), .val (.int nn), .val (.ref b1), .val (.int r_6), .val (.int r_7), .val (.int r_12), .unset, .unset, .unset, .unset, .unset, .unset, .unset, .unset, .unset, .unset, .unset] [(.int (24 : Int32)), (.long q4)]))
            refine Go.by (fun _ => XS.lushr X12.here hx rfl (hb hby at_221) rfl) ?_
            show Go p e below P (T12.setTop (mkF m 222 #[.val (.long q0), .second, .val (.long q2), .second, .val (.long q4), .second, .val (.int p6), .val (.int p7), .val (.int p8), .val (.int p9), .val (.int w10), .val (.int t11), .val (.int j12), .val (.int p9), .val (.int ws), .val (.int pr), .val (.int cl), .val (.int tr), .val (.int nn), .val (.ref b1), .val (.int r_6), .val (.int r_7), .val (.int r_12), .unset, .unset, .unset, .unset, .unset, .unset, .unset, .unset, .unset, .unset, .unset] [(.long (((q4).toUInt64 >>> ((24 : Int32) &&& 0x3f).toInt64.toUInt64).toInt64))]))
            refine Go.by (fun _ => XS.l2i X12.here hx rfl (hb hby at_222) rfl) ?_
            show Go p e below P (T12.setTop (mkF m 223 #[.val (.long q0), .second, .val (.long q2), .second, .val (.long q4), .second, .val (.int p6), .val (.int p7), .val (.int p8), .val (.int p9), .val (.int w10), .val (.int t11), .val (.int j12), .val (.int p9), .val (.int ws), .val (.int pr), .val (.int cl), .val (.int tr), .val (.int nn), .val (.ref b1), .val (.int r_6), .val (.int r_7), .val (.int r_12), .unset, .unset, .unset, .unset, .unset, .unset, .unset, .unset, .unset, .unset, .unset] [(.int (((((q4).toUInt64 >>> ((24 : Int32) &&& 0x3f).toInt64.toUInt64).toInt64)).toInt32))]))
            obtain ⟨_, _, ⟨T13, L13, k13, n13⟩, -, X13, ⟨Lc13, hQ13, l13, y13, z13⟩, st13⟩ := Jvm.LawKit.callS X12 hx (y := (⟨"com/example/wirecall/wirecall/bench/AnswersIsResultPinLaw", "pick", "(I)B"⟩ : MethodName)) hown (mvT hZ (hw _ (List.mem_of_getElem? (i := 7) rfl))) (mvT hZ (hw _ (List.mem_of_getElem? (i := 8) rfl))) (mvT hZ (hw _ (List.mem_of_getElem? (i := 5) rfl))) (mvT hZ (hw _ (List.mem_of_getElem? (i := 9) rfl))) (by decide) (backOf (W := 0) (rm_pick l Z a0 hw [] wOPEN kOPEN wCLOSE kCLOSE wPARAMS kPARAMS hG ((((((q4).toUInt64 >>> ((24 : Int32) &&& 0x3f).toInt64.toUInt64).toInt64)).toInt32)) T10.heap n0 Z10 O10  ) hZ (hw _ (List.mem_of_getElem? (i := 9) rfl)) (hw _ (List.mem_of_getElem? (i := 5) rfl)) (Nat.le_of_ble_eq_true rfl) (Nat.le_of_ble_eq_true rfl)) (g := (mkF m 223 #[.val (.long q0), .second, .val (.long q2), .second, .val (.long q4), .second, .val (.int p6), .val (.int p7), .val (.int p8), .val (.int p9), .val (.int w10), .val (.int t11), .val (.int j12), .val (.int p9), .val (.int ws), .val (.int pr), .val (.int cl), .val (.int tr), .val (.int nn), .val (.ref b1), .val (.int r_6), .val (.int r_7), .val (.int r_12), .unset, .unset, .unset, .unset, .unset, .unset, .unset, .unset, .unset, .unset, .unset] [(.int (((((q4).toUInt64 >>> ((24 : Int32) &&& 0x3f).toInt64.toUInt64).toInt64)).toInt32))])) rfl (by rw [hml]; rfl) (argsL := [(.int (((((q4).toUInt64 >>> ((24 : Int32) &&& 0x3f).toInt64.toUInt64).toInt64)).toInt32))]) (rest := []) (lenOf pd_4 rfl) rfl (by show 2 * 0 + _ ≤ _; exact Nat.le_of_eq rfl) (hb hby at_223) (fun _ _ => ⟨rfl, eq12, (Nat.le_of_ble_eq_true rfl : 1 + 0 ≤ _), (Nat.le_of_ble_eq_true rfl : 60 + 0 ≤ _)⟩)
            dsimp only [Pt.U, Pt.locs, Pt.cells, Pt.slots] at X13 l13 y13 z13 st13 hQ13
            subst l13 y13 z13
            obtain ⟨r_13, rfl, Nq13, eq13, hq13_0⟩ := hQ13
            have N13 := Fr.app N12 Nq13
            refine Go.by (fun _ => st13 _) ?_
            show Go p e below P (T13.setTop (mkF m 226 #[.val (.long q0), .second, .val (.long q2), .second, .val (.long q4), .second, .val (.int p6), .val (.int p7), .val (.int p8), .val (.int p9), .val (.int w10), .val (.int t11), .val (.int j12), .val (.int p9), .val (.int ws), .val (.int pr), .val (.int cl), .val (.int tr), .val (.int nn), .val (.ref b1), .val (.int r_6), .val (.int r_7), .val (.int r_12), .unset, .unset, .unset, .unset, .unset, .unset, .unset, .unset, .unset, .unset, .unset] [(.int r_13)]))
            refine Go.by (fun _ => XS.istore X13.here hx rfl (g := (mkF m 226 #[.val (.long q0), .second, .val (.long q2), .second, .val (.long q4), .second, .val (.int p6), .val (.int p7), .val (.int p8), .val (.int p9), .val (.int w10), .val (.int t11), .val (.int j12), .val (.int p9), .val (.int ws), .val (.int pr), .val (.int cl), .val (.int tr), .val (.int nn), .val (.ref b1), .val (.int r_6), .val (.int r_7), .val (.int r_12), .unset, .unset, .unset, .unset, .unset, .unset, .unset, .unset, .unset, .unset, .unset] [(.int r_13)])) (hb hby at_226) rfl (l' := #[.val (.long q0), .second, .val (.long q2), .second, .val (.long q4), .second, .val (.int p6), .val (.int p7), .val (.int p8), .val (.int p9), .val (.int w10), .val (.int t11), .val (.int j12), .val (.int p9), .val (.int ws), .val (.int pr), .val (.int cl), .val (.int tr), .val (.int nn), .val (.ref b1), .val (.int r_6), .val (.int r_7), .val (.int r_12), .val (.int r_13), .unset, .unset, .unset, .unset, .unset, .unset, .unset, .unset, .unset, .unset]) rfl) ?_
            show Go p e below P (T13.setTop (mkF m 228 #[.val (.long q0), .second, .val (.long q2), .second, .val (.long q4), .second, .val (.int p6), .val (.int p7), .val (.int p8), .val (.int p9), .val (.int w10), .val (.int t11), .val (.int j12), .val (.int p9), .val (.int ws), .val (.int pr), .val (.int cl), .val (.int tr), .val (.int nn), .val (.ref b1), .val (.int r_6), .val (.int r_7), .val (.int r_12), .val (.int r_13), .unset, .unset, .unset, .unset, .unset, .unset, .unset, .unset, .unset, .unset] []))
            refine Go.by (fun _ => XS.iload X13.here hx rfl (hb hby at_228) rfl) ?_
            show Go p e below P (T13.setTop (mkF m 230 #[.val (.long q0), .second, .val (.long q2), .second, .val (.long q4), .second, .val (.int p6), .val (.int p7), .val (.int p8), .val (.int p9), .val (.int w10), .val (.int t11), .val (.int j12), .val (.int p9), .val (.int ws), .val (.int pr), .val (.int cl), .val (.int tr), .val (.int nn), .val (.ref b1), .val (.int r_6), .val (.int r_7), .val (.int r_12), .val (.int r_13), .unset, .unset, .unset, .unset, .unset, .unset, .unset, .unset, .unset, .unset] [(.int t11)]))
            have J240 : ∀ (TJ240 : State) (lcJ240 : List Loc) (hJ240 : Heap) (XJ240 : Stand p l e room_1 s m #[(.long q0), (.long q2), (.long q4), (.int p6), (.int p7), (.int p8)] below meth c TJ240 lcJ240 1 60) (eJ240 : TJ240.heap = hJ240) (NJ240 : Fr n0 lcJ240) (bs9 : List Int32) (OJ240 : Old Z n0 hJ240) (ZJ240 : n0 ≤ hJ240.size) (FJ240_0 : Arv Z hJ240 b1 k1 .byte NB (bs9.map Value.int) (.int (0 : Int32))) (hl_bs9 : bs9.length = (oN + 16 + wN + 8 + 17 + tN + jN)) (HO9 : Mt (fun i => bs9.getD i 0) (oN) OPN) (HP9 : Mt (fun i => bs9.getD i 0) (oN + 16 + wN) PRM) (HC9 : Mt (fun i => bs9.getD i 0) (oN + 16 + wN + 8) CLO) (HA9 : Imp (0 < wN) (bs9.getD (oN + 16) 0 = r_6)) (HB9 : Imp (1 < wN) (bs9.getD (oN + 17) 0 = r_7)) (HT9 : Imp (0 < tN) (bs9.getD (oN + 16 + wN + 8 + 17) 0 = r_12)), Go p e below P (TJ240.setTop (mkF m 240 #[.val (.long q0), .second, .val (.long q2), .second, .val (.long q4), .second, .val (.int p6), .val (.int p7), .val (.int p8), .val (.int p9), .val (.int w10), .val (.int t11), .val (.int j12), .val (.int p9), .val (.int ws), .val (.int pr), .val (.int cl), .val (.int tr), .val (.int nn), .val (.ref b1), .val (.int r_6), .val (.int r_7), .val (.int r_12), .val (.int r_13), .unset, .unset, .unset, .unset, .unset, .unset, .unset, .unset, .unset, .unset] [])) := by
              intro TJ240 lcJ240 hJ240 XJ240 eJ240 NJ240 bs9 OJ240 ZJ240 FJ240_0 hl_bs9 HO9 HP9 HC9 HA9 HB9 HT9
              clear hl_bs8
              refine Go.by (fun _ => XS.iload XJ240.here hx rfl (hb hby at_240) rfl) ?_
              show Go p e below P (TJ240.setTop (mkF m 242 #[.val (.long q0), .second, .val (.long q2), .second, .val (.long q4), .second, .val (.int p6), .val (.int p7), .val (.int p8), .val (.int p9), .val (.int w10), .val (.int t11), .val (.int j12), .val (.int p9), .val (.int ws), .val (.int pr), .val (.int cl), .val (.int tr), .val (.int nn), .val (.ref b1), .val (.int r_6), .val (.int r_7), .val (.int r_12), .val (.int r_13), .unset, .unset, .unset, .unset, .unset, .unset, .unset, .unset, .unset, .unset] [(.int t11)]))
              refine Go.by (fun _ => XS.iconst XJ240.here hx rfl (hb hby at_242)) ?_
              show Go p e below P (TJ240.setTop (mkF m 243 #[.val (.long q0), .second, .val (.long q2), .second, .val (.long q4), .second, .val (.int p6), .val (.int p7), .val (.int p8), .val (.int p9), .val (.int w10), .val (.int t11), .val (.int j12), .val (.int p9), .val (.int ws), .val (.int pr), .val (.int cl), .val (.int tr), .val (.int nn), .val (.ref b1), .val (.int r_6), .val (.int r_7), .val (.int r_12), .val (.int r_13), .unset, .unset, .unset, .unset, .unset, .unset, .unset, .unset, .unset, .unset] [(.int (1 : Int32)), (.int t11)]))
              have J255 : ∀ (TJ255 : State) (lcJ255 : List Loc) (hJ255 : Heap) (XJ255 : Stand p l e room_1 s m #[(.long q0), (.long q2), (.long q4), (.int p6), (.int p7), (.int p8)] below meth c TJ255 lcJ255 1 60) (eJ255 : TJ255.heap = hJ255) (NJ255 : Fr n0 lcJ255) (bs10 : List Int32) (OJ255 : Old Z n0 hJ255) (ZJ255 : n0 ≤ hJ255.size) (FJ255_0 : Arv Z hJ255 b1 k1 .byte NB (bs10.map Value.int) (.int (0 : Int32))) (hl_bs10 : bs10.length = (oN + 16 + wN + 8 + 17 + tN + jN)) (HO10 : Mt (fun i => bs10.getD i 0) (oN) OPN) (HP10 : Mt (fun i => bs10.getD i 0) (oN + 16 + wN) PRM) (HC10 : Mt (fun i => bs10.getD i 0) (oN + 16 + wN + 8) CLO) (HA10 : Imp (0 < wN) (bs10.getD (oN + 16) 0 = r_6)) (HB10 : Imp (1 < wN) (bs10.getD (oN + 17) 0 = r_7)) (HT10 : Imp (0 < tN) (bs10.getD (oN + 16 + wN + 8 + 17) 0 = r_12)) (HU10 : Imp (1 < tN) (bs10.getD (oN + 16 + wN + 8 + 17 + 1) 0 = r_13)), Go p e below P (TJ255.setTop (mkF m 255 #[.val (.long q0), .second, .val (.long q2), .second, .val (.long q4), .second, .val (.int p6), .val (.int p7), .val (.int p8), .val (.int p9), .val (.int w10), .val (.int t11), .val (.int j12), .val (.int p9), .val (.int ws), .val (.int pr), .val (.int cl), .val (.int tr), .val (.int nn), .val (.ref b1), .val (.int r_6), .val (.int r_7), .val (.int r_12), .val (.int r_13), .unset, .unset, .unset, .unset, .unset, .unset, .unset, .unset, .unset, .unset] [])) := by
                intro TJ255 lcJ255 hJ255 XJ255 eJ255 NJ255 bs10 OJ255 ZJ255 FJ255_0 hl_bs10 HO10 HP10 HC10 HA10 HB10 HT10 HU10
                clear hl_bs9
                refine Go.by (fun _ => XS.iload XJ255.here hx rfl (hb hby at_255) rfl) ?_
                show Go p e below P (TJ255.setTop (mkF m 257 #[.val (.long q0), .second, .val (.long q2), .second, .val (.long q4), .second, .val (.int p6), .val (.int p7), .val (.int p8), .val (.int p9), .val (.int w10), .val (.int t11), .val (.int j12), .val (.int p9), .val (.int ws), .val (.int pr), .val (.int cl), .val (.int tr), .val (.int nn), .val (.ref b1), .val (.int r_6), .val (.int r_7), .val (.int r_12), .val (.int r_13), .unset, .unset, .unset, .unset, .unset, .unset, .unset, .unset, .unset, .unset] [(.int j12)]))
                have J271 : ∀ (TJ271 : State) (lcJ271 : List Loc) (hJ271 : Heap) (XJ271 : Stand p l e room_1 s m #[(.long q0), (.long q2), (.long q4), (.int p6), (.int p7), (.int p8)] below meth c TJ271 lcJ271 1 60) (eJ271 : TJ271.heap = hJ271) (NJ271 : Fr n0 lcJ271) (bs11 : List Int32) (OJ271 : Old Z n0 hJ271) (ZJ271 : n0 ≤ hJ271.size) (FJ271_0 : Arv Z hJ271 b1 k1 .byte NB (bs11.map Value.int) (.int (0 : Int32))) (hl_bs11 : bs11.length = (oN + 16 + wN + 8 + 17 + tN + jN)) (HO11 : Mt (fun i => bs11.getD i 0) (oN) OPN) (HP11 : Mt (fun i => bs11.getD i 0) (oN + 16 + wN) PRM) (HC11 : Mt (fun i => bs11.getD i 0) (oN + 16 + wN + 8) CLO) (HA11 : Imp (0 < wN) (bs11.getD (oN + 16) 0 = r_6)) (HB11 : Imp (1 < wN) (bs11.getD (oN + 17) 0 = r_7)) (HT11 : Imp (0 < tN) (bs11.getD (oN + 16 + wN + 8 + 17) 0 = r_12)) (HU11 : Imp (1 < tN) (bs11.getD (oN + 16 + wN + 8 + 17 + 1) 0 = r_13)), Go p e below P (TJ271.setTop (mkF m 271 #[.val (.long q0), .second, .val (.long q2), .second, .val (.long q4), .second, .val (.int p6), .val (.int p7), .val (.int p8), .val (.int p9), .val (.int w10), .val (.int t11), .val (.int j12), .val (.int p9), .val (.int ws), .val (.int pr), .val (.int cl), .val (.int tr), .val (.int nn), .val (.ref b1), .val (.int r_6), .val (.int r_7), .val (.int r_12), .val (.int r_13), .unset, .unset, .unset, .unset, .unset, .unset, .unset, .unset, .unset, .unset] [])) := by
                  intro TJ271 lcJ271 hJ271 XJ271 eJ271 NJ271 bs11 OJ271 ZJ271 FJ271_0 hl_bs11 HO11 HP11 HC11 HA11 HB11 HT11 HU11
                  clear hl_bs10
                  refine Go.by (fun _ => XS.iload XJ271.here hx rfl (hb hby at_271) rfl) ?_
                  show Go p e below P (TJ271.setTop (mkF m 273 #[.val (.long q0), .second, .val (.long q2), .second, .val (.long q4), .second, .val (.int p6), .val (.int p7), .val (.int p8), .val (.int p9), .val (.int w10), .val (.int t11), .val (.int j12), .val (.int p9), .val (.int ws), .val (.int pr), .val (.int cl), .val (.int tr), .val (.int nn), .val (.ref b1), .val (.int r_6), .val (.int r_7), .val (.int r_12), .val (.int r_13), .unset, .unset, .unset, .unset, .unset, .unset, .unset, .unset, .unset, .unset] [(.int j12)]))
                  refine Go.by (fun _ => XS.iconst XJ271.here hx rfl (hb hby at_273)) ?_
                  show Go p e below P (TJ271.setTop (mkF m 274 #[.val (.long q0), .second, .val (.long q2), .second, .val (.long q4), .second, .val (.int p6), .val (.int p7), .val (.int p8), .val (.int p9), .val (.int w10), .val (.int t11), .val (.int j12), .val (.int p9), .val (.int ws), .val (.int pr), .val (.int cl), .val (.int tr), .val (.int nn), .val (.ref b1), .val (.int r_6), .val (.int r_7), .val (.int r_12), .val (.int r_13), .unset, .unset, .unset, .unset, .unset, .unset, .unset, .unset, .unset, .unset] [(.int (1 : Int32)), (.int j12)]))
                  have J290 : ∀ (TJ290 : State) (lcJ290 : List Loc) (hJ290 : Heap) (XJ290 : Stand p l e room_1 s m #[(.long q0), (.long q2), (.long q4), (.int p6), (.int p7), (.int p8)] below meth c TJ290 lcJ290 1 60) (eJ290 : TJ290.heap = hJ290) (NJ290 : Fr n0 lcJ290) (bs12 : List Int32) (OJ290 : Old Z n0 hJ290) (ZJ290 : n0 ≤ hJ290.size) (FJ290_0 : Arv Z hJ290 b1 k1 .byte NB (bs12.map Value.int) (.int (0 : Int32))) (hl_bs12 : bs12.length = (oN + 16 + wN + 8 + 17 + tN + jN)) (HO12 : Mt (fun i => bs12.getD i 0) (oN) OPN) (HP12 : Mt (fun i => bs12.getD i 0) (oN + 16 + wN) PRM) (HC12 : Mt (fun i => bs12.getD i 0) (oN + 16 + wN + 8) CLO) (HA12 : Imp (0 < wN) (bs12.getD (oN + 16) 0 = r_6)) (HB12 : Imp (1 < wN) (bs12.getD (oN + 17) 0 = r_7)) (HT12 : Imp (0 < tN) (bs12.getD (oN + 16 + wN + 8 + 17) 0 = r_12)) (HU12 : Imp (1 < tN) (bs12.getD (oN + 16 + wN + 8 + 17 + 1) 0 = r_13)), Go p e below P (TJ290.setTop (mkF m 290 #[.val (.long q0), .second, .val (.long q2), .second, .val (.long q4), .second, .val (.int p6), .val (.int p7), .val (.int p8), .val (.int p9), .val (.int w10), .val (.int t11), .val (.int j12), .val (.int p9), .val (.int ws), .val (.int pr), .val (.int cl), .val (.int tr), .val (.int nn), .val (.ref b1), .val (.int r_6), .val (.int r_7), .val (.int r_12), .val (.int r_13), .unset, .unset, .unset, .unset, .unset, .unset, .unset, .unset, .unset, .unset] [])) := by
                    intro TJ290 lcJ290 hJ290 XJ290 eJ290 NJ290 bs12 OJ290 ZJ290 FJ290_0 hl_bs12 HO12 HP12 HC12 HA12 HB12 HT12 HU12
                    clear hl_bs11
                    refine Go.by (fun _ => XS.iload XJ290.here hx rfl (hb hby at_290) rfl) ?_
                    show Go p e below P (TJ290.setTop (mkF m 292 #[.val (.long q0), .second, .val (.long q2), .second, .val (.long q4), .second, .val (.int p6), .val (.int p7), .val (.int p8), .val (.int p9), .val (.int w10), .val (.int t11), .val (.int j12), .val (.int p9), .val (.int ws), .val (.int pr), .val (.int cl), .val (.int tr), .val (.int nn), .val (.ref b1), .val (.int r_6), .val (.int r_7), .val (.int r_12), .val (.int r_13), .unset, .unset, .unset, .unset, .unset, .unset, .unset, .unset, .unset, .unset] [(.int p6)]))
                    refine Go.by (fun _ => XS.iconst XJ290.here hx rfl (hb hby at_292)) ?_
                    show Go p e below P (TJ290.setTop (mkF m 293 #[.val (.long q0), .second, .val (.long q2), .second, .val (.long q4), .second, .val (.int p6), .val (.int p7), .val (.int p8), .val (.int p9), .val (.int w10), .val (.int t11), .val (.int j12), .val (.int p9), .val (.int ws), .val (.int pr), .val (.int cl), .val (.int tr), .val (.int nn), .val (.ref b1), .val (.int r_6), .val (.int r_7), .val (.int r_12), .val (.int r_13), .unset, .unset, .unset, .unset, .unset, .unset, .unset, .unset, .unset, .unset] [(.int (3 : Int32)), (.int p6)]))
                    refine Go.by (fun _ => XS.iand XJ290.here hx rfl (hb hby at_293) rfl) ?_
                    show Go p e below P (TJ290.setTop (mkF m 294 #[.val (.long q0), .second, .val (.long q2), .second, .val (.long q4), .second, .val (.int p6), .val (.int p7), .val (.int p8), .val (.int p9), .val (.int w10), .val (.int t11), .val (.int j12), .val (.int p9), .val (.int ws), .val (.int pr), .val (.int cl), .val (.int tr), .val (.int nn), .val (.ref b1), .val (.int r_6), .val (.int r_7), .val (.int r_12), .val (.int r_13), .unset, .unset, .unset, .unset, .unset, .unset, .unset, .unset, .unset, .unset] [(.int (p6 &&& (3 : Int32)))]))
                    generalize hv_pc24 : (p6 &&& (3 : Int32)) = pc24
                    refine Go.by (fun _ => XS.istore XJ290.here hx rfl (g := (mkF m 294 #[.val (.long q0), .second, .val (.long q2), .second, .val (.long q4), .second, .val (.int p6), .val (.int p7), .val (.int p8), .val (.int p9), .val (.int w10), .val (.int t11), .val (.int j12), .val (.int p9), .val (.int ws), .val (.int pr), .val (.int cl), .val (.int tr), .val (.int nn), .val (.ref b1), .val (.int r_6), .val (.int r_7), .val (.int r_12), .val (.int r_13), .unset, .unset, .unset, .unset, .unset, .unset, .unset, .unset, .unset, .unset] [(.int pc24)])) (hb hby at_294) rfl (l' := #[.val (.long q0), .second, .val (.long q2), .second, .val (.long q4), .second, .val (.int p6), .val (.int p7), .val (.int p8), .val (.int p9), .val (.int w10), .val (.int t11), .val (.int j12), .val (.int p9), .val (.int ws), .val (.int pr), .val (.int cl), .val (.int tr), .val (.int nn), .val (.ref b1), .val (.int r_6), .val (.int r_7), .val (.int r_12), .val (.int r_13), .val (.int pc24), .unset, .unset, .unset, .unset, .unset, .unset, .unset, .unset, .unset]) rfl) ?_
                    show Go p e below P (TJ290.setTop (mkF m 296 #[.val (.long q0), .second, .val (.long q2), .second, .val (.long q4), .second, .val (.int p6), .val (.int p7), .val (.int p8), .val (.int p9), .val (.int w10), .val (.int t11), .val (.int j12), .val (.int p9), .val (.int ws), .val (.int pr), .val (.int cl), .val (.int tr), .val (.int nn), .val (.ref b1), .val (.int r_6), .val (.int r_7), .val (.int r_12), .val (.int r_13), .val (.int pc24), .unset, .unset, .unset, .unset, .unset, .unset, .unset, .unset, .unset] []))
                    refine Go.by (fun _ => XS.iload XJ290.here hx rfl (hb hby at_296) rfl) ?_
                    show Go p e below P (TJ290.setTop (mkF m 298 #[.val (.long q0), .second, .val (.long q2), .second, .val (.long q4), .second, .val (.int p6), .val (.int p7), .val (.int p8), .val (.int p9), .val (.int w10), .val (.int t11), .val (.int j12), .val (.int p9), .val (.int ws), .val (.int pr), .val (.int cl), .val (.int tr), .val (.int nn), .val (.ref b1), .val (.int r_6), .val (.int r_7), .val (.int r_12), .val (.int r_13), .val (.int pc24), .unset, .unset, .unset, .unset, .unset, .unset, .unset, .unset, .unset] [(.int p6)]))
                    refine Go.by (fun _ => XS.iconst XJ290.here hx rfl (hb hby at_298)) ?_
                    show Go p e below P (TJ290.setTop (mkF m 299 #[.val (.long q0), .second, .val (.long q2), .second, .val (.long q4), .second, .val (.int p6), .val (.int p7), .val (.int p8), .val (.int p9), .val (.int w10), .val (.int t11), .val (.int j12), .val (.int p9), .val (.int ws), .val (.int pr), .val (.int cl), .val (.int tr), .val (.int nn), .val (.ref b1), .val (.int r_6), .val (.int r_7), .val (.int r_12), .val (.int r_13), .val (.int pc24), .unset, .unset, .unset, .unset, .unset, .unset, .unset, .unset, .unset] [(.int (2 : Int32)), (.int p6)]))
                    refine Go.by (fun _ => XS.iushr XJ290.here hx rfl (hb hby at_299) rfl) ?_
                    show Go p e below P (TJ290.setTop (mkF m 300 #[.val (.long q0), .second, .val (.long q2), .second, .val (.long q4), .second, .val (.int p6), .val (.int p7), .val (.int p8), .val (.int p9), .val (.int w10), .val (.int t11), .val (.int j12), .val (.int p9), .val (.int ws), .val (.int pr), .val (.int cl), .val (.int tr), .val (.int nn), .val (.ref b1), .val (.int r_6), .val (.int r_7), .val (.int r_12), .val (.int r_13), .val (.int pc24), .unset, .unset, .unset, .unset, .unset, .unset, .unset, .unset, .unset] [(.int (((p6).toUInt32 >>> ((2 : Int32) &&& 31).toUInt32).toInt32))]))
                    refine Go.by (fun _ => XS.sipush XJ290.here hx rfl (hb hby at_300)) ?_
                    show Go p e below P (TJ290.setTop (mkF m 303 #[.val (.long q0), .second, .val (.long q2), .second, .val (.long q4), .second, .val (.int p6), .val (.int p7), .val (.int p8), .val (.int p9), .val (.int w10), .val (.int t11), .val (.int j12), .val (.int p9), .val (.int ws), .val (.int pr), .val (.int cl), .val (.int tr), .val (.int nn), .val (.ref b1), .val (.int r_6), .val (.int r_7), .val (.int r_12), .val (.int r_13), .val (.int pc24), .unset, .unset, .unset, .unset, .unset, .unset, .unset, .unset, .unset] [(.int (255 : Int32)), (.int (((p6).toUInt32 >>> ((2 : Int32) &&& 31).toUInt32).toInt32))]))
                    refine Go.by (fun _ => XS.iand XJ290.here hx rfl (hb hby at_303) rfl) ?_
                    show Go p e below P (TJ290.setTop (mkF m 304 #[.val (.long q0), .second, .val (.long q2), .second, .val (.long q4), .second, .val (.int p6), .val (.int p7), .val (.int p8), .val (.int p9), .val (.int w10), .val (.int t11), .val (.int j12), .val (.int p9), .val (.int ws), .val (.int pr), .val (.int cl), .val (.int tr), .val (.int nn), .val (.ref b1), .val (.int r_6), .val (.int r_7), .val (.int r_12), .val (.int r_13), .val (.int pc24), .unset, .unset, .unset, .unset, .unset, .unset, .unset, .unset, .unset] [(.int ((((p6).toUInt32 >>> ((2 : Int32) &&& 31).toUInt32).toInt32) &&& (255 : Int32)))]))
                    generalize hv_ps : ((((p6).toUInt32 >>> ((2 : Int32) &&& 31).toUInt32).toInt32) &&& (255 : Int32)) = ps
                    refine Go.by (fun _ => XS.istore XJ290.here hx rfl (g := (mkF m 304 #[.val (.long q0), .second, .val (.long q2), .second, .val (.long q4), .second, .val (.int p6), .val (.int p7), .val (.int p8), .val (.int p9), .val (.int w10), .val (.int t11), .val (.int j12), .val (.int p9), .val (.int ws), .val (.int pr), .val (.int cl), .val (.int tr), .val (.int nn), .val (.ref b1), .val (.int r_6), .val (.int r_7), .val (.int r_12), .val (.int r_13), .val (.int pc24), .unset, .unset, .unset, .unset, .unset, .unset, .unset, .unset, .unset] [(.int ps)])) (hb hby at_304) rfl (l' := #[.val (.long q0), .second, .val (.long q2), .second, .val (.long q4), .second, .val (.int p6), .val (.int p7), .val (.int p8), .val (.int p9), .val (.int w10), .val (.int t11), .val (.int j12), .val (.int p9), .val (.int ws), .val (.int pr), .val (.int cl), .val (.int tr), .val (.int nn), .val (.ref b1), .val (.int r_6), .val (.int r_7), .val (.int r_12), .val (.int r_13), .val (.int pc24), .val (.int ps), .unset, .unset, .unset, .unset, .unset, .unset, .unset, .unset]) rfl) ?_
                    show Go p e below P (TJ290.setTop (mkF m 306 #[.val (.long q0), .second, .val (.long q2), .second, .val (.long q4), .second, .val (.int p6), .val (.int p7), .val (.int p8), .val (.int p9), .val (.int w10), .val (.int t11), .val (.int j12), .val (.int p9), .val (.int ws), .val (.int pr), .val (.int cl), .val (.int tr), .val (.int nn), .val (.ref b1), .val (.int r_6), .val (.int r_7), .val (.int r_12), .val (.int r_13), .val (.int pc24), .val (.int ps), .unset, .unset, .unset, .unset, .unset, .unset, .unset, .unset] []))
                    refine Go.by (fun _ => XS.iload XJ290.here hx rfl (hb hby at_306) rfl) ?_
                    show Go p e below P (TJ290.setTop (mkF m 308 #[.val (.long q0), .second, .val (.long q2), .second, .val (.long q4), .second, .val (.int p6), .val (.int p7), .val (.int p8), .val (.int p9), .val (.int w10), .val (.int t11), .val (.int j12), .val (.int p9), .val (.int ws), .val (.int pr), .val (.int cl), .val (.int tr), .val (.int nn), .val (.ref b1), .val (.int r_6), .val (.int r_7), .val (.int r_12), .val (.int r_13), .val (.int pc24), .val (.int ps), .unset, .unset, .unset, .unset, .unset, .unset, .unset, .unset] [(.int p6)]))
                    refine Go.by (fun _ => XS.bipush XJ290.here hx rfl (hb hby at_308)) ?_
                    show Go p e below P (TJ290.setTop (mkF m 310 #[.val (.long q0), .second, .val (.long q2), .second, .val (.long q4), .second, .val (.int p6), .val (.int p7), .val (.int p8), .val (.int p9), .val (.int w10), .val (.int t11), .val (.int j12), .val (.int p9), .val (.int ws), .val (.int pr), .val (.int cl), .val (.int tr), .val (.int nn), .val (.ref b1), .val (.int r_6), .val (.int r_7), .val (.int r_12), .val (.int r_13), .val (.int pc24), .val (.int ps), .unset, .unset, .unset, .unset, .unset, .unset, .unset, .unset] [(.int (16 : Int32)), (.int p6)]))
                    refine Go.by (fun _ => XS.iushr XJ290.here hx rfl (hb hby at_310) rfl) ?_
                    show Go p e below P (TJ290.setTop (mkF m 311 #[.val (.long q0), .second, .val (.long q2), .second, .val (.long q4), .second, .val (.int p6), .val (.int p7), .val (.int p8), .val (.int p9), .val (.int w10), .val (.int t11), .val (.int j12), .val (.int p9), .val (.int ws), .val (.int pr), .val (.int cl), .val (.int tr), .val (.int nn), .val (.ref b1), .val (.int r_6), .val (.int r_7), .val (.int r_12), .val (.int r_13), .val (.int pc24), .val (.int ps), .unset, .unset, .unset, .unset, .unset, .unset, .unset, .unset] [(.int (((p6).toUInt32 >>> ((16 : Int32) &&& 31).toUInt32).toInt32))]))
                    refine Go.by (fun _ => XS.i2b XJ290.here hx rfl (hb hby at_311) rfl) ?_
                    show Go p e below P (TJ290.setTop (mkF m 312 #[.val (.long q0), .second, .val (.long q2), .second, .val (.long q4), .second, .val (.int p6), .val (.int p7), .val (.int p8), .val (.int p9), .val (.int w10), .val (.int t11), .val (.int j12), .val (.int p9), .val (.int ws), .val (.int pr), .val (.int cl), .val (.int tr), .val (.int nn), .val (.ref b1), .val (.int r_6), .val (.int r_7), .val (.int r_12), .val (.int r_13), .val (.int pc24), .val (.int ps), .unset, .unset, .unset, .unset, .unset, .unset, .unset, .unset] [(.int (((((p6).toUInt32 >>> ((16 : Int32) &&& 31).toUInt32).toInt32)).toInt8.toInt32))]))
                    generalize hv_vb : (((((p6).toUInt32 >>> ((16 : Int32) &&& 31).toUInt32).toInt32)).toInt8.toInt32) = vb
                    refine Go.by (fun _ => XS.istore XJ290.here hx rfl (g := (mkF m 312 #[.val (.long q0), .second, .val (.long q2), .second, .val (.long q4), .second, .val (.int p6), .val (.int p7), .val (.int p8), .val (.int p9), .val (.int w10), .val (.int t11), .val (.int j12), .val (.int p9), .val (.int ws), .val (.int pr), .val (.int cl), .val (.int tr), .val (.int nn), .val (.ref b1), .val (.int r_6), .val (.int r_7), .val (.int r_12), .val (.int r_13), .val (.int pc24), .val (.int ps), .unset, .unset, .unset, .unset, .unset, .unset, .unset, .unset] [(.int vb)])) (hb hby at_312) rfl (l' := #[.val (.long q0), .second, .val (.long q2), .second, .val (.long q4), .second, .val (.int p6), .val (.int p7), .val (.int p8), .val (.int p9), .val (.int w10), .val (.int t11), .val (.int j12), .val (.int p9), .val (.int ws), .val (.int pr), .val (.int cl), .val (.int tr), .val (.int nn), .val (.ref b1), .val (.int r_6), .val (.int r_7), .val (.int r_12), .val (.int r_13), .val (.int pc24), .val (.int ps), .val (.int vb), .unset, .unset, .unset, .unset, .unset, .unset, .unset]) rfl) ?_
                    show Go p e below P (TJ290.setTop (mkF m 314 #[.val (.long q0), .second, .val (.long q2), .second, .val (.long q4), .second, .val (.int p6), .val (.int p7), .val (.int p8), .val (.int p9), .val (.int w10), .val (.int t11), .val (.int j12), .val (.int p9), .val (.int ws), .val (.int pr), .val (.int cl), .val (.int tr), .val (.int nn), .val (.ref b1), .val (.int r_6), .val (.int r_7), .val (.int r_12), .val (.int r_13), .val (.int pc24), .val (.int ps), .val (.int vb), .unset, .unset, .unset, .unset, .unset, .unset, .unset] []))
                    refine Go.by (fun _ => XS.iconst XJ290.here hx rfl (hb hby at_314)) ?_
                    show Go p e below P (TJ290.setTop (mkF m 315 #[.val (.long q0), .second, .val (.long q2), .second, .val (.long q4), .second, .val (.int p6), .val (.int p7), .val (.int p8), .val (.int p9), .val (.int w10), .val (.int t11), .val (.int j12), .val (.int p9), .val (.int ws), .val (.int pr), .val (.int cl), .val (.int tr), .val (.int nn), .val (.ref b1), .val (.int r_6), .val (.int r_7), .val (.int r_12), .val (.int r_13), .val (.int pc24), .val (.int ps), .val (.int vb), .unset, .unset, .unset, .unset, .unset, .unset, .unset] [(.int (-1 : Int32))]))
                    refine Go.by (fun _ => XS.istore XJ290.here hx rfl (g := (mkF m 315 #[.val (.long q0), .second, .val (.long q2), .second, .val (.long q4), .second, .val (.int p6), .val (.int p7), .val (.int p8), .val (.int p9), .val (.int w10), .val (.int t11), .val (.int j12), .val (.int p9), .val (.int ws), .val (.int pr), .val (.int cl), .val (.int tr), .val (.int nn), .val (.ref b1), .val (.int r_6), .val (.int r_7), .val (.int r_12), .val (.int r_13), .val (.int pc24), .val (.int ps), .val (.int vb), .unset, .unset, .unset, .unset, .unset, .unset, .unset] [(.int (-1 : Int32))])) (hb hby at_315) rfl (l' := #[.val (.long q0), .second, .val (.long q2), .second, .val (.long q4), .second, .val (.int p6), .val (.int p7), .val (.int p8), .val (.int p9), .val (.int w10), .val (.int t11), .val (.int j12), .val (.int p9), .val (.int ws), .val (.int pr), .val (.int cl), .val (.int tr), .val (.int nn), .val (.ref b1), .val (.int r_6), .val (.int r_7), .val (.int r_12), .val (.int r_13), .val (.int pc24), .val (.int ps), .val (.int vb), .val (.int (-1 : Int32)), .unset, .unset, .unset, .unset, .unset, .unset]) rfl) ?_
                    show Go p e below P (TJ290.setTop (mkF m 317 #[.val (.long q0), .second, .val (.long q2), .second, .val (.long q4), .second, .val (.int p6), .val (.int p7), .val (.int p8), .val (.int p9), .val (.int w10), .val (.int t11), .val (.int j12), .val (.int p9), .val (.int ws), .val (.int pr), .val (.int cl), .val (.int tr), .val (.int nn), .val (.ref b1), .val (.int r_6), .val (.int r_7), .val (.int r_12), .val (.int r_13), .val (.int pc24), .val (.int ps), .val (.int vb), .val (.int (-1 : Int32)), .unset, .unset, .unset, .unset, .unset, .unset] []))
                    have hvb : nar .byte vb = vb := by rw [← hv_vb]; exact own_narb _
                    have hps : Hid (0 ≤ ps.toInt) := by rw [← hv_ps]; exact (c_and _ 255 (by decide)).1
                    show Go p e below P (TJ290.setTop (mkF m 317 #[.val (.long q0), .second, .val (.long q2), .second, .val (.long q4), .second, .val (.int p6), .val (.int p7), .val (.int p8), .val (.int p9), .val (.int w10), .val (.int t11), .val (.int j12), .val (.int p9), .val (.int ws), .val (.int pr), .val (.int cl), .val (.int tr), .val (.int nn), .val (.ref b1), .val (.int r_6), .val (.int r_7), .val (.int r_12), .val (.int r_13), .val (.int pc24), .val (.int ps), .val (.int vb), .val (.int (-1 : Int32)), .unset, .unset, .unset, .unset, .unset, .unset] []))
                    have J371 : ∀ (at_ : Int32) (hat : Hid (at_.toInt = -1 ∨ (∃ m : Nat, at_.toInt = ((m : Nat) : Int) ∧ ((oN ≤ m ∧ m < oN + 16) ∨ (oN + 16 + wN ≤ m ∧ m < oN + 16 + wN + 8) ∨ (oN + 16 + wN + 8 ≤ m ∧ m < oN + 16 + wN + 8 + 17))))), Go p e below P (TJ290.setTop (mkF m 371 #[.val (.long q0), .second, .val (.long q2), .second, .val (.long q4), .second, .val (.int p6), .val (.int p7), .val (.int p8), .val (.int p9), .val (.int w10), .val (.int t11), .val (.int j12), .val (.int p9), .val (.int ws), .val (.int pr), .val (.int cl), .val (.int tr), .val (.int nn), .val (.ref b1), .val (.int r_6), .val (.int r_7), .val (.int r_12), .val (.int r_13), .val (.int pc24), .val (.int ps), .val (.int vb), .val (.int at_), .unset, .unset, .unset, .unset, .unset, .unset] [])) := by
                      intro at_ hat
                      refine Go.by (fun _ => XS.iconst XJ290.here hx rfl (hb hby at_371)) ?_
                      show Go p e below P (TJ290.setTop (mkF m 372 #[.val (.long q0), .second, .val (.long q2), .second, .val (.long q4), .second, .val (.int p6), .val (.int p7), .val (.int p8), .val (.int p9), .val (.int w10), .val (.int t11), .val (.int j12), .val (.int p9), .val (.int ws), .val (.int pr), .val (.int cl), .val (.int tr), .val (.int nn), .val (.ref b1), .val (.int r_6), .val (.int r_7), .val (.int r_12), .val (.int r_13), .val (.int pc24), .val (.int ps), .val (.int vb), .val (.int at_), .unset, .unset, .unset, .unset, .unset, .unset] [(.int (1 : Int32))]))
                      refine Go.by (fun _ => XS.istore XJ290.here hx rfl (g := (mkF m 372 #[.val (.long q0), .second, .val (.long q2), .second, .val (.long q4), .second, .val (.int p6), .val (.int p7), .val (.int p8), .val (.int p9), .val (.int w10), .val (.int t11), .val (.int j12), .val (.int p9), .val (.int ws), .val (.int pr), .val (.int cl), .val (.int tr), .val (.int nn), .val (.ref b1), .val (.int r_6), .val (.int r_7), .val (.int r_12), .val (.int r_13), .val (.int pc24), .val (.int ps), .val (.int vb), .val (.int at_), .unset, .unset, .unset, .unset, .unset, .unset] [(.int (1 : Int32))])) (hb hby at_372) rfl (l' := #[.val (.long q0), .second, .val (.long q2), .second, .val (.long q4), .second, .val (.int p6), .val (.int p7), .val (.int p8), .val (.int p9), .val (.int w10), .val (.int t11), .val (.int j12), .val (.int p9), .val (.int ws), .val (.int pr), .val (.int cl), .val (.int tr), .val (.int nn), .val (.ref b1), .val (.int r_6), .val (.int r_7), .val (.int r_12), .val (.int r_13), .val (.int pc24), .val (.int ps), .val (.int vb), .val (.int at_), .val (.int (1 : Int32)), .unset, .unset, .unset, .unset, .unset]) rfl) ?_
                      show Go p e below P (TJ290.setTop (mkF m 374 #[.val (.long q0), .second, .val (.long q2), .second, .val (.long q4), .second, .val (.int p6), .val (.int p7), .val (.int p8), .val (.int p9), .val (.int w10), .val (.int t11), .val (.int j12), .val (.int p9), .val (.int ws), .val (.int pr), .val (.int cl), .val (.int tr), .val (.int nn), .val (.ref b1), .val (.int r_6), .val (.int r_7), .val (.int r_12), .val (.int r_13), .val (.int pc24), .val (.int ps), .val (.int vb), .val (.int at_), .val (.int (1 : Int32)), .unset, .unset, .unset, .unset, .unset] []))
                      have J403 : ∀ (TJ403 : State) (lcJ403 : List Loc) (hJ403 : Heap) (XJ403 : Stand p l e room_1 s m #[(.long q0), (.long q2), (.long q4), (.int p6), (.int p7), (.int p8)] below meth c TJ403 lcJ403 1 60) (eJ403 : TJ403.heap = hJ403) (NJ403 : Fr n0 lcJ403) (e28 : Int32) (bs13 : List Int32) (mu : Nat) (OJ403 : Old Z n0 hJ403) (ZJ403 : n0 ≤ hJ403.size) (FJ403_0 : Arv Z hJ403 b1 k1 .byte NB (bs13.map Value.int) (.int (0 : Int32))) (hl_bs13 : bs13.length = (oN + 16 + wN + 8 + 17 + tN + jN)) (hmu : ∀ i, i ≠ mu → bs13.getD i 0 = bs12.getD i 0) (h28 : Hid ((e28 = 1 ∧ ∀ i, bs13.getD i 0 = bs12.getD i 0) ∨ (e28 = 0 ∧ ((oN ≤ mu ∧ mu < oN + 16) ∨ (oN + 16 + wN ≤ mu ∧ mu < oN + 16 + wN + 8) ∨ (oN + 16 + wN + 8 ≤ mu ∧ mu < oN + 16 + wN + 8 + 17)) ∧ ¬ bs13.getD mu 0 = bs12.getD mu 0))), Go p e below P (TJ403.setTop (mkF m 403 #[.val (.long q0), .second, .val (.long q2), .second, .val (.long q4), .second, .val (.int p6), .val (.int p7), .val (.int p8), .val (.int p9), .val (.int w10), .val (.int t11), .val (.int j12), .val (.int p9), .val (.int ws), .val (.int pr), .val (.int cl), .val (.int tr), .val (.int nn), .val (.ref b1), .val (.int r_6), .val (.int r_7), .val (.int r_12), .val (.int r_13), .val (.int pc24), .val (.int ps), .val (.int vb), .val (.int at_), .val (.int e28), .unset, .unset, .unset, .unset, .unset] [])) := by
                        intro TJ403 lcJ403 hJ403 XJ403 eJ403 NJ403 e28 bs13 mu OJ403 ZJ403 FJ403_0 hl_bs13 hmu h28
                        clear hl_bs12
                        refine Go.by (fun _ => XS.iload XJ403.here hx rfl (hb hby at_403) rfl) ?_
                        show Go p e below P (TJ403.setTop (mkF m 405 #[.val (.long q0), .second, .val (.long q2), .second, .val (.long q4), .second, .val (.int p6), .val (.int p7), .val (.int p8), .val (.int p9), .val (.int w10), .val (.int t11), .val (.int j12), .val (.int p9), .val (.int ws), .val (.int pr), .val (.int cl), .val (.int tr), .val (.int nn), .val (.ref b1), .val (.int r_6), .val (.int r_7), .val (.int r_12), .val (.int r_13), .val (.int pc24), .val (.int ps), .val (.int vb), .val (.int at_), .val (.int e28), .unset, .unset, .unset, .unset, .unset] [(.int p7)]))
                        refine Go.by (fun _ => XS.iconst XJ403.here hx rfl (hb hby at_405)) ?_
                        show Go p e below P (TJ403.setTop (mkF m 406 #[.val (.long q0), .second, .val (.long q2), .second, .val (.long q4), .second, .val (.int p6), .val (.int p7), .val (.int p8), .val (.int p9), .val (.int w10), .val (.int t11), .val (.int j12), .val (.int p9), .val (.int ws), .val (.int pr), .val (.int cl), .val (.int tr), .val (.int nn), .val (.ref b1), .val (.int r_6), .val (.int r_7), .val (.int r_12), .val (.int r_13), .val (.int pc24), .val (.int ps), .val (.int vb), .val (.int at_), .val (.int e28), .unset, .unset, .unset, .unset, .unset] [(.int (1 : Int32)), (.int p7)]))
                        refine Go.by (fun _ => XS.iand XJ403.here hx rfl (hb hby at_406) rfl) ?_
                        show Go p e below P (TJ403.setTop (mkF m 407 #[.val (.long q0), .second, .val (.long q2), .second, .val (.long q4), .second, .val (.int p6), .val (.int p7), .val (.int p8), .val (.int p9), .val (.int w10), .val (.int t11), .val (.int j12), .val (.int p9), .val (.int ws), .val (.int pr), .val (.int cl), .val (.int tr), .val (.int nn), .val (.ref b1), .val (.int r_6), .val (.int r_7), .val (.int r_12), .val (.int r_13), .val (.int pc24), .val (.int ps), .val (.int vb), .val (.int at_), .val (.int e28), .unset, .unset, .unset, .unset, .unset] [(.int (p7 &&& (1 : Int32)))]))
                        have J432 : ∀ (c29 : Int32) (hc29 : Hid (0 ≤ c29.toInt ∧ c29.toInt ≤ ((oN + 16 + wN + 8 + 17 + tN : Nat) : Int))), Go p e below P (TJ403.setTop (mkF m 432 #[.val (.long q0), .second, .val (.long q2), .second, .val (.long q4), .second, .val (.int p6), .val (.int p7), .val (.int p8), .val (.int p9), .val (.int w10), .val (.int t11), .val (.int j12), .val (.int p9), .val (.int ws), .val (.int pr), .val (.int cl), .val (.int tr), .val (.int nn), .val (.ref b1), .val (.int r_6), .val (.int r_7), .val (.int r_12), .val (.int r_13), .val (.int pc24), .val (.int ps), .val (.int vb), .val (.int at_), .val (.int e28), .val (.int c29), .unset, .unset, .unset, .unset] [])) := by
                          intro c29 hc29
                          refine Go.by (fun _ => XS.iload XJ403.here hx rfl (hb hby at_432) rfl) ?_
                          show Go p e below P (TJ403.setTop (mkF m 434 #[.val (.long q0), .second, .val (.long q2), .second, .val (.long q4), .second, .val (.int p6), .val (.int p7), .val (.int p8), .val (.int p9), .val (.int w10), .val (.int t11), .val (.int j12), .val (.int p9), .val (.int ws), .val (.int pr), .val (.int cl), .val (.int tr), .val (.int nn), .val (.ref b1), .val (.int r_6), .val (.int r_7), .val (.int r_12), .val (.int r_13), .val (.int pc24), .val (.int ps), .val (.int vb), .val (.int at_), .val (.int e28), .val (.int c29), .unset, .unset, .unset, .unset] [(.int nn)]))
                          refine Go.by (fun _ => XS.iload XJ403.here hx rfl (hb hby at_434) rfl) ?_
                          show Go p e below P (TJ403.setTop (mkF m 436 #[.val (.long q0), .second, .val (.long q2), .second, .val (.long q4), .second, .val (.int p6), .val (.int p7), .val (.int p8), .val (.int p9), .val (.int w10), .val (.int t11), .val (.int j12), .val (.int p9), .val (.int ws), .val (.int pr), .val (.int cl), .val (.int tr), .val (.int nn), .val (.ref b1), .val (.int r_6), .val (.int r_7), .val (.int r_12), .val (.int r_13), .val (.int pc24), .val (.int ps), .val (.int vb), .val (.int at_), .val (.int e28), .val (.int c29), .unset, .unset, .unset, .unset] [(.int c29), (.int nn)]))
                          refine Go.by (fun _ => XS.isub XJ403.here hx rfl (hb hby at_436) rfl) ?_
                          show Go p e below P (TJ403.setTop (mkF m 437 #[.val (.long q0), .second, .val (.long q2), .second, .val (.long q4), .second, .val (.int p6), .val (.int p7), .val (.int p8), .val (.int p9), .val (.int w10), .val (.int t11), .val (.int j12), .val (.int p9), .val (.int ws), .val (.int pr), .val (.int cl), .val (.int tr), .val (.int nn), .val (.ref b1), .val (.int r_6), .val (.int r_7), .val (.int r_12), .val (.int r_13), .val (.int pc24), .val (.int ps), .val (.int vb), .val (.int at_), .val (.int e28), .val (.int c29), .unset, .unset, .unset, .unset] [(.int (nn - c29))]))
                          generalize hv_ln : (nn - c29) = ln
                          refine Go.by (fun _ => XS.istore XJ403.here hx rfl (g := (mkF m 437 #[.val (.long q0), .second, .val (.long q2), .second, .val (.long q4), .second, .val (.int p6), .val (.int p7), .val (.int p8), .val (.int p9), .val (.int w10), .val (.int t11), .val (.int j12), .val (.int p9), .val (.int ws), .val (.int pr), .val (.int cl), .val (.int tr), .val (.int nn), .val (.ref b1), .val (.int r_6), .val (.int r_7), .val (.int r_12), .val (.int r_13), .val (.int pc24), .val (.int ps), .val (.int vb), .val (.int at_), .val (.int e28), .val (.int c29), .unset, .unset, .unset, .unset] [(.int ln)])) (hb hby at_437) rfl (l' := #[.val (.long q0), .second, .val (.long q2), .second, .val (.long q4), .second, .val (.int p6), .val (.int p7), .val (.int p8), .val (.int p9), .val (.int w10), .val (.int t11), .val (.int j12), .val (.int p9), .val (.int ws), .val (.int pr), .val (.int cl), .val (.int tr), .val (.int nn), .val (.ref b1), .val (.int r_6), .val (.int r_7), .val (.int r_12), .val (.int r_13), .val (.int pc24), .val (.int ps), .val (.int vb), .val (.int at_), .val (.int e28), .val (.int c29), .val (.int ln), .unset, .unset, .unset]) rfl) ?_
                          show Go p e below P (TJ403.setTop (mkF m 439 #[.val (.long q0), .second, .val (.long q2), .second, .val (.long q4), .second, .val (.int p6), .val (.int p7), .val (.int p8), .val (.int p9), .val (.int w10), .val (.int t11), .val (.int j12), .val (.int p9), .val (.int ws), .val (.int pr), .val (.int cl), .val (.int tr), .val (.int nn), .val (.ref b1), .val (.int r_6), .val (.int r_7), .val (.int r_12), .val (.int r_13), .val (.int pc24), .val (.int ps), .val (.int vb), .val (.int at_), .val (.int e28), .val (.int c29), .val (.int ln), .unset, .unset, .unset] []))
                          obtain ⟨lenN, hln, hlb⟩ : ∃ k : Nat, Tn ln k ∧ k ≤ oN + 16 + wN + 8 + 17 + tN := by rw [← hv_ln]; exact own_tsub hnn hc29 (by omega)
                          show Go p e below P (TJ403.setTop (mkF m 439 #[.val (.long q0), .second, .val (.long q2), .second, .val (.long q4), .second, .val (.int p6), .val (.int p7), .val (.int p8), .val (.int p9), .val (.int w10), .val (.int t11), .val (.int j12), .val (.int p9), .val (.int ws), .val (.int pr), .val (.int cl), .val (.int tr), .val (.int nn), .val (.ref b1), .val (.int r_6), .val (.int r_7), .val (.int r_12), .val (.int r_13), .val (.int pc24), .val (.int ps), .val (.int vb), .val (.int at_), .val (.int e28), .val (.int c29), .val (.int ln), .unset, .unset, .unset] []))
                          have htr1 : Tn (tr + (1 : Int32)) (oN + 16 + wN + 8 + 17 + 1) := own_tadd htr own_t1 (by omega) (by decide)
                          show Go p e below P (TJ403.setTop (mkF m 439 #[.val (.long q0), .second, .val (.long q2), .second, .val (.long q4), .second, .val (.int p6), .val (.int p7), .val (.int p8), .val (.int p9), .val (.int w10), .val (.int t11), .val (.int j12), .val (.int p9), .val (.int ws), .val (.int pr), .val (.int cl), .val (.int tr), .val (.int nn), .val (.ref b1), .val (.int r_6), .val (.int r_7), .val (.int r_12), .val (.int r_13), .val (.int pc24), .val (.int ps), .val (.int vb), .val (.int at_), .val (.int e28), .val (.int c29), .val (.int ln), .unset, .unset, .unset] []))
                          have J472 : ∀ (TJ472 : State) (lcJ472 : List Loc) (XJ472 : Stand p l e room_1 s m #[(.long q0), (.long q2), (.long q4), (.int p6), (.int p7), (.int p8)] below meth c TJ472 lcJ472 1 60) (eJ472 : TJ472.heap = hJ403) (NJ472 : Fr n0 lcJ472) (e31 : Int32) (h31 : Hid ((e31 = 1 ∧ ((0 < wN → isSp r_6) ∧ (1 < wN → isSp r_7))) ∨ (e31 = 0 ∧ ¬ ((0 < wN → isSp r_6) ∧ (1 < wN → isSp r_7))))), Go p e below P (TJ472.setTop (mkF m 472 #[.val (.long q0), .second, .val (.long q2), .second, .val (.long q4), .second, .val (.int p6), .val (.int p7), .val (.int p8), .val (.int p9), .val (.int w10), .val (.int t11), .val (.int j12), .val (.int p9), .val (.int ws), .val (.int pr), .val (.int cl), .val (.int tr), .val (.int nn), .val (.ref b1), .val (.int r_6), .val (.int r_7), .val (.int r_12), .val (.int r_13), .val (.int pc24), .val (.int ps), .val (.int vb), .val (.int at_), .val (.int e28), .val (.int c29), .val (.int ln), .unset, .unset, .unset] [(.int e31)])) := by
                            intro TJ472 lcJ472 XJ472 eJ472 NJ472 e31 h31
                            refine Go.by (fun _ => XS.istore XJ472.here hx rfl (g := (mkF m 472 #[.val (.long q0), .second, .val (.long q2), .second, .val (.long q4), .second, .val (.int p6), .val (.int p7), .val (.int p8), .val (.int p9), .val (.int w10), .val (.int t11), .val (.int j12), .val (.int p9), .val (.int ws), .val (.int pr), .val (.int cl), .val (.int tr), .val (.int nn), .val (.ref b1), .val (.int r_6), .val (.int r_7), .val (.int r_12), .val (.int r_13), .val (.int pc24), .val (.int ps), .val (.int vb), .val (.int at_), .val (.int e28), .val (.int c29), .val (.int ln), .unset, .unset, .unset] [(.int e31)])) (hb hby at_472) rfl (l' := #[.val (.long q0), .second, .val (.long q2), .second, .val (.long q4), .second, .val (.int p6), .val (.int p7), .val (.int p8), .val (.int p9), .val (.int w10), .val (.int t11), .val (.int j12), .val (.int p9), .val (.int ws), .val (.int pr), .val (.int cl), .val (.int tr), .val (.int nn), .val (.ref b1), .val (.int r_6), .val (.int r_7), .val (.int r_12), .val (.int r_13), .val (.int pc24), .val (.int ps), .val (.int vb), .val (.int at_), .val (.int e28), .val (.int c29), .val (.int ln), .val (.int e31), .unset, .unset]) rfl) ?_
                            show Go p e below P (TJ472.setTop (mkF m 474 #[.val (.long q0), .second, .val (.long q2), .second, .val (.long q4), .second, .val (.int p6), .val (.int p7), .val (.int p8), .val (.int p9), .val (.int w10), .val (.int t11), .val (.int j12), .val (.int p9), .val (.int ws), .val (.int pr), .val (.int cl), .val (.int tr), .val (.int nn), .val (.ref b1), .val (.int r_6), .val (.int r_7), .val (.int r_12), .val (.int r_13), .val (.int pc24), .val (.int ps), .val (.int vb), .val (.int at_), .val (.int e28), .val (.int c29), .val (.int ln), .val (.int e31), .unset, .unset] []))
                            have J523 : ∀ (TJ523 : State) (lcJ523 : List Loc) (XJ523 : Stand p l e room_1 s m #[(.long q0), (.long q2), (.long q4), (.int p6), (.int p7), (.int p8)] below meth c TJ523 lcJ523 1 60) (eJ523 : TJ523.heap = hJ403) (NJ523 : Fr n0 lcJ523) (e32 : Int32) (h32 : Hid ((e32 = 1 ∧ ((0 < tN → oN + 16 + wN + 8 + 17 < lenN → isSp r_12) ∧ (1 < tN → oN + 16 + wN + 8 + 17 + 1 < lenN → isSp r_13))) ∨ (e32 = 0 ∧ ¬ ((0 < tN → oN + 16 + wN + 8 + 17 < lenN → isSp r_12) ∧ (1 < tN → oN + 16 + wN + 8 + 17 + 1 < lenN → isSp r_13))))), Go p e below P (TJ523.setTop (mkF m 523 #[.val (.long q0), .second, .val (.long q2), .second, .val (.long q4), .second, .val (.int p6), .val (.int p7), .val (.int p8), .val (.int p9), .val (.int w10), .val (.int t11), .val (.int j12), .val (.int p9), .val (.int ws), .val (.int pr), .val (.int cl), .val (.int tr), .val (.int nn), .val (.ref b1), .val (.int r_6), .val (.int r_7), .val (.int r_12), .val (.int r_13), .val (.int pc24), .val (.int ps), .val (.int vb), .val (.int at_), .val (.int e28), .val (.int c29), .val (.int ln), .val (.int e31), .unset, .unset] [(.int e32)])) := by
                              intro TJ523 lcJ523 XJ523 eJ523 NJ523 e32 h32
                              refine Go.by (fun _ => XS.istore XJ523.here hx rfl (g := (mkF m 523 #[.val (.long q0), .second, .val (.long q2), .second, .val (.long q4), .second, .val (.int p6), .val (.int p7), .val (.int p8), .val (.int p9), .val (.int w10), .val (.int t11), .val (.int j12), .val (.int p9), .val (.int ws), .val (.int pr), .val (.int cl), .val (.int tr), .val (.int nn), .val (.ref b1), .val (.int r_6), .val (.int r_7), .val (.int r_12), .val (.int r_13), .val (.int pc24), .val (.int ps), .val (.int vb), .val (.int at_), .val (.int e28), .val (.int c29), .val (.int ln), .val (.int e31), .unset, .unset] [(.int e32)])) (hb hby at_523) rfl (l' := #[.val (.long q0), .second, .val (.long q2), .second, .val (.long q4), .second, .val (.int p6), .val (.int p7), .val (.int p8), .val (.int p9), .val (.int w10), .val (.int t11), .val (.int j12), .val (.int p9), .val (.int ws), .val (.int pr), .val (.int cl), .val (.int tr), .val (.int nn), .val (.ref b1), .val (.int r_6), .val (.int r_7), .val (.int r_12), .val (.int r_13), .val (.int pc24), .val (.int ps), .val (.int vb), .val (.int at_), .val (.int e28), .val (.int c29), .val (.int ln), .val (.int e31), .val (.int e32), .unset]) rfl) ?_
                              show Go p e below P (TJ523.setTop (mkF m 525 #[.val (.long q0), .second, .val (.long q2), .second, .val (.long q4), .second, .val (.int p6), .val (.int p7), .val (.int p8), .val (.int p9), .val (.int w10), .val (.int t11), .val (.int j12), .val (.int p9), .val (.int ws), .val (.int pr), .val (.int cl), .val (.int tr), .val (.int nn), .val (.ref b1), .val (.int r_6), .val (.int r_7), .val (.int r_12), .val (.int r_13), .val (.int pc24), .val (.int ps), .val (.int vb), .val (.int at_), .val (.int e28), .val (.int c29), .val (.int ln), .val (.int e31), .val (.int e32), .unset] []))
                              have J552 : ∀ (e33 : Int32) (h33 : Hid ((e33 = 1 ∧ (e28 = 1 ∧ ((0 < wN → isSp r_6) ∧ (1 < wN → isSp r_7)) ∧ oN + 16 + wN + 8 + 17 ≤ lenN ∧ ((0 < tN → oN + 16 + wN + 8 + 17 < lenN → isSp r_12) ∧ (1 < tN → oN + 16 + wN + 8 + 17 + 1 < lenN → isSp r_13)))) ∨ (e33 = 0 ∧ ¬ (e28 = 1 ∧ ((0 < wN → isSp r_6) ∧ (1 < wN → isSp r_7)) ∧ oN + 16 + wN + 8 + 17 ≤ lenN ∧ ((0 < tN → oN + 16 + wN + 8 + 17 < lenN → isSp r_12) ∧ (1 < tN → oN + 16 + wN + 8 + 17 + 1 < lenN → isSp r_13)))))), Go p e below P (TJ523.setTop (mkF m 552 #[.val (.long q0), .second, .val (.long q2), .second, .val (.long q4), .second, .val (.int p6), .val (.int p7), .val (.int p8), .val (.int p9), .val (.int w10), .val (.int t11), .val (.int j12), .val (.int p9), .val (.int ws), .val (.int pr), .val (.int cl), .val (.int tr), .val (.int nn), .val (.ref b1), .val (.int r_6), .val (.int r_7), .val (.int r_12), .val (.int r_13), .val (.int pc24), .val (.int ps), .val (.int vb), .val (.int at_), .val (.int e28), .val (.int c29), .val (.int ln), .val (.int e31), .val (.int e32), .unset] [(.int e33)])) := by
                                intro e33 h33
                                refine Go.by (fun _ => XS.istore XJ523.here hx rfl (g := (mkF m 552 #[.val (.long q0), .second, .val (.long q2), .second, .val (.long q4), .second, .val (.int p6), .val (.int p7), .val (.int p8), .val (.int p9), .val (.int w10), .val (.int t11), .val (.int j12), .val (.int p9), .val (.int ws), .val (.int pr), .val (.int cl), .val (.int tr), .val (.int nn), .val (.ref b1), .val (.int r_6), .val (.int r_7), .val (.int r_12), .val (.int r_13), .val (.int pc24), .val (.int ps), .val (.int vb), .val (.int at_), .val (.int e28), .val (.int c29), .val (.int ln), .val (.int e31), .val (.int e32), .unset] [(.int e33)])) (hb hby at_552) rfl (l' := #[.val (.long q0), .second, .val (.long q2), .second, .val (.long q4), .second, .val (.int p6), .val (.int p7), .val (.int p8), .val (.int p9), .val (.int w10), .val (.int t11), .val (.int j12), .val (.int p9), .val (.int ws), .val (.int pr), .val (.int cl), .val (.int tr), .val (.int nn), .val (.ref b1), .val (.int r_6), .val (.int r_7), .val (.int r_12), .val (.int r_13), .val (.int pc24), .val (.int ps), .val (.int vb), .val (.int at_), .val (.int e28), .val (.int c29), .val (.int ln), .val (.int e31), .val (.int e32), .val (.int e33)]) rfl) ?_
                                show Go p e below P (TJ523.setTop (mkF m 554 #[.val (.long q0), .second, .val (.long q2), .second, .val (.long q4), .second, .val (.int p6), .val (.int p7), .val (.int p8), .val (.int p9), .val (.int w10), .val (.int t11), .val (.int j12), .val (.int p9), .val (.int ws), .val (.int pr), .val (.int cl), .val (.int tr), .val (.int nn), .val (.ref b1), .val (.int r_6), .val (.int r_7), .val (.int r_12), .val (.int r_13), .val (.int pc24), .val (.int ps), .val (.int vb), .val (.int at_), .val (.int e28), .val (.int c29), .val (.int ln), .val (.int e31), .val (.int e32), .val (.int e33)] []))
                                refine Go.by (fun _ => XS.aload XJ523.here hx rfl (hb hby at_554) rfl rfl) ?_
                                show Go p e below P (TJ523.setTop (mkF m 556 #[.val (.long q0), .second, .val (.long q2), .second, .val (.long q4), .second, .val (.int p6), .val (.int p7), .val (.int p8), .val (.int p9), .val (.int w10), .val (.int t11), .val (.int j12), .val (.int p9), .val (.int ws), .val (.int pr), .val (.int cl), .val (.int tr), .val (.int nn), .val (.ref b1), .val (.int r_6), .val (.int r_7), .val (.int r_12), .val (.int r_13), .val (.int pc24), .val (.int ps), .val (.int vb), .val (.int at_), .val (.int e28), .val (.int c29), .val (.int ln), .val (.int e31), .val (.int e32), .val (.int e33)] [(.ref b1)]))
                                refine Go.by (fun _ => XS.iload XJ523.here hx rfl (hb hby at_556) rfl) ?_
                                show Go p e below P (TJ523.setTop (mkF m 558 #[.val (.long q0), .second, .val (.long q2), .second, .val (.long q4), .second, .val (.int p6), .val (.int p7), .val (.int p8), .val (.int p9), .val (.int w10), .val (.int t11), .val (.int j12), .val (.int p9), .val (.int ws), .val (.int pr), .val (.int cl), .val (.int tr), .val (.int nn), .val (.ref b1), .val (.int r_6), .val (.int r_7), .val (.int r_12), .val (.int r_13), .val (.int pc24), .val (.int ps), .val (.int vb), .val (.int at_), .val (.int e28), .val (.int c29), .val (.int ln), .val (.int e31), .val (.int e32), .val (.int e33)] [(.int ln), (.ref b1)]))
                                obtain ⟨_, _, ⟨T14, L14, k14, n14⟩, -, X14, ⟨Lc14, hQ14, l14, y14, z14⟩, st14⟩ := Jvm.LawKit.callS XJ523 hx (y := (⟨"com/example/wirecall/wirecall/bench/Answers", "isResult", "([BI)Z"⟩ : MethodName)) hown (mvT hZ (hw _ (List.mem_of_getElem? (i := 19) rfl))) (mvT hZ (hw _ (List.mem_of_getElem? (i := 20) rfl))) (mvT hZ (hw _ (List.mem_of_getElem? (i := 21) rfl))) (mvT hZ (hw _ (List.mem_of_getElem? (i := 22) rfl))) (by decide) (backOf (W := 0) (rm_isr l Z a0 hw [] wOPEN kOPEN wCLOSE kCLOSE wPARAMS kPARAMS hG b1 ln k1 NB bs13 lenN hJ403 n0 ZJ403 OJ403 FJ403_0 (by rw [hl_bs13]; exact hNB) (by rw [hl_bs13]; exact Nat.le_trans hNNb (by decide)) hln (by rw [hl_bs13]; exact Nat.le_trans hlb (Nat.le_add_right _ _))) hZ (hw _ (List.mem_of_getElem? (i := 22) rfl)) (hw _ (List.mem_of_getElem? (i := 21) rfl)) (Nat.le_of_ble_eq_true rfl) (Nat.le_of_ble_eq_true rfl)) (g := (mkF m 558 #[.val (.long q0), .second, .val (.long q2), .second, .val (.long q4), .second, .val (.int p6), .val (.int p7), .val (.int p8), .val (.int p9), .val (.int w10), .val (.int t11), .val (.int j12), .val (.int p9), .val (.int ws), .val (.int pr), .val (.int cl), .val (.int tr), .val (.int nn), .val (.ref b1), .val (.int r_6), .val (.int r_7), .val (.int r_12), .val (.int r_13), .val (.int pc24), .val (.int ps), .val (.int vb), .val (.int at_), .val (.int e28), .val (.int c29), .val (.int ln), .val (.int e31), .val (.int e32), .val (.int e33)] [(.int ln), (.ref b1)])) rfl (by rw [hml]; rfl) (argsL := [(.ref b1), (.int ln)]) (rest := []) (lenOf pd_5 rfl) rfl (by show 2 * 0 + _ ≤ _; exact Nat.le_of_eq rfl) (hb hby at_558) (fun _ _ => ⟨rfl, eJ523, (Nat.le_of_ble_eq_true rfl : 1 + 0 ≤ _), (Nat.le_of_ble_eq_true rfl : 60 + 0 ≤ _)⟩)
                                dsimp only [Pt.U, Pt.locs, Pt.cells, Pt.slots] at X14 l14 y14 z14 st14 hQ14
                                subst l14 y14 z14
                                obtain ⟨r_14, rfl, Nq14, eq14, hq14_0⟩ := hQ14
                                have N14 := Fr.app NJ523 Nq14
                                refine Go.by (fun _ => st14 _) ?_
                                show Go p e below P (T14.setTop (mkF m 561 #[.val (.long q0), .second, .val (.long q2), .second, .val (.long q4), .second, .val (.int p6), .val (.int p7), .val (.int p8), .val (.int p9), .val (.int w10), .val (.int t11), .val (.int j12), .val (.int p9), .val (.int ws), .val (.int pr), .val (.int cl), .val (.int tr), .val (.int nn), .val (.ref b1), .val (.int r_6), .val (.int r_7), .val (.int r_12), .val (.int r_13), .val (.int pc24), .val (.int ps), .val (.int vb), .val (.int at_), .val (.int e28), .val (.int c29), .val (.int ln), .val (.int e31), .val (.int e32), .val (.int e33)] [(.int r_14)]))
                                have hfin := own_final (bs := bs13) (gs := bs12) (e28 := e28) hmu h28 HO12 HP12 HC12 HA12 HB12 HT12 HU12 boN bwN btN hlb
                                rcases hq14_0 with ⟨rfl, hY⟩ | ⟨rfl, hY⟩ <;> rcases h33 with ⟨rfl, hX⟩ | ⟨rfl, hX⟩
                                · show Go p e below P (T14.setTop (mkF m 561 #[.val (.long q0), .second, .val (.long q2), .second, .val (.long q4), .second, .val (.int p6), .val (.int p7), .val (.int p8), .val (.int p9), .val (.int w10), .val (.int t11), .val (.int j12), .val (.int p9), .val (.int ws), .val (.int pr), .val (.int cl), .val (.int tr), .val (.int nn), .val (.ref b1), .val (.int r_6), .val (.int r_7), .val (.int r_12), .val (.int r_13), .val (.int pc24), .val (.int ps), .val (.int vb), .val (.int at_), .val (.int e28), .val (.int c29), .val (.int ln), .val (.int e31), .val (.int e32), .val (.int (1 : Int32))] [(.int (1 : Int32))]))
                                  refine Go.by (fun _ => XS.iload X14.here hx rfl (hb hby at_561) rfl) ?_
                                  show Go p e below P (T14.setTop (mkF m 563 #[.val (.long q0), .second, .val (.long q2), .second, .val (.long q4), .second, .val (.int p6), .val (.int p7), .val (.int p8), .val (.int p9), .val (.int w10), .val (.int t11), .val (.int j12), .val (.int p9), .val (.int ws), .val (.int pr), .val (.int cl), .val (.int tr), .val (.int nn), .val (.ref b1), .val (.int r_6), .val (.int r_7), .val (.int r_12), .val (.int r_13), .val (.int pc24), .val (.int ps), .val (.int vb), .val (.int at_), .val (.int e28), .val (.int c29), .val (.int ln), .val (.int e31), .val (.int e32), .val (.int (1 : Int32))] [(.int (1 : Int32)), (.int (1 : Int32))]))
                                  have hc563 : (1 : Int32) = (1 : Int32) := by decide
                                  refine Go.by (fun _ => XS.icmpNo X14.here hx rfl (hb hby at_563) rfl (teq hc563).2) ?_
                                  show Go p e below P (T14.setTop (mkF m 566 #[.val (.long q0), .second, .val (.long q2), .second, .val (.long q4), .second, .val (.int p6), .val (.int p7), .val (.int p8), .val (.int p9), .val (.int w10), .val (.int t11), .val (.int j12), .val (.int p9), .val (.int ws), .val (.int pr), .val (.int cl), .val (.int tr), .val (.int nn), .val (.ref b1), .val (.int r_6), .val (.int r_7), .val (.int r_12), .val (.int r_13), .val (.int pc24), .val (.int ps), .val (.int vb), .val (.int at_), .val (.int e28), .val (.int c29), .val (.int ln), .val (.int e31), .val (.int e32), .val (.int (1 : Int32))] []))
                                  refine Go.by (fun _ => XS.iconst X14.here hx rfl (hb hby at_566)) ?_
                                  show Go p e below P (T14.setTop (mkF m 567 #[.val (.long q0), .second, .val (.long q2), .second, .val (.long q4), .second, .val (.int p6), .val (.int p7), .val (.int p8), .val (.int p9), .val (.int w10), .val (.int t11), .val (.int j12), .val (.int p9), .val (.int ws), .val (.int pr), .val (.int cl), .val (.int tr), .val (.int nn), .val (.ref b1), .val (.int r_6), .val (.int r_7), .val (.int r_12), .val (.int r_13), .val (.int pc24), .val (.int ps), .val (.int vb), .val (.int at_), .val (.int e28), .val (.int c29), .val (.int ln), .val (.int e31), .val (.int e32), .val (.int (1 : Int32))] [(.int (1 : Int32))]))
                                  refine Go.by (fun _ => XS.goto X14.here hx rfl (pc0 := 567) (pc' := 571) rfl (hb hby at_567) (by decide) (by decide)) ?_
                                  show Go p e below P (T14.setTop (mkF m 571 #[.val (.long q0), .second, .val (.long q2), .second, .val (.long q4), .second, .val (.int p6), .val (.int p7), .val (.int p8), .val (.int p9), .val (.int w10), .val (.int t11), .val (.int j12), .val (.int p9), .val (.int ws), .val (.int pr), .val (.int cl), .val (.int tr), .val (.int nn), .val (.ref b1), .val (.int r_6), .val (.int r_7), .val (.int r_12), .val (.int r_13), .val (.int pc24), .val (.int ps), .val (.int vb), .val (.int at_), .val (.int e28), .val (.int c29), .val (.int ln), .val (.int e31), .val (.int e32), .val (.int (1 : Int32))] [(.int (1 : Int32))]))
                                  subst hP
                                  refine Go.retZ X14 hx (t := .boolean) Bd.returns (by simp) hlk (hb hby at_571) (Nat.le_of_ble_eq_true rfl) (Nat.le_of_ble_eq_true rfl) ?_
                                  rw [eq14]
                                  exact ⟨rfl, N14⟩
                                · exact absurd (hfin.1 hY) hX
                                · exact absurd hX (hfin.2 hY)
                                · show Go p e below P (T14.setTop (mkF m 561 #[.val (.long q0), .second, .val (.long q2), .second, .val (.long q4), .second, .val (.int p6), .val (.int p7), .val (.int p8), .val (.int p9), .val (.int w10), .val (.int t11), .val (.int j12), .val (.int p9), .val (.int ws), .val (.int pr), .val (.int cl), .val (.int tr), .val (.int nn), .val (.ref b1), .val (.int r_6), .val (.int r_7), .val (.int r_12), .val (.int r_13), .val (.int pc24), .val (.int ps), .val (.int vb), .val (.int at_), .val (.int e28), .val (.int c29), .val (.int ln), .val (.int e31), .val (.int e32), .val (.int (0 : Int32))] [(.int (0 : Int32))]))
                                  refine Go.by (fun _ => XS.iload X14.here hx rfl (hb hby at_561) rfl) ?_
                                  show Go p e below P (T14.setTop (mkF m 563 #[.val (.long q0), .second, .val (.long q2), .second, .val (.long q4), .second, .val (.int p6), .val (.int p7), .val (.int p8), .val (.int p9), .val (.int w10), .val (.int t11), .val (.int j12), .val (.int p9), .val (.int ws), .val (.int pr), .val (.int cl), .val (.int tr), .val (.int nn), .val (.ref b1), .val (.int r_6), .val (.int r_7), .val (.int r_12), .val (.int r_13), .val (.int pc24), .val (.int ps), .val (.int vb), .val (.int at_), .val (.int e28), .val (.int c29), .val (.int ln), .val (.int e31), .val (.int e32), .val (.int (0 : Int32))] [(.int (0 : Int32)), (.int (0 : Int32))]))
                                  have hc563 : (0 : Int32) = (0 : Int32) := by decide
                                  refine Go.by (fun _ => XS.icmpNo X14.here hx rfl (hb hby at_563) rfl (teq hc563).2) ?_
                                  show Go p e below P (T14.setTop (mkF m 566 #[.val (.long q0), .second, .val (.long q2), .second, .val (.long q4), .second, .val (.int p6), .val (.int p7), .val (.int p8), .val (.int p9), .val (.int w10), .val (.int t11), .val (.int j12), .val (.int p9), .val (.int ws), .val (.int pr), .val (.int cl), .val (.int tr), .val (.int nn), .val (.ref b1), .val (.int r_6), .val (.int r_7), .val (.int r_12), .val (.int r_13), .val (.int pc24), .val (.int ps), .val (.int vb), .val (.int at_), .val (.int e28), .val (.int c29), .val (.int ln), .val (.int e31), .val (.int e32), .val (.int (0 : Int32))] []))
                                  refine Go.by (fun _ => XS.iconst X14.here hx rfl (hb hby at_566)) ?_
                                  show Go p e below P (T14.setTop (mkF m 567 #[.val (.long q0), .second, .val (.long q2), .second, .val (.long q4), .second, .val (.int p6), .val (.int p7), .val (.int p8), .val (.int p9), .val (.int w10), .val (.int t11), .val (.int j12), .val (.int p9), .val (.int ws), .val (.int pr), .val (.int cl), .val (.int tr), .val (.int nn), .val (.ref b1), .val (.int r_6), .val (.int r_7), .val (.int r_12), .val (.int r_13), .val (.int pc24), .val (.int ps), .val (.int vb), .val (.int at_), .val (.int e28), .val (.int c29), .val (.int ln), .val (.int e31), .val (.int e32), .val (.int (0 : Int32))] [(.int (1 : Int32))]))
                                  refine Go.by (fun _ => XS.goto X14.here hx rfl (pc0 := 567) (pc' := 571) rfl (hb hby at_567) (by decide) (by decide)) ?_
                                  show Go p e below P (T14.setTop (mkF m 571 #[.val (.long q0), .second, .val (.long q2), .second, .val (.long q4), .second, .val (.int p6), .val (.int p7), .val (.int p8), .val (.int p9), .val (.int w10), .val (.int t11), .val (.int j12), .val (.int p9), .val (.int ws), .val (.int pr), .val (.int cl), .val (.int tr), .val (.int nn), .val (.ref b1), .val (.int r_6), .val (.int r_7), .val (.int r_12), .val (.int r_13), .val (.int pc24), .val (.int ps), .val (.int vb), .val (.int at_), .val (.int e28), .val (.int c29), .val (.int ln), .val (.int e31), .val (.int e32), .val (.int (0 : Int32))] [(.int (1 : Int32))]))
                                  subst hP
                                  refine Go.retZ X14 hx (t := .boolean) Bd.returns (by simp) hlk (hb hby at_571) (Nat.le_of_ble_eq_true rfl) (Nat.le_of_ble_eq_true rfl) ?_
                                  rw [eq14]
                                  exact ⟨rfl, N14⟩
                              refine Go.by (fun _ => XS.iload XJ523.here hx rfl (hb hby at_525) rfl) ?_
                              show Go p e below P (TJ523.setTop (mkF m 527 #[.val (.long q0), .second, .val (.long q2), .second, .val (.long q4), .second, .val (.int p6), .val (.int p7), .val (.int p8), .val (.int p9), .val (.int w10), .val (.int t11), .val (.int j12), .val (.int p9), .val (.int ws), .val (.int pr), .val (.int cl), .val (.int tr), .val (.int nn), .val (.ref b1), .val (.int r_6), .val (.int r_7), .val (.int r_12), .val (.int r_13), .val (.int pc24), .val (.int ps), .val (.int vb), .val (.int at_), .val (.int e28), .val (.int c29), .val (.int ln), .val (.int e31), .val (.int e32), .unset] [(.int e28)]))
                              by_cases hc527 : e28 = (0 : Int32)
                              · refine Go.by (fun _ => XS.ifYes XJ523.here hx rfl (pc0 := 527) (pc' := 551) rfl (hb hby at_527) rfl ((if0 _ _).trans (teq hc527).1) (by decide) (by decide)) ?_
                                show Go p e below P (TJ523.setTop (mkF m 551 #[.val (.long q0), .second, .val (.long q2), .second, .val (.long q4), .second, .val (.int p6), .val (.int p7), .val (.int p8), .val (.int p9), .val (.int w10), .val (.int t11), .val (.int j12), .val (.int p9), .val (.int ws), .val (.int pr), .val (.int cl), .val (.int tr), .val (.int nn), .val (.ref b1), .val (.int r_6), .val (.int r_7), .val (.int r_12), .val (.int r_13), .val (.int pc24), .val (.int ps), .val (.int vb), .val (.int at_), .val (.int e28), .val (.int c29), .val (.int ln), .val (.int e31), .val (.int e32), .unset] []))
                                refine Go.by (fun _ => XS.iconst XJ523.here hx rfl (hb hby at_551)) ?_
                                show Go p e below P (TJ523.setTop (mkF m 552 #[.val (.long q0), .second, .val (.long q2), .second, .val (.long q4), .second, .val (.int p6), .val (.int p7), .val (.int p8), .val (.int p9), .val (.int w10), .val (.int t11), .val (.int j12), .val (.int p9), .val (.int ws), .val (.int pr), .val (.int cl), .val (.int tr), .val (.int nn), .val (.ref b1), .val (.int r_6), .val (.int r_7), .val (.int r_12), .val (.int r_13), .val (.int pc24), .val (.int ps), .val (.int vb), .val (.int at_), .val (.int e28), .val (.int c29), .val (.int ln), .val (.int e31), .val (.int e32), .unset] [(.int (0 : Int32))]))
                                exact J552 (0 : Int32) (Or.inr ⟨rfl, fun z => absurd (hc527.symm.trans z.1) (by decide)⟩)
                              · refine Go.by (fun _ => XS.ifNo XJ523.here hx rfl (hb hby at_527) rfl ((if0 _ _).trans (feq hc527).1)) ?_
                                show Go p e below P (TJ523.setTop (mkF m 530 #[.val (.long q0), .second, .val (.long q2), .second, .val (.long q4), .second, .val (.int p6), .val (.int p7), .val (.int p8), .val (.int p9), .val (.int w10), .val (.int t11), .val (.int j12), .val (.int p9), .val (.int ws), .val (.int pr), .val (.int cl), .val (.int tr), .val (.int nn), .val (.ref b1), .val (.int r_6), .val (.int r_7), .val (.int r_12), .val (.int r_13), .val (.int pc24), .val (.int ps), .val (.int vb), .val (.int at_), .val (.int e28), .val (.int c29), .val (.int ln), .val (.int e31), .val (.int e32), .unset] []))
                                refine Go.by (fun _ => XS.iload XJ523.here hx rfl (hb hby at_530) rfl) ?_
                                show Go p e below P (TJ523.setTop (mkF m 532 #[.val (.long q0), .second, .val (.long q2), .second, .val (.long q4), .second, .val (.int p6), .val (.int p7), .val (.int p8), .val (.int p9), .val (.int w10), .val (.int t11), .val (.int j12), .val (.int p9), .val (.int ws), .val (.int pr), .val (.int cl), .val (.int tr), .val (.int nn), .val (.ref b1), .val (.int r_6), .val (.int r_7), .val (.int r_12), .val (.int r_13), .val (.int pc24), .val (.int ps), .val (.int vb), .val (.int at_), .val (.int e28), .val (.int c29), .val (.int ln), .val (.int e31), .val (.int e32), .unset] [(.int e31)]))
                                by_cases hc532 : e31 = (0 : Int32)
                                · refine Go.by (fun _ => XS.ifYes XJ523.here hx rfl (pc0 := 532) (pc' := 551) rfl (hb hby at_532) rfl ((if0 _ _).trans (teq hc532).1) (by decide) (by decide)) ?_
                                  show Go p e below P (TJ523.setTop (mkF m 551 #[.val (.long q0), .second, .val (.long q2), .second, .val (.long q4), .second, .val (.int p6), .val (.int p7), .val (.int p8), .val (.int p9), .val (.int w10), .val (.int t11), .val (.int j12), .val (.int p9), .val (.int ws), .val (.int pr), .val (.int cl), .val (.int tr), .val (.int nn), .val (.ref b1), .val (.int r_6), .val (.int r_7), .val (.int r_12), .val (.int r_13), .val (.int pc24), .val (.int ps), .val (.int vb), .val (.int at_), .val (.int e28), .val (.int c29), .val (.int ln), .val (.int e31), .val (.int e32), .unset] []))
                                  refine Go.by (fun _ => XS.iconst XJ523.here hx rfl (hb hby at_551)) ?_
                                  show Go p e below P (TJ523.setTop (mkF m 552 #[.val (.long q0), .second, .val (.long q2), .second, .val (.long q4), .second, .val (.int p6), .val (.int p7), .val (.int p8), .val (.int p9), .val (.int w10), .val (.int t11), .val (.int j12), .val (.int p9), .val (.int ws), .val (.int pr), .val (.int cl), .val (.int tr), .val (.int nn), .val (.ref b1), .val (.int r_6), .val (.int r_7), .val (.int r_12), .val (.int r_13), .val (.int pc24), .val (.int ps), .val (.int vb), .val (.int at_), .val (.int e28), .val (.int c29), .val (.int ln), .val (.int e31), .val (.int e32), .unset] [(.int (0 : Int32))]))
                                  exact J552 (0 : Int32) (Or.inr ⟨rfl, fun z => (h31.resolve_left (fun y => absurd (hc532.symm.trans y.1) (by decide))).2 z.2.1⟩)
                                · refine Go.by (fun _ => XS.ifNo XJ523.here hx rfl (hb hby at_532) rfl ((if0 _ _).trans (feq hc532).1)) ?_
                                  show Go p e below P (TJ523.setTop (mkF m 535 #[.val (.long q0), .second, .val (.long q2), .second, .val (.long q4), .second, .val (.int p6), .val (.int p7), .val (.int p8), .val (.int p9), .val (.int w10), .val (.int t11), .val (.int j12), .val (.int p9), .val (.int ws), .val (.int pr), .val (.int cl), .val (.int tr), .val (.int nn), .val (.ref b1), .val (.int r_6), .val (.int r_7), .val (.int r_12), .val (.int r_13), .val (.int pc24), .val (.int ps), .val (.int vb), .val (.int at_), .val (.int e28), .val (.int c29), .val (.int ln), .val (.int e31), .val (.int e32), .unset] []))
                                  refine Go.by (fun _ => XS.iload XJ523.here hx rfl (hb hby at_535) rfl) ?_
                                  show Go p e below P (TJ523.setTop (mkF m 537 #[.val (.long q0), .second, .val (.long q2), .second, .val (.long q4), .second, .val (.int p6), .val (.int p7), .val (.int p8), .val (.int p9), .val (.int w10), .val (.int t11), .val (.int j12), .val (.int p9), .val (.int ws), .val (.int pr), .val (.int cl), .val (.int tr), .val (.int nn), .val (.ref b1), .val (.int r_6), .val (.int r_7), .val (.int r_12), .val (.int r_13), .val (.int pc24), .val (.int ps), .val (.int vb), .val (.int at_), .val (.int e28), .val (.int c29), .val (.int ln), .val (.int e31), .val (.int e32), .unset] [(.int ln)]))
                                  refine Go.by (fun _ => XS.iload XJ523.here hx rfl (hb hby at_537) rfl) ?_
                                  show Go p e below P (TJ523.setTop (mkF m 539 #[.val (.long q0), .second, .val (.long q2), .second, .val (.long q4), .second, .val (.int p6), .val (.int p7), .val (.int p8), .val (.int p9), .val (.int w10), .val (.int t11), .val (.int j12), .val (.int p9), .val (.int ws), .val (.int pr), .val (.int cl), .val (.int tr), .val (.int nn), .val (.ref b1), .val (.int r_6), .val (.int r_7), .val (.int r_12), .val (.int r_13), .val (.int pc24), .val (.int ps), .val (.int vb), .val (.int at_), .val (.int e28), .val (.int c29), .val (.int ln), .val (.int e31), .val (.int e32), .unset] [(.int tr), (.int ln)]))
                                  by_cases hc539 : ln < tr
                                  · refine Go.by (fun _ => XS.icmpYes XJ523.here hx rfl (pc0 := 539) (pc' := 551) rfl (hb hby at_539) rfl (tlt hc539).1 (by decide) (by decide)) ?_
                                    show Go p e below P (TJ523.setTop (mkF m 551 #[.val (.long q0), .second, .val (.long q2), .second, .val (.long q4), .second, .val (.int p6), .val (.int p7), .val (.int p8), .val (.int p9), .val (.int w10), .val (.int t11), .val (.int j12), .val (.int p9), .val (.int ws), .val (.int pr), .val (.int cl), .val (.int tr), .val (.int nn), .val (.ref b1), .val (.int r_6), .val (.int r_7), .val (.int r_12), .val (.int r_13), .val (.int pc24), .val (.int ps), .val (.int vb), .val (.int at_), .val (.int e28), .val (.int c29), .val (.int ln), .val (.int e31), .val (.int e32), .unset] []))
                                    refine Go.by (fun _ => XS.iconst XJ523.here hx rfl (hb hby at_551)) ?_
                                    show Go p e below P (TJ523.setTop (mkF m 552 #[.val (.long q0), .second, .val (.long q2), .second, .val (.long q4), .second, .val (.int p6), .val (.int p7), .val (.int p8), .val (.int p9), .val (.int w10), .val (.int t11), .val (.int j12), .val (.int p9), .val (.int ws), .val (.int pr), .val (.int cl), .val (.int tr), .val (.int nn), .val (.ref b1), .val (.int r_6), .val (.int r_7), .val (.int r_12), .val (.int r_13), .val (.int pc24), .val (.int ps), .val (.int vb), .val (.int at_), .val (.int e28), .val (.int c29), .val (.int ln), .val (.int e31), .val (.int e32), .unset] [(.int (0 : Int32))]))
                                    exact J552 (0 : Int32) (Or.inr ⟨rfl, fun z => absurd z.2.2.1 (Nat.not_le.mpr ((own_tlt hln htr).mp hc539))⟩)
                                  · refine Go.by (fun _ => XS.icmpNo XJ523.here hx rfl (hb hby at_539) rfl (flt hc539).1) ?_
                                    show Go p e below P (TJ523.setTop (mkF m 542 #[.val (.long q0), .second, .val (.long q2), .second, .val (.long q4), .second, .val (.int p6), .val (.int p7), .val (.int p8), .val (.int p9), .val (.int w10), .val (.int t11), .val (.int j12), .val (.int p9), .val (.int ws), .val (.int pr), .val (.int cl), .val (.int tr), .val (.int nn), .val (.ref b1), .val (.int r_6), .val (.int r_7), .val (.int r_12), .val (.int r_13), .val (.int pc24), .val (.int ps), .val (.int vb), .val (.int at_), .val (.int e28), .val (.int c29), .val (.int ln), .val (.int e31), .val (.int e32), .unset] []))
                                    refine Go.by (fun _ => XS.iload XJ523.here hx rfl (hb hby at_542) rfl) ?_
                                    show Go p e below P (TJ523.setTop (mkF m 544 #[.val (.long q0), .second, .val (.long q2), .second, .val (.long q4), .second, .val (.int p6), .val (.int p7), .val (.int p8), .val (.int p9), .val (.int w10), .val (.int t11), .val (.int j12), .val (.int p9), .val (.int ws), .val (.int pr), .val (.int cl), .val (.int tr), .val (.int nn), .val (.ref b1), .val (.int r_6), .val (.int r_7), .val (.int r_12), .val (.int r_13), .val (.int pc24), .val (.int ps), .val (.int vb), .val (.int at_), .val (.int e28), .val (.int c29), .val (.int ln), .val (.int e31), .val (.int e32), .unset] [(.int e32)]))
                                    by_cases hc544 : e32 = (0 : Int32)
                                    · refine Go.by (fun _ => XS.ifYes XJ523.here hx rfl (pc0 := 544) (pc' := 551) rfl (hb hby at_544) rfl ((if0 _ _).trans (teq hc544).1) (by decide) (by decide)) ?_
                                      show Go p e below P (TJ523.setTop (mkF m 551 #[.val (.long q0), .second, .val (.long q2), .second, .val (.long q4), .second, .val (.int p6), .val (.int p7), .val (.int p8), .val (.int p9), .val (.int w10), .val (.int t11), .val (.int j12), .val (.int p9), .val (.int ws), .val (.int pr), .val (.int cl), .val (.int tr), .val (.int nn), .val (.ref b1), .val (.int r_6), .val (.int r_7), .val (.int r_12), .val (.int r_13), .val (.int pc24), .val (.int ps), .val (.int vb), .val (.int at_), .val (.int e28), .val (.int c29), .val (.int ln), .val (.int e31), .val (.int e32), .unset] []))
                                      refine Go.by (fun _ => XS.iconst XJ523.here hx rfl (hb hby at_551)) ?_
                                      show Go p e below P (TJ523.setTop (mkF m 552 #[.val (.long q0), .second, .val (.long q2), .second, .val (.long q4), .second, .val (.int p6), .val (.int p7), .val (.int p8), .val (.int p9), .val (.int w10), .val (.int t11), .val (.int j12), .val (.int p9), .val (.int ws), .val (.int pr), .val (.int cl), .val (.int tr), .val (.int nn), .val (.ref b1), .val (.int r_6), .val (.int r_7), .val (.int r_12), .val (.int r_13), .val (.int pc24), .val (.int ps), .val (.int vb), .val (.int at_), .val (.int e28), .val (.int c29), .val (.int ln), .val (.int e31), .val (.int e32), .unset] [(.int (0 : Int32))]))
                                      exact J552 (0 : Int32) (Or.inr ⟨rfl, fun z => (h32.resolve_left (fun y => absurd (hc544.symm.trans y.1) (by decide))).2 z.2.2.2⟩)
                                    · refine Go.by (fun _ => XS.ifNo XJ523.here hx rfl (hb hby at_544) rfl ((if0 _ _).trans (feq hc544).1)) ?_
                                      show Go p e below P (TJ523.setTop (mkF m 547 #[.val (.long q0), .second, .val (.long q2), .second, .val (.long q4), .second, .val (.int p6), .val (.int p7), .val (.int p8), .val (.int p9), .val (.int w10), .val (.int t11), .val (.int j12), .val (.int p9), .val (.int ws), .val (.int pr), .val (.int cl), .val (.int tr), .val (.int nn), .val (.ref b1), .val (.int r_6), .val (.int r_7), .val (.int r_12), .val (.int r_13), .val (.int pc24), .val (.int ps), .val (.int vb), .val (.int at_), .val (.int e28), .val (.int c29), .val (.int ln), .val (.int e31), .val (.int e32), .unset] []))
                                      refine Go.by (fun _ => XS.iconst XJ523.here hx rfl (hb hby at_547)) ?_
                                      show Go p e below P (TJ523.setTop (mkF m 548 #[.val (.long q0), .second, .val (.long q2), .second, .val (.long q4), .second, .val (.int p6), .val (.int p7), .val (.int p8), .val (.int p9), .val (.int w10), .val (.int t11), .val (.int j12), .val (.int p9), .val (.int ws), .val (.int pr), .val (.int cl), .val (.int tr), .val (.int nn), .val (.ref b1), .val (.int r_6), .val (.int r_7), .val (.int r_12), .val (.int r_13), .val (.int pc24), .val (.int ps), .val (.int vb), .val (.int at_), .val (.int e28), .val (.int c29), .val (.int ln), .val (.int e31), .val (.int e32), .unset] [(.int (1 : Int32))]))
                                      refine Go.by (fun _ => XS.goto XJ523.here hx rfl (pc0 := 548) (pc' := 552) rfl (hb hby at_548) (by decide) (by decide)) ?_
                                      show Go p e below P (TJ523.setTop (mkF m 552 #[.val (.long q0), .second, .val (.long q2), .second, .val (.long q4), .second, .val (.int p6), .val (.int p7), .val (.int p8), .val (.int p9), .val (.int w10), .val (.int t11), .val (.int j12), .val (.int p9), .val (.int ws), .val (.int pr), .val (.int cl), .val (.int tr), .val (.int nn), .val (.ref b1), .val (.int r_6), .val (.int r_7), .val (.int r_12), .val (.int r_13), .val (.int pc24), .val (.int ps), .val (.int vb), .val (.int at_), .val (.int e28), .val (.int c29), .val (.int ln), .val (.int e31), .val (.int e32), .unset] [(.int (1 : Int32))]))
                                      exact J552 (1 : Int32) (Or.inl ⟨rfl, (h28.resolve_right (fun z => hc527 z.1)).1, (h31.resolve_right (fun z => hc532 z.1)).2, Nat.not_lt.mp ((not_congr (own_tlt hln htr)).mp hc539), (h32.resolve_right (fun z => hc544 z.1)).2⟩)
                            refine Go.by (fun _ => XS.iload XJ472.here hx rfl (hb hby at_474) rfl) ?_
                            show Go p e below P (TJ472.setTop (mkF m 476 #[.val (.long q0), .second, .val (.long q2), .second, .val (.long q4), .second, .val (.int p6), .val (.int p7), .val (.int p8), .val (.int p9), .val (.int w10), .val (.int t11), .val (.int j12), .val (.int p9), .val (.int ws), .val (.int pr), .val (.int cl), .val (.int tr), .val (.int nn), .val (.ref b1), .val (.int r_6), .val (.int r_7), .val (.int r_12), .val (.int r_13), .val (.int pc24), .val (.int ps), .val (.int vb), .val (.int at_), .val (.int e28), .val (.int c29), .val (.int ln), .val (.int e31), .unset, .unset] [(.int t11)]))
                            refine Go.by (fun _ => XS.iconst XJ472.here hx rfl (hb hby at_476)) ?_
                            show Go p e below P (TJ472.setTop (mkF m 477 #[.val (.long q0), .second, .val (.long q2), .second, .val (.long q4), .second, .val (.int p6), .val (.int p7), .val (.int p8), .val (.int p9), .val (.int w10), .val (.int t11), .val (.int j12), .val (.int p9), .val (.int ws), .val (.int pr), .val (.int cl), .val (.int tr), .val (.int nn), .val (.ref b1), .val (.int r_6), .val (.int r_7), .val (.int r_12), .val (.int r_13), .val (.int pc24), .val (.int ps), .val (.int vb), .val (.int at_), .val (.int e28), .val (.int c29), .val (.int ln), .val (.int e31), .unset, .unset] [(.int (1 : Int32)), (.int t11)]))
                            by_cases hc477 : t11 < (1 : Int32)
                            · refine Go.by (fun _ => XS.icmpYes XJ472.here hx rfl (pc0 := 477) (pc' := 495) rfl (hb hby at_477) rfl (tlt hc477).1 (by decide) (by decide)) ?_
                              show Go p e below P (TJ472.setTop (mkF m 495 #[.val (.long q0), .second, .val (.long q2), .second, .val (.long q4), .second, .val (.int p6), .val (.int p7), .val (.int p8), .val (.int p9), .val (.int w10), .val (.int t11), .val (.int j12), .val (.int p9), .val (.int ws), .val (.int pr), .val (.int cl), .val (.int tr), .val (.int nn), .val (.ref b1), .val (.int r_6), .val (.int r_7), .val (.int r_12), .val (.int r_13), .val (.int pc24), .val (.int ps), .val (.int vb), .val (.int at_), .val (.int e28), .val (.int c29), .val (.int ln), .val (.int e31), .unset, .unset] []))
                              refine Go.by (fun _ => XS.iload XJ472.here hx rfl (hb hby at_495) rfl) ?_
                              show Go p e below P (TJ472.setTop (mkF m 497 #[.val (.long q0), .second, .val (.long q2), .second, .val (.long q4), .second, .val (.int p6), .val (.int p7), .val (.int p8), .val (.int p9), .val (.int w10), .val (.int t11), .val (.int j12), .val (.int p9), .val (.int ws), .val (.int pr), .val (.int cl), .val (.int tr), .val (.int nn), .val (.ref b1), .val (.int r_6), .val (.int r_7), .val (.int r_12), .val (.int r_13), .val (.int pc24), .val (.int ps), .val (.int vb), .val (.int at_), .val (.int e28), .val (.int c29), .val (.int ln), .val (.int e31), .unset, .unset] [(.int t11)]))
                              refine Go.by (fun _ => XS.iconst XJ472.here hx rfl (hb hby at_497)) ?_
                              show Go p e below P (TJ472.setTop (mkF m 498 #[.val (.long q0), .second, .val (.long q2), .second, .val (.long q4), .second, .val (.int p6), .val (.int p7), .val (.int p8), .val (.int p9), .val (.int w10), .val (.int t11), .val (.int j12), .val (.int p9), .val (.int ws), .val (.int pr), .val (.int cl), .val (.int tr), .val (.int nn), .val (.ref b1), .val (.int r_6), .val (.int r_7), .val (.int r_12), .val (.int r_13), .val (.int pc24), .val (.int ps), .val (.int vb), .val (.int at_), .val (.int e28), .val (.int c29), .val (.int ln), .val (.int e31), .unset, .unset] [(.int (2 : Int32)), (.int t11)]))
                              by_cases hc498 : t11 < (2 : Int32)
                              · refine Go.by (fun _ => XS.icmpYes XJ472.here hx rfl (pc0 := 498) (pc' := 518) rfl (hb hby at_498) rfl (tlt hc498).1 (by decide) (by decide)) ?_
                                show Go p e below P (TJ472.setTop (mkF m 518 #[.val (.long q0), .second, .val (.long q2), .second, .val (.long q4), .second, .val (.int p6), .val (.int p7), .val (.int p8), .val (.int p9), .val (.int w10), .val (.int t11), .val (.int j12), .val (.int p9), .val (.int ws), .val (.int pr), .val (.int cl), .val (.int tr), .val (.int nn), .val (.ref b1), .val (.int r_6), .val (.int r_7), .val (.int r_12), .val (.int r_13), .val (.int pc24), .val (.int ps), .val (.int vb), .val (.int at_), .val (.int e28), .val (.int c29), .val (.int ln), .val (.int e31), .unset, .unset] []))
                                refine Go.by (fun _ => XS.iconst XJ472.here hx rfl (hb hby at_518)) ?_
                                show Go p e below P (TJ472.setTop (mkF m 519 #[.val (.long q0), .second, .val (.long q2), .second, .val (.long q4), .second, .val (.int p6), .val (.int p7), .val (.int p8), .val (.int p9), .val (.int w10), .val (.int t11), .val (.int j12), .val (.int p9), .val (.int ws), .val (.int pr), .val (.int cl), .val (.int tr), .val (.int nn), .val (.ref b1), .val (.int r_6), .val (.int r_7), .val (.int r_12), .val (.int r_13), .val (.int pc24), .val (.int ps), .val (.int vb), .val (.int at_), .val (.int e28), .val (.int c29), .val (.int ln), .val (.int e31), .unset, .unset] [(.int (1 : Int32))]))
                                refine Go.by (fun _ => XS.goto XJ472.here hx rfl (pc0 := 519) (pc' := 523) rfl (hb hby at_519) (by decide) (by decide)) ?_
                                show Go p e below P (TJ472.setTop (mkF m 523 #[.val (.long q0), .second, .val (.long q2), .second, .val (.long q4), .second, .val (.int p6), .val (.int p7), .val (.int p8), .val (.int p9), .val (.int w10), .val (.int t11), .val (.int j12), .val (.int p9), .val (.int ws), .val (.int pr), .val (.int cl), .val (.int tr), .val (.int nn), .val (.ref b1), .val (.int r_6), .val (.int r_7), .val (.int r_12), .val (.int r_13), .val (.int pc24), .val (.int ps), .val (.int vb), .val (.int at_), .val (.int e28), .val (.int c29), .val (.int ln), .val (.int e31), .unset, .unset] [(.int (1 : Int32))]))
                                exact J523 TJ472 _ XJ472 eJ472 NJ472 (1 : Int32) (Or.inl ⟨rfl, fun q _ => (own_nn q ((own_tlt htN own_t1).mp hc477) (by decide)).elim, fun q _ => (own_nn q ((own_tlt htN own_t2).mp hc498) (by decide)).elim⟩)
                              · refine Go.by (fun _ => XS.icmpNo XJ472.here hx rfl (hb hby at_498) rfl (flt hc498).1) ?_
                                show Go p e below P (TJ472.setTop (mkF m 501 #[.val (.long q0), .second, .val (.long q2), .second, .val (.long q4), .second, .val (.int p6), .val (.int p7), .val (.int p8), .val (.int p9), .val (.int w10), .val (.int t11), .val (.int j12), .val (.int p9), .val (.int ws), .val (.int pr), .val (.int cl), .val (.int tr), .val (.int nn), .val (.ref b1), .val (.int r_6), .val (.int r_7), .val (.int r_12), .val (.int r_13), .val (.int pc24), .val (.int ps), .val (.int vb), .val (.int at_), .val (.int e28), .val (.int c29), .val (.int ln), .val (.int e31), .unset, .unset] []))
                                refine Go.by (fun _ => XS.iload XJ472.here hx rfl (hb hby at_501) rfl) ?_
                                show Go p e below P (TJ472.setTop (mkF m 503 #[.val (.long q0), .second, .val (.long q2), .second, .val (.long q4), .second, .val (.int p6), .val (.int p7), .val (.int p8), .val (.int p9), .val (.int w10), .val (.int t11), .val (.int j12), .val (.int p9), .val (.int ws), .val (.int pr), .val (.int cl), .val (.int tr), .val (.int nn), .val (.ref b1), .val (.int r_6), .val (.int r_7), .val (.int r_12), .val (.int r_13), .val (.int pc24), .val (.int ps), .val (.int vb), .val (.int at_), .val (.int e28), .val (.int c29), .val (.int ln), .val (.int e31), .unset, .unset] [(.int tr)]))
                                refine Go.by (fun _ => XS.iconst XJ472.here hx rfl (hb hby at_503)) ?_
                                show Go p e below P (TJ472.setTop (mkF m 504 #[.val (.long q0), .second, .val (.long q2), .second, .val (.long q4), .second, .val (.int p6), .val (.int p7), .val (.int p8), .val (.int p9), .val (.int w10), .val (.int t11), .val (.int j12), .val (.int p9), .val (.int ws), .val (.int pr), .val (.int cl), .val (.int tr), .val (.int nn), .val (.ref b1), .val (.int r_6), .val (.int r_7), .val (.int r_12), .val (.int r_13), .val (.int pc24), .val (.int ps), .val (.int vb), .val (.int at_), .val (.int e28), .val (.int c29), .val (.int ln), .val (.int e31), .unset, .unset] [(.int (1 : Int32)), (.int tr)]))
                                refine Go.by (fun _ => XS.iadd XJ472.here hx rfl (hb hby at_504) rfl) ?_
                                show Go p e below P (TJ472.setTop (mkF m 505 #[.val (.long q0), .second, .val (.long q2), .second, .val (.long q4), .second, .val (.int p6), .val (.int p7), .val (.int p8), .val (.int p9), .val (.int w10), .val (.int t11), .val (.int j12), .val (.int p9), .val (.int ws), .val (.int pr), .val (.int cl), .val (.int tr), .val (.int nn), .val (.ref b1), .val (.int r_6), .val (.int r_7), .val (.int r_12), .val (.int r_13), .val (.int pc24), .val (.int ps), .val (.int vb), .val (.int at_), .val (.int e28), .val (.int c29), .val (.int ln), .val (.int e31), .unset, .unset] [(.int (tr + (1 : Int32)))]))
                                refine Go.by (fun _ => XS.iload XJ472.here hx rfl (hb hby at_505) rfl) ?_
                                show Go p e below P (TJ472.setTop (mkF m 507 #[.val (.long q0), .second, .val (.long q2), .second, .val (.long q4), .second, .val (.int p6), .val (.int p7), .val (.int p8), .val (.int p9), .val (.int w10), .val (.int t11), .val (.int j12), .val (.int p9), .val (.int ws), .val (.int pr), .val (.int cl), .val (.int tr), .val (.int nn), .val (.ref b1), .val (.int r_6), .val (.int r_7), .val (.int r_12), .val (.int r_13), .val (.int pc24), .val (.int ps), .val (.int vb), .val (.int at_), .val (.int e28), .val (.int c29), .val (.int ln), .val (.int e31), .unset, .unset] [(.int ln), (.int (tr + (1 : Int32)))]))
                                by_cases hc507 : (tr + (1 : Int32)) < ln
                                · refine Go.by (fun _ => XS.icmpNo XJ472.here hx rfl (hb hby at_507) rfl (tlt hc507).2.1) ?_
                                  show Go p e below P (TJ472.setTop (mkF m 510 #[.val (.long q0), .second, .val (.long q2), .second, .val (.long q4), .second, .val (.int p6), .val (.int p7), .val (.int p8), .val (.int p9), .val (.int w10), .val (.int t11), .val (.int j12), .val (.int p9), .val (.int ws), .val (.int pr), .val (.int cl), .val (.int tr), .val (.int nn), .val (.ref b1), .val (.int r_6), .val (.int r_7), .val (.int r_12), .val (.int r_13), .val (.int pc24), .val (.int ps), .val (.int vb), .val (.int at_), .val (.int e28), .val (.int c29), .val (.int ln), .val (.int e31), .unset, .unset] []))
                                  refine Go.by (fun _ => XS.iload XJ472.here hx rfl (hb hby at_510) rfl) ?_
                                  show Go p e below P (TJ472.setTop (mkF m 512 #[.val (.long q0), .second, .val (.long q2), .second, .val (.long q4), .second, .val (.int p6), .val (.int p7), .val (.int p8), .val (.int p9), .val (.int w10), .val (.int t11), .val (.int j12), .val (.int p9), .val (.int ws), .val (.int pr), .val (.int cl), .val (.int tr), .val (.int nn), .val (.ref b1), .val (.int r_6), .val (.int r_7), .val (.int r_12), .val (.int r_13), .val (.int pc24), .val (.int ps), .val (.int vb), .val (.int at_), .val (.int e28), .val (.int c29), .val (.int ln), .val (.int e31), .unset, .unset] [(.int r_13)]))
                                  obtain ⟨_, _, ⟨T15, L15, k15, n15⟩, -, X15, ⟨Lc15, hQ15, l15, y15, z15⟩, st15⟩ := Jvm.LawKit.callS XJ472 hx (y := (⟨"com/example/wirecall/wirecall/bench/AnswersIsResultPinLaw", "sp", "(B)Z"⟩ : MethodName)) hown (mvT hZ (hw _ (List.mem_of_getElem? (i := 16) rfl))) (mvT hZ (hw _ (List.mem_of_getElem? (i := 17) rfl))) (mvT hZ (hw _ (List.mem_of_getElem? (i := 5) rfl))) (mvT hZ (hw _ (List.mem_of_getElem? (i := 18) rfl))) (by decide) (backOf (W := 0) (rm_sp l Z a0 hw [] wOPEN kOPEN wCLOSE kCLOSE wPARAMS kPARAMS hG r_13 hJ403 n0 ZJ403 OJ403  ) hZ (hw _ (List.mem_of_getElem? (i := 18) rfl)) (hw _ (List.mem_of_getElem? (i := 5) rfl)) (Nat.le_of_ble_eq_true rfl) (Nat.le_of_ble_eq_true rfl)) (g := (mkF m 512 #[.val (.long q0), .second, .val (.long q2), .second, .val (.long q4), .second, .val (.int p6), .val (.int p7), .val (.int p8), .val (.int p9), .val (.int w10), .val (.int t11), .val (.int j12), .val (.int p9), .val (.int ws), .val (.int pr), .val (.int cl), .val (.int tr), .val (.int nn), .val (.ref b1), .val (.int r_6), .val (.int r_7), .val (.int r_12), .val (.int r_13), .val (.int pc24), .val (.int ps), .val (.int vb), .val (.int at_), .val (.int e28), .val (.int c29), .val (.int ln), .val (.int e31), .unset, .unset] [(.int r_13)])) rfl (by rw [hml]; rfl) (argsL := [(.int r_13)]) (rest := []) (lenOf pd_2 rfl) rfl (by show 2 * 0 + _ ≤ _; exact Nat.le_of_eq rfl) (hb hby at_512) (fun _ _ => ⟨rfl, eJ472, (Nat.le_of_ble_eq_true rfl : 1 + 0 ≤ _), (Nat.le_of_ble_eq_true rfl : 60 + 0 ≤ _)⟩)
                                  dsimp only [Pt.U, Pt.locs, Pt.cells, Pt.slots] at X15 l15 y15 z15 st15 hQ15
                                  subst l15 y15 z15
                                  obtain ⟨r_15, rfl, Nq15, eq15, hq15_0⟩ := hQ15
                                  have N15 := Fr.app NJ472 Nq15
                                  refine Go.by (fun _ => st15 _) ?_
                                  show Go p e below P (T15.setTop (mkF m 515 #[.val (.long q0), .second, .val (.long q2), .second, .val (.long q4), .second, .val (.int p6), .val (.int p7), .val (.int p8), .val (.int p9), .val (.int w10), .val (.int t11), .val (.int j12), .val (.int p9), .val (.int ws), .val (.int pr), .val (.int cl), .val (.int tr), .val (.int nn), .val (.ref b1), .val (.int r_6), .val (.int r_7), .val (.int r_12), .val (.int r_13), .val (.int pc24), .val (.int ps), .val (.int vb), .val (.int at_), .val (.int e28), .val (.int c29), .val (.int ln), .val (.int e31), .unset, .unset] [(.int r_15)]))
                                  rcases hq15_0 with ⟨rfl, hst1⟩ | ⟨rfl, hst1⟩
                                  · show Go p e below P (T15.setTop (mkF m 515 #[.val (.long q0), .second, .val (.long q2), .second, .val (.long q4), .second, .val (.int p6), .val (.int p7), .val (.int p8), .val (.int p9), .val (.int w10), .val (.int t11), .val (.int j12), .val (.int p9), .val (.int ws), .val (.int pr), .val (.int cl), .val (.int tr), .val (.int nn), .val (.ref b1), .val (.int r_6), .val (.int r_7), .val (.int r_12), .val (.int r_13), .val (.int pc24), .val (.int ps), .val (.int vb), .val (.int at_), .val (.int e28), .val (.int c29), .val (.int ln), .val (.int e31), .unset, .unset] [(.int (1 : Int32))]))
                                    have hc515 : ¬ ((1 : Int32) = (0 : Int32)) := by decide
                                    refine Go.by (fun _ => XS.ifNo X15.here hx rfl (hb hby at_515) rfl ((if0 _ _).trans (feq hc515).1)) ?_
                                    show Go p e below P (T15.setTop (mkF m 518 #[.val (.long q0), .second, .val (.long q2), .second, .val (.long q4), .second, .val (.int p6), .val (.int p7), .val (.int p8), .val (.int p9), .val (.int w10), .val (.int t11), .val (.int j12), .val (.int p9), .val (.int ws), .val (.int pr), .val (.int cl), .val (.int tr), .val (.int nn), .val (.ref b1), .val (.int r_6), .val (.int r_7), .val (.int r_12), .val (.int r_13), .val (.int pc24), .val (.int ps), .val (.int vb), .val (.int at_), .val (.int e28), .val (.int c29), .val (.int ln), .val (.int e31), .unset, .unset] []))
                                    refine Go.by (fun _ => XS.iconst X15.here hx rfl (hb hby at_518)) ?_
                                    show Go p e below P (T15.setTop (mkF m 519 #[.val (.long q0), .second, .val (.long q2), .second, .val (.long q4), .second, .val (.int p6), .val (.int p7), .val (.int p8), .val (.int p9), .val (.int w10), .val (.int t11), .val (.int j12), .val (.int p9), .val (.int ws), .val (.int pr), .val (.int cl), .val (.int tr), .val (.int nn), .val (.ref b1), .val (.int r_6), .val (.int r_7), .val (.int r_12), .val (.int r_13), .val (.int pc24), .val (.int ps), .val (.int vb), .val (.int at_), .val (.int e28), .val (.int c29), .val (.int ln), .val (.int e31), .unset, .unset] [(.int (1 : Int32))]))
                                    refine Go.by (fun _ => XS.goto X15.here hx rfl (pc0 := 519) (pc' := 523) rfl (hb hby at_519) (by decide) (by decide)) ?_
                                    show Go p e below P (T15.setTop (mkF m 523 #[.val (.long q0), .second, .val (.long q2), .second, .val (.long q4), .second, .val (.int p6), .val (.int p7), .val (.int p8), .val (.int p9), .val (.int w10), .val (.int t11), .val (.int j12), .val (.int p9), .val (.int ws), .val (.int pr), .val (.int cl), .val (.int tr), .val (.int nn), .val (.ref b1), .val (.int r_6), .val (.int r_7), .val (.int r_12), .val (.int r_13), .val (.int pc24), .val (.int ps), .val (.int vb), .val (.int at_), .val (.int e28), .val (.int c29), .val (.int ln), .val (.int e31), .unset, .unset] [(.int (1 : Int32))]))
                                    exact J523 T15 _ X15 eq15 N15 (1 : Int32) (Or.inl ⟨rfl, fun q _ => (own_nn q ((own_tlt htN own_t1).mp hc477) (by decide)).elim, fun _ _ => hst1⟩)
                                  · show Go p e below P (T15.setTop (mkF m 515 #[.val (.long q0), .second, .val (.long q2), .second, .val (.long q4), .second, .val (.int p6), .val (.int p7), .val (.int p8), .val (.int p9), .val (.int w10), .val (.int t11), .val (.int j12), .val (.int p9), .val (.int ws), .val (.int pr), .val (.int cl), .val (.int tr), .val (.int nn), .val (.ref b1), .val (.int r_6), .val (.int r_7), .val (.int r_12), .val (.int r_13), .val (.int pc24), .val (.int ps), .val (.int vb), .val (.int at_), .val (.int e28), .val (.int c29), .val (.int ln), .val (.int e31), .unset, .unset] [(.int (0 : Int32))]))
                                    have hc515 : (0 : Int32) = (0 : Int32) := by decide
                                    refine Go.by (fun _ => XS.ifYes X15.here hx rfl (pc0 := 515) (pc' := 522) rfl (hb hby at_515) rfl ((if0 _ _).trans (teq hc515).1) (by decide) (by decide)) ?_
                                    show Go p e below P (T15.setTop (mkF m 522 #[.val (.long q0), .second, .val (.long q2), .second, .val (.long q4), .second, .val (.int p6), .val (.int p7), .val (.int p8), .val (.int p9), .val (.int w10), .val (.int t11), .val (.int j12), .val (.int p9), .val (.int ws), .val (.int pr), .val (.int cl), .val (.int tr), .val (.int nn), .val (.ref b1), .val (.int r_6), .val (.int r_7), .val (.int r_12), .val (.int r_13), .val (.int pc24), .val (.int ps), .val (.int vb), .val (.int at_), .val (.int e28), .val (.int c29), .val (.int ln), .val (.int e31), .unset, .unset] []))
                                    refine Go.by (fun _ => XS.iconst X15.here hx rfl (hb hby at_522)) ?_
                                    show Go p e below P (T15.setTop (mkF m 523 #[.val (.long q0), .second, .val (.long q2), .second, .val (.long q4), .second, .val (.int p6), .val (.int p7), .val (.int p8), .val (.int p9), .val (.int w10), .val (.int t11), .val (.int j12), .val (.int p9), .val (.int ws), .val (.int pr), .val (.int cl), .val (.int tr), .val (.int nn), .val (.ref b1), .val (.int r_6), .val (.int r_7), .val (.int r_12), .val (.int r_13), .val (.int pc24), .val (.int ps), .val (.int vb), .val (.int at_), .val (.int e28), .val (.int c29), .val (.int ln), .val (.int e31), .unset, .unset] [(.int (0 : Int32))]))
                                    exact J523 T15 _ X15 eq15 N15 (0 : Int32) (Or.inr ⟨rfl, fun q => hst1 (q.2 (Nat.not_lt.mp ((not_congr (own_tlt htN own_t2)).mp hc498)) ((own_tlt htr1 hln).mp hc507))⟩)
                                · refine Go.by (fun _ => XS.icmpYes XJ472.here hx rfl (pc0 := 507) (pc' := 518) rfl (hb hby at_507) rfl (flt hc507).2.1 (by decide) (by decide)) ?_
                                  show Go p e below P (TJ472.setTop (mkF m 518 #[.val (.long q0), .second, .val (.long q2), .second, .val (.long q4), .second, .val (.int p6), .val (.int p7), .val (.int p8), .val (.int p9), .val (.int w10), .val (.int t11), .val (.int j12), .val (.int p9), .val (.int ws), .val (.int pr), .val (.int cl), .val (.int tr), .val (.int nn), .val (.ref b1), .val (.int r_6), .val (.int r_7), .val (.int r_12), .val (.int r_13), .val (.int pc24), .val (.int ps), .val (.int vb), .val (.int at_), .val (.int e28), .val (.int c29), .val (.int ln), .val (.int e31), .unset, .unset] []))
                                  refine Go.by (fun _ => XS.iconst XJ472.here hx rfl (hb hby at_518)) ?_
                                  show Go p e below P (TJ472.setTop (mkF m 519 #[.val (.long q0), .second, .val (.long q2), .second, .val (.long q4), .second, .val (.int p6), .val (.int p7), .val (.int p8), .val (.int p9), .val (.int w10), .val (.int t11), .val (.int j12), .val (.int p9), .val (.int ws), .val (.int pr), .val (.int cl), .val (.int tr), .val (.int nn), .val (.ref b1), .val (.int r_6), .val (.int r_7), .val (.int r_12), .val (.int r_13), .val (.int pc24), .val (.int ps), .val (.int vb), .val (.int at_), .val (.int e28), .val (.int c29), .val (.int ln), .val (.int e31), .unset, .unset] [(.int (1 : Int32))]))
                                  refine Go.by (fun _ => XS.goto XJ472.here hx rfl (pc0 := 519) (pc' := 523) rfl (hb hby at_519) (by decide) (by decide)) ?_
                                  show Go p e below P (TJ472.setTop (mkF m 523 #[.val (.long q0), .second, .val (.long q2), .second, .val (.long q4), .second, .val (.int p6), .val (.int p7), .val (.int p8), .val (.int p9), .val (.int w10), .val (.int t11), .val (.int j12), .val (.int p9), .val (.int ws), .val (.int pr), .val (.int cl), .val (.int tr), .val (.int nn), .val (.ref b1), .val (.int r_6), .val (.int r_7), .val (.int r_12), .val (.int r_13), .val (.int pc24), .val (.int ps), .val (.int vb), .val (.int at_), .val (.int e28), .val (.int c29), .val (.int ln), .val (.int e31), .unset, .unset] [(.int (1 : Int32))]))
                                  exact J523 TJ472 _ XJ472 eJ472 NJ472 (1 : Int32) (Or.inl ⟨rfl, fun q _ => (own_nn q ((own_tlt htN own_t1).mp hc477) (by decide)).elim, fun _ q' => absurd q' ((not_congr (own_tlt htr1 hln)).mp hc507)⟩)
                            · refine Go.by (fun _ => XS.icmpNo XJ472.here hx rfl (hb hby at_477) rfl (flt hc477).1) ?_
                              show Go p e below P (TJ472.setTop (mkF m 480 #[.val (.long q0), .second, .val (.long q2), .second, .val (.long q4), .second, .val (.int p6), .val (.int p7), .val (.int p8), .val (.int p9), .val (.int w10), .val (.int t11), .val (.int j12), .val (.int p9), .val (.int ws), .val (.int pr), .val (.int cl), .val (.int tr), .val (.int nn), .val (.ref b1), .val (.int r_6), .val (.int r_7), .val (.int r_12), .val (.int r_13), .val (.int pc24), .val (.int ps), .val (.int vb), .val (.int at_), .val (.int e28), .val (.int c29), .val (.int ln), .val (.int e31), .unset, .unset] []))
                              refine Go.by (fun _ => XS.iload XJ472.here hx rfl (hb hby at_480) rfl) ?_
                              show Go p e below P (TJ472.setTop (mkF m 482 #[.val (.long q0), .second, .val (.long q2), .second, .val (.long q4), .second, .val (.int p6), .val (.int p7), .val (.int p8), .val (.int p9), .val (.int w10), .val (.int t11), .val (.int j12), .val (.int p9), .val (.int ws), .val (.int pr), .val (.int cl), .val (.int tr), .val (.int nn), .val (.ref b1), .val (.int r_6), .val (.int r_7), .val (.int r_12), .val (.int r_13), .val (.int pc24), .val (.int ps), .val (.int vb), .val (.int at_), .val (.int e28), .val (.int c29), .val (.int ln), .val (.int e31), .unset, .unset] [(.int tr)]))
                              refine Go.by (fun _ => XS.iload XJ472.here hx rfl (hb hby at_482) rfl) ?_
                              show Go p e below P (TJ472.setTop (mkF m 484 #[.val (.long q0), .second, .val (.long q2), .second, .val (.long q4), .second, .val (.int p6), .val (.int p7), .val (.int p8), .val (.int p9), .val (.int w10), .val (.int t11), .val (.int j12), .val (.int p9), .val (.int ws), .val (.int pr), .val (.int cl), .val (.int tr), .val (.int nn), .val (.ref b1), .val (.int r_6), .val (.int r_7), .val (.int r_12), .val (.int r_13), .val (.int pc24), .val (.int ps), .val (.int vb), .val (.int at_), .val (.int e28), .val (.int c29), .val (.int ln), .val (.int e31), .unset, .unset] [(.int ln), (.int tr)]))
                              by_cases hc484 : tr < ln
                              · refine Go.by (fun _ => XS.icmpNo XJ472.here hx rfl (hb hby at_484) rfl (tlt hc484).2.1) ?_
                                show Go p e below P (TJ472.setTop (mkF m 487 #[.val (.long q0), .second, .val (.long q2), .second, .val (.long q4), .second, .val (.int p6), .val (.int p7), .val (.int p8), .val (.int p9), .val (.int w10), .val (.int t11), .val (.int j12), .val (.int p9), .val (.int ws), .val (.int pr), .val (.int cl), .val (.int tr), .val (.int nn), .val (.ref b1), .val (.int r_6), .val (.int r_7), .val (.int r_12), .val (.int r_13), .val (.int pc24), .val (.int ps), .val (.int vb), .val (.int at_), .val (.int e28), .val (.int c29), .val (.int ln), .val (.int e31), .unset, .unset] []))
                                refine Go.by (fun _ => XS.iload XJ472.here hx rfl (hb hby at_487) rfl) ?_
                                show Go p e below P (TJ472.setTop (mkF m 489 #[.val (.long q0), .second, .val (.long q2), .second, .val (.long q4), .second, .val (.int p6), .val (.int p7), .val (.int p8), .val (.int p9), .val (.int w10), .val (.int t11), .val (.int j12), .val (.int p9), .val (.int ws), .val (.int pr), .val (.int cl), .val (.int tr), .val (.int nn), .val (.ref b1), .val (.int r_6), .val (.int r_7), .val (.int r_12), .val (.int r_13), .val (.int pc24), .val (.int ps), .val (.int vb), .val (.int at_), .val (.int e28), .val (.int c29), .val (.int ln), .val (.int e31), .unset, .unset] [(.int r_12)]))
                                obtain ⟨_, _, ⟨T16, L16, k16, n16⟩, -, X16, ⟨Lc16, hQ16, l16, y16, z16⟩, st16⟩ := Jvm.LawKit.callS XJ472 hx (y := (⟨"com/example/wirecall/wirecall/bench/AnswersIsResultPinLaw", "sp", "(B)Z"⟩ : MethodName)) hown (mvT hZ (hw _ (List.mem_of_getElem? (i := 16) rfl))) (mvT hZ (hw _ (List.mem_of_getElem? (i := 17) rfl))) (mvT hZ (hw _ (List.mem_of_getElem? (i := 5) rfl))) (mvT hZ (hw _ (List.mem_of_getElem? (i := 18) rfl))) (by decide) (backOf (W := 0) (rm_sp l Z a0 hw [] wOPEN kOPEN wCLOSE kCLOSE wPARAMS kPARAMS hG r_12 hJ403 n0 ZJ403 OJ403  ) hZ (hw _ (List.mem_of_getElem? (i := 18) rfl)) (hw _ (List.mem_of_getElem? (i := 5) rfl)) (Nat.le_of_ble_eq_true rfl) (Nat.le_of_ble_eq_true rfl)) (g := (mkF m 489 #[.val (.long q0), .second, .val (.long q2), .second, .val (.long q4), .second, .val (.int p6), .val (.int p7), .val (.int p8), .val (.int p9), .val (.int w10), .val (.int t11), .val (.int j12), .val (.int p9), .val (.int ws), .val (.int pr), .val (.int cl), .val (.int tr), .val (.int nn), .val (.ref b1), .val (.int r_6), .val (.int r_7), .val (.int r_12), .val (.int r_13), .val (.int pc24), .val (.int ps), .val (.int vb), .val (.int at_), .val (.int e28), .val (.int c29), .val (.int ln), .val (.int e31), .unset, .unset] [(.int r_12)])) rfl (by rw [hml]; rfl) (argsL := [(.int r_12)]) (rest := []) (lenOf pd_2 rfl) rfl (by show 2 * 0 + _ ≤ _; exact Nat.le_of_eq rfl) (hb hby at_489) (fun _ _ => ⟨rfl, eJ472, (Nat.le_of_ble_eq_true rfl : 1 + 0 ≤ _), (Nat.le_of_ble_eq_true rfl : 60 + 0 ≤ _)⟩)
                                dsimp only [Pt.U, Pt.locs, Pt.cells, Pt.slots] at X16 l16 y16 z16 st16 hQ16
                                subst l16 y16 z16
                                obtain ⟨r_16, rfl, Nq16, eq16, hq16_0⟩ := hQ16
                                have N16 := Fr.app NJ472 Nq16
                                refine Go.by (fun _ => st16 _) ?_
                                show Go p e below P (T16.setTop (mkF m 492 #[.val (.long q0), .second, .val (.long q2), .second, .val (.long q4), .second, .val (.int p6), .val (.int p7), .val (.int p8), .val (.int p9), .val (.int w10), .val (.int t11), .val (.int j12), .val (.int p9), .val (.int ws), .val (.int pr), .val (.int cl), .val (.int tr), .val (.int nn), .val (.ref b1), .val (.int r_6), .val (.int r_7), .val (.int r_12), .val (.int r_13), .val (.int pc24), .val (.int ps), .val (.int vb), .val (.int at_), .val (.int e28), .val (.int c29), .val (.int ln), .val (.int e31), .unset, .unset] [(.int r_16)]))
                                rcases hq16_0 with ⟨rfl, hst0⟩ | ⟨rfl, hst0⟩
                                · show Go p e below P (T16.setTop (mkF m 492 #[.val (.long q0), .second, .val (.long q2), .second, .val (.long q4), .second, .val (.int p6), .val (.int p7), .val (.int p8), .val (.int p9), .val (.int w10), .val (.int t11), .val (.int j12), .val (.int p9), .val (.int ws), .val (.int pr), .val (.int cl), .val (.int tr), .val (.int nn), .val (.ref b1), .val (.int r_6), .val (.int r_7), .val (.int r_12), .val (.int r_13), .val (.int pc24), .val (.int ps), .val (.int vb), .val (.int at_), .val (.int e28), .val (.int c29), .val (.int ln), .val (.int e31), .unset, .unset] [(.int (1 : Int32))]))
                                  have hc492 : ¬ ((1 : Int32) = (0 : Int32)) := by decide
                                  refine Go.by (fun _ => XS.ifNo X16.here hx rfl (hb hby at_492) rfl ((if0 _ _).trans (feq hc492).1)) ?_
                                  show Go p e below P (T16.setTop (mkF m 495 #[.val (.long q0), .second, .val (.long q2), .second, .val (.long q4), .second, .val (.int p6), .val (.int p7), .val (.int p8), .val (.int p9), .val (.int w10), .val (.int t11), .val (.int j12), .val (.int p9), .val (.int ws), .val (.int pr), .val (.int cl), .val (.int tr), .val (.int nn), .val (.ref b1), .val (.int r_6), .val (.int r_7), .val (.int r_12), .val (.int r_13), .val (.int pc24), .val (.int ps), .val (.int vb), .val (.int at_), .val (.int e28), .val (.int c29), .val (.int ln), .val (.int e31), .unset, .unset] []))
                                  refine Go.by (fun _ => XS.iload X16.here hx rfl (hb hby at_495) rfl) ?_
                                  show Go p e below P (T16.setTop (mkF m 497 #[.val (.long q0), .second, .val (.long q2), .second, .val (.long q4), .second, .val (.int p6), .val (.int p7), .val (.int p8), .val (.int p9), .val (.int w10), .val (.int t11), .val (.int j12), .val (.int p9), .val (.int ws), .val (.int pr), .val (.int cl), .val (.int tr), .val (.int nn), .val (.ref b1), .val (.int r_6), .val (.int r_7), .val (.int r_12), .val (.int r_13), .val (.int pc24), .val (.int ps), .val (.int vb), .val (.int at_), .val (.int e28), .val (.int c29), .val (.int ln), .val (.int e31), .unset, .unset] [(.int t11)]))
                                  refine Go.by (fun _ => XS.iconst X16.here hx rfl (hb hby at_497)) ?_
                                  show Go p e below P (T16.setTop (mkF m 498 #[.val (.long q0), .second, .val (.long q2), .second, .val (.long q4), .second, .val (.int p6), .val (.int p7), .val (.int p8), .val (.int p9), .val (.int w10), .val (.int t11), .val (.int j12), .val (.int p9), .val (.int ws), .val (.int pr), .val (.int cl), .val (.int tr), .val (.int nn), .val (.ref b1), .val (.int r_6), .val (.int r_7), .val (.int r_12), .val (.int r_13), .val (.int pc24), .val (.int ps), .val (.int vb), .val (.int at_), .val (.int e28), .val (.int c29), .val (.int ln), .val (.int e31), .unset, .unset] [(.int (2 : Int32)), (.int t11)]))
                                  by_cases hc498 : t11 < (2 : Int32)
                                  · refine Go.by (fun _ => XS.icmpYes X16.here hx rfl (pc0 := 498) (pc' := 518) rfl (hb hby at_498) rfl (tlt hc498).1 (by decide) (by decide)) ?_
                                    show Go p e below P (T16.setTop (mkF m 518 #[.val (.long q0), .second, .val (.long q2), .second, .val (.long q4), .second, .val (.int p6), .val (.int p7), .val (.int p8), .val (.int p9), .val (.int w10), .val (.int t11), .val (.int j12), .val (.int p9), .val (.int ws), .val (.int pr), .val (.int cl), .val (.int tr), .val (.int nn), .val (.ref b1), .val (.int r_6), .val (.int r_7), .val (.int r_12), .val (.int r_13), .val (.int pc24), .val (.int ps), .val (.int vb), .val (.int at_), .val (.int e28), .val (.int c29), .val (.int ln), .val (.int e31), .unset, .unset] []))
                                    refine Go.by (fun _ => XS.iconst X16.here hx rfl (hb hby at_518)) ?_
                                    show Go p e below P (T16.setTop (mkF m 519 #[.val (.long q0), .second, .val (.long q2), .second, .val (.long q4), .second, .val (.int p6), .val (.int p7), .val (.int p8), .val (.int p9), .val (.int w10), .val (.int t11), .val (.int j12), .val (.int p9), .val (.int ws), .val (.int pr), .val (.int cl), .val (.int tr), .val (.int nn), .val (.ref b1), .val (.int r_6), .val (.int r_7), .val (.int r_12), .val (.int r_13), .val (.int pc24), .val (.int ps), .val (.int vb), .val (.int at_), .val (.int e28), .val (.int c29), .val (.int ln), .val (.int e31), .unset, .unset] [(.int (1 : Int32))]))
                                    refine Go.by (fun _ => XS.goto X16.here hx rfl (pc0 := 519) (pc' := 523) rfl (hb hby at_519) (by decide) (by decide)) ?_
                                    show Go p e below P (T16.setTop (mkF m 523 #[.val (.long q0), .second, .val (.long q2), .second, .val (.long q4), .second, .val (.int p6), .val (.int p7), .val (.int p8), .val (.int p9), .val (.int w10), .val (.int t11), .val (.int j12), .val (.int p9), .val (.int ws), .val (.int pr), .val (.int cl), .val (.int tr), .val (.int nn), .val (.ref b1), .val (.int r_6), .val (.int r_7), .val (.int r_12), .val (.int r_13), .val (.int pc24), .val (.int ps), .val (.int vb), .val (.int at_), .val (.int e28), .val (.int c29), .val (.int ln), .val (.int e31), .unset, .unset] [(.int (1 : Int32))]))
                                    exact J523 T16 _ X16 eq16 N16 (1 : Int32) (Or.inl ⟨rfl, fun _ _ => hst0, fun q _ => (own_nn q ((own_tlt htN own_t2).mp hc498) (by decide)).elim⟩)
                                  · refine Go.by (fun _ => XS.icmpNo X16.here hx rfl (hb hby at_498) rfl (flt hc498).1) ?_
                                    show Go p e below P (T16.setTop (mkF m 501 #[.val (.long q0), .second, .val (.long q2), .second, .val (.long q4), .second, .val (.int p6), .val (.int p7), .val (.int p8), .val (.int p9), .val (.int w10), .val (.int t11), .val (.int j12), .val (.int p9), .val (.int ws), .val (.int pr), .val (.int cl), .val (.int tr), .val (.int nn), .val (.ref b1), .val (.int r_6), .val (.int r_7), .val (.int r_12), .val (.int r_13), .val (.int pc24), .val (.int ps), .val (.int vb), .val (.int at_), .val (.int e28), .val (.int c29), .val (.int ln), .val (.int e31), .unset, .unset] []))
                                    refine Go.by (fun _ => XS.iload X16.here hx rfl (hb hby at_501) rfl) ?_
                                    show Go p e below P (T16.setTop (mkF m 503 #[.val (.long q0), .second, .val (.long q2), .second, .val (.long q4), .second, .val (.int p6), .val (.int p7), .val (.int p8), .val (.int p9), .val (.int w10), .val (.int t11), .val (.int j12), .val (.int p9), .val (.int ws), .val (.int pr), .val (.int cl), .val (.int tr), .val (.int nn), .val (.ref b1), .val (.int r_6), .val (.int r_7), .val (.int r_12), .val (.int r_13), .val (.int pc24), .val (.int ps), .val (.int vb), .val (.int at_), .val (.int e28), .val (.int c29), .val (.int ln), .val (.int e31), .unset, .unset] [(.int tr)]))
                                    refine Go.by (fun _ => XS.iconst X16.here hx rfl (hb hby at_503)) ?_
                                    show Go p e below P (T16.setTop (mkF m 504 #[.val (.long q0), .second, .val (.long q2), .second, .val (.long q4), .second, .val (.int p6), .val (.int p7), .val (.int p8), .val (.int p9), .val (.int w10), .val (.int t11), .val (.int j12), .val (.int p9), .val (.int ws), .val (.int pr), .val (.int cl), .val (.int tr), .val (.int nn), .val (.ref b1), .val (.int r_6), .val (.int r_7), .val (.int r_12), .val (.int r_13), .val (.int pc24), .val (.int ps), .val (.int vb), .val (.int at_), .val (.int e28), .val (.int c29), .val (.int ln), .val (.int e31), .unset, .unset] [(.int (1 : Int32)), (.int tr)]))
                                    refine Go.by (fun _ => XS.iadd X16.here hx rfl (hb hby at_504) rfl) ?_
                                    show Go p e below P (T16.setTop (mkF m 505 #[.val (.long q0), .second, .val (.long q2), .second, .val (.long q4), .second, .val (.int p6), .val (.int p7), .val (.int p8), .val (.int p9), .val (.int w10), .val (.int t11), .val (.int j12), .val (.int p9), .val (.int ws), .val (.int pr), .val (.int cl), .val (.int tr), .val (.int nn), .val (.ref b1), .val (.int r_6), .val (.int r_7), .val (.int r_12), .val (.int r_13), .val (.int pc24), .val (.int ps), .val (.int vb), .val (.int at_), .val (.int e28), .val (.int c29), .val (.int ln), .val (.int e31), .unset, .unset] [(.int (tr + (1 : Int32)))]))
                                    refine Go.by (fun _ => XS.iload X16.here hx rfl (hb hby at_505) rfl) ?_
                                    show Go p e below P (T16.setTop (mkF m 507 #[.val (.long q0), .second, .val (.long q2), .second, .val (.long q4), .second, .val (.int p6), .val (.int p7), .val (.int p8), .val (.int p9), .val (.int w10), .val (.int t11), .val (.int j12), .val (.int p9), .val (.int ws), .val (.int pr), .val (.int cl), .val (.int tr), .val (.int nn), .val (.ref b1), .val (.int r_6), .val (.int r_7), .val (.int r_12), .val (.int r_13), .val (.int pc24), .val (.int ps), .val (.int vb), .val (.int at_), .val (.int e28), .val (.int c29), .val (.int ln), .val (.int e31), .unset, .unset] [(.int ln), (.int (tr + (1 : Int32)))]))
                                    by_cases hc507 : (tr + (1 : Int32)) < ln
                                    · refine Go.by (fun _ => XS.icmpNo X16.here hx rfl (hb hby at_507) rfl (tlt hc507).2.1) ?_
                                      show Go p e below P (T16.setTop (mkF m 510 #[.val (.long q0), .second, .val (.long q2), .second, .val (.long q4), .second, .val (.int p6), .val (.int p7), .val (.int p8), .val (.int p9), .val (.int w10), .val (.int t11), .val (.int j12), .val (.int p9), .val (.int ws), .val (.int pr), .val (.int cl), .val (.int tr), .val (.int nn), .val (.ref b1), .val (.int r_6), .val (.int r_7), .val (.int r_12), .val (.int r_13), .val (.int pc24), .val (.int ps), .val (.int vb), .val (.int at_), .val (.int e28), .val (.int c29), .val (.int ln), .val (.int e31), .unset, .unset] []))
                                      refine Go.by (fun _ => XS.iload X16.here hx rfl (hb hby at_510) rfl) ?_
                                      show Go p e below P (T16.setTop (mkF m 512 #[.val (.long q0), .second, .val (.long q2), .second, .val (.long q4), .second, .val (.int p6), .val (.int p7), .val (.int p8), .val (.int p9), .val (.int w10), .val (.int t11), .val (.int j12), .val (.int p9), .val (.int ws), .val (.int pr), .val (.int cl), .val (.int tr), .val (.int nn), .val (.ref b1), .val (.int r_6), .val (.int r_7), .val (.int r_12), .val (.int r_13), .val (.int pc24), .val (.int ps), .val (.int vb), .val (.int at_), .val (.int e28), .val (.int c29), .val (.int ln), .val (.int e31), .unset, .unset] [(.int r_13)]))
                                      obtain ⟨_, _, ⟨T17, L17, k17, n17⟩, -, X17, ⟨Lc17, hQ17, l17, y17, z17⟩, st17⟩ := Jvm.LawKit.callS X16 hx (y := (⟨"com/example/wirecall/wirecall/bench/AnswersIsResultPinLaw", "sp", "(B)Z"⟩ : MethodName)) hown (mvT hZ (hw _ (List.mem_of_getElem? (i := 16) rfl))) (mvT hZ (hw _ (List.mem_of_getElem? (i := 17) rfl))) (mvT hZ (hw _ (List.mem_of_getElem? (i := 5) rfl))) (mvT hZ (hw _ (List.mem_of_getElem? (i := 18) rfl))) (by decide) (backOf (W := 0) (rm_sp l Z a0 hw [] wOPEN kOPEN wCLOSE kCLOSE wPARAMS kPARAMS hG r_13 hJ403 n0 ZJ403 OJ403  ) hZ (hw _ (List.mem_of_getElem? (i := 18) rfl)) (hw _ (List.mem_of_getElem? (i := 5) rfl)) (Nat.le_of_ble_eq_true rfl) (Nat.le_of_ble_eq_true rfl)) (g := (mkF m 512 #[.val (.long q0), .second, .val (.long q2), .second, .val (.long q4), .second, .val (.int p6), .val (.int p7), .val (.int p8), .val (.int p9), .val (.int w10), .val (.int t11), .val (.int j12), .val (.int p9), .val (.int ws), .val (.int pr), .val (.int cl), .val (.int tr), .val (.int nn), .val (.ref b1), .val (.int r_6), .val (.int r_7), .val (.int r_12), .val (.int r_13), .val (.int pc24), .val (.int ps), .val (.int vb), .val (.int at_), .val (.int e28), .val (.int c29), .val (.int ln), .val (.int e31), .unset, .unset] [(.int r_13)])) rfl (by rw [hml]; rfl) (argsL := [(.int r_13)]) (rest := []) (lenOf pd_2 rfl) rfl (by show 2 * 0 + _ ≤ _; exact Nat.le_of_eq rfl) (hb hby at_512) (fun _ _ => ⟨rfl, eq16, (Nat.le_of_ble_eq_true rfl : 1 + 0 ≤ _), (Nat.le_of_ble_eq_true rfl : 60 + 0 ≤ _)⟩)
                                      dsimp only [Pt.U, Pt.locs, Pt.cells, Pt.slots] at X17 l17 y17 z17 st17 hQ17
                                      subst l17 y17 z17
                                      obtain ⟨r_17, rfl, Nq17, eq17, hq17_0⟩ := hQ17
                                      have N17 := Fr.app N16 Nq17
                                      refine Go.by (fun _ => st17 _) ?_
                                      show Go p e below P (T17.setTop (mkF m 515 #[.val (.long q0), .second, .val (.long q2), .second, .val (.long q4), .second, .val (.int p6), .val (.int p7), .val (.int p8), .val (.int p9), .val (.int w10), .val (.int t11), .val (.int j12), .val (.int p9), .val (.int ws), .val (.int pr), .val (.int cl), .val (.int tr), .val (.int nn), .val (.ref b1), .val (.int r_6), .val (.int r_7), .val (.int r_12), .val (.int r_13), .val (.int pc24), .val (.int ps), .val (.int vb), .val (.int at_), .val (.int e28), .val (.int c29), .val (.int ln), .val (.int e31), .unset, .unset] [(.int r_17)]))
                                      rcases hq17_0 with ⟨rfl, hst1⟩ | ⟨rfl, hst1⟩
                                      · show Go p e below P (T17.setTop (mkF m 515 #[.val (.long q0), .second, .val (.long q2), .second, .val (.long q4), .second, .val (.int p6), .val (.int p7), .val (.int p8), .val (.int p9), .val (.int w10), .val (.int t11), .val (.int j12), .val (.int p9), .val (.int ws), .val (.int pr), .val (.int cl), .val (.int tr), .val (.int nn), .val (.ref b1), .val (.int r_6), .val (.int r_7), .val (.int r_12), .val (.int r_13), .val (.int pc24), .val (.int ps), .val (.int vb), .val (.int at_), .val (.int e28), .val (.int c29), .val (.int ln), .val (.int e31), .unset, .unset] [(.int (1 : Int32))]))
                                        have hc515 : ¬ ((1 : Int32) = (0 : Int32)) := by decide
                                        refine Go.by (fun _ => XS.ifNo X17.here hx rfl (hb hby at_515) rfl ((if0 _ _).trans (feq hc515).1)) ?_
                                        show Go p e below P (T17.setTop (mkF m 518 #[.val (.long q0), .second, .val (.long q2), .second, .val (.long q4), .second, .val (.int p6), .val (.int p7), .val (.int p8), .val (.int p9), .val (.int w10), .val (.int t11), .val (.int j12), .val (.int p9), .val (.int ws), .val (.int pr), .val (.int cl), .val (.int tr), .val (.int nn), .val (.ref b1), .val (.int r_6), .val (.int r_7), .val (.int r_12), .val (.int r_13), .val (.int pc24), .val (.int ps), .val (.int vb), .val (.int at_), .val (.int e28), .val (.int c29), .val (.int ln), .val (.int e31), .unset, .unset] []))
                                        refine Go.by (fun _ => XS.iconst X17.here hx rfl (hb hby at_518)) ?_
                                        show Go p e below P (T17.setTop (mkF m 519 #[.val (.long q0), .second, .val (.long q2), .second, .val (.long q4), .second, .val (.int p6), .val (.int p7), .val (.int p8), .val (.int p9), .val (.int w10), .val (.int t11), .val (.int j12), .val (.int p9), .val (.int ws), .val (.int pr), .val (.int cl), .val (.int tr), .val (.int nn), .val (.ref b1), .val (.int r_6), .val (.int r_7), .val (.int r_12), .val (.int r_13), .val (.int pc24), .val (.int ps), .val (.int vb), .val (.int at_), .val (.int e28), .val (.int c29), .val (.int ln), .val (.int e31), .unset, .unset] [(.int (1 : Int32))]))
                                        refine Go.by (fun _ => XS.goto X17.here hx rfl (pc0 := 519) (pc' := 523) rfl (hb hby at_519) (by decide) (by decide)) ?_
                                        show Go p e below P (T17.setTop (mkF m 523 #[.val (.long q0), .second, .val (.long q2), .second, .val (.long q4), .second, .val (.int p6), .val (.int p7), .val (.int p8), .val (.int p9), .val (.int w10), .val (.int t11), .val (.int j12), .val (.int p9), .val (.int ws), .val (.int pr), .val (.int cl), .val (.int tr), .val (.int nn), .val (.ref b1), .val (.int r_6), .val (.int r_7), .val (.int r_12), .val (.int r_13), .val (.int pc24), .val (.int ps), .val (.int vb), .val (.int at_), .val (.int e28), .val (.int c29), .val (.int ln), .val (.int e31), .unset, .unset] [(.int (1 : Int32))]))
                                        exact J523 T17 _ X17 eq17 N17 (1 : Int32) (Or.inl ⟨rfl, fun _ _ => hst0, fun _ _ => hst1⟩)
                                      · show Go p e below P (T17.setTop (mkF m 515 #[.val (.long q0), .second, .val (.long q2), .second, .val (.long q4), .second, .val (.int p6), .val (.int p7), .val (.int p8), .val (.int p9), .val (.int w10), .val (.int t11), .val (.int j12), .val (.int p9), .val (.int ws), .val (.int pr), .val (.int cl), .val (.int tr), .val (.int nn), .val (.ref b1), .val (.int r_6), .val (.int r_7), .val (.int r_12), .val (.int r_13), .val (.int pc24), .val (.int ps), .val (.int vb), .val (.int at_), .val (.int e28), .val (.int c29), .val (.int ln), .val (.int e31), .unset, .unset] [(.int (0 : Int32))]))
                                        have hc515 : (0 : Int32) = (0 : Int32) := by decide
                                        refine Go.by (fun _ => XS.ifYes X17.here hx rfl (pc0 := 515) (pc' := 522) rfl (hb hby at_515) rfl ((if0 _ _).trans (teq hc515).1) (by decide) (by decide)) ?_
                                        show Go p e below P (T17.setTop (mkF m 522 #[.val (.long q0), .second, .val (.long q2), .second, .val (.long q4), .second, .val (.int p6), .val (.int p7), .val (.int p8), .val (.int p9), .val (.int w10), .val (.int t11), .val (.int j12), .val (.int p9), .val (.int ws), .val (.int pr), .val (.int cl), .val (.int tr), .val (.int nn), .val (.ref b1), .val (.int r_6), .val (.int r_7), .val (.int r_12), .val (.int r_13), .val (.int pc24), .val (.int ps), .val (.int vb), .val (.int at_), .val (.int e28), .val (.int c29), .val (.int ln), .val (.int e31), .unset, .unset] []))
                                        refine Go.by (fun _ => XS.iconst X17.here hx rfl (hb hby at_522)) ?_
                                        show Go p e below P (T17.setTop (mkF m 523 #[.val (.long q0), .second, .val (.long q2), .second, .val (.long q4), .second, .val (.int p6), .val (.int p7), .val (.int p8), .val (.int p9), .val (.int w10), .val (.int t11), .val (.int j12), .val (.int p9), .val (.int ws), .val (.int pr), .val (.int cl), .val (.int tr), .val (.int nn), .val (.ref b1), .val (.int r_6), .val (.int r_7), .val (.int r_12), .val (.int r_13), .val (.int pc24), .val (.int ps), .val (.int vb), .val (.int at_), .val (.int e28), .val (.int c29), .val (.int ln), .val (.int e31), .unset, .unset] [(.int (0 : Int32))]))
                                        exact J523 T17 _ X17 eq17 N17 (0 : Int32) (Or.inr ⟨rfl, fun q => hst1 (q.2 (Nat.not_lt.mp ((not_congr (own_tlt htN own_t2)).mp hc498)) ((own_tlt htr1 hln).mp hc507))⟩)
                                    · refine Go.by (fun _ => XS.icmpYes X16.here hx rfl (pc0 := 507) (pc' := 518) rfl (hb hby at_507) rfl (flt hc507).2.1 (by decide) (by decide)) ?_
                                      show Go p e below P (T16.setTop (mkF m 518 #[.val (.long q0), .second, .val (.long q2), .second, .val (.long q4), .second, .val (.int p6), .val (.int p7), .val (.int p8), .val (.int p9), .val (.int w10), .val (.int t11), .val (.int j12), .val (.int p9), .val (.int ws), .val (.int pr), .val (.int cl), .val (.int tr), .val (.int nn), .val (.ref b1), .val (.int r_6), .val (.int r_7), .val (.int r_12), .val (.int r_13), .val (.int pc24), .val (.int ps), .val (.int vb), .val (.int at_), .val (.int e28), .val (.int c29), .val (.int ln), .val (.int e31), .unset, .unset] []))
                                      refine Go.by (fun _ => XS.iconst X16.here hx rfl (hb hby at_518)) ?_
                                      show Go p e below P (T16.setTop (mkF m 519 #[.val (.long q0), .second, .val (.long q2), .second, .val (.long q4), .second, .val (.int p6), .val (.int p7), .val (.int p8), .val (.int p9), .val (.int w10), .val (.int t11), .val (.int j12), .val (.int p9), .val (.int ws), .val (.int pr), .val (.int cl), .val (.int tr), .val (.int nn), .val (.ref b1), .val (.int r_6), .val (.int r_7), .val (.int r_12), .val (.int r_13), .val (.int pc24), .val (.int ps), .val (.int vb), .val (.int at_), .val (.int e28), .val (.int c29), .val (.int ln), .val (.int e31), .unset, .unset] [(.int (1 : Int32))]))
                                      refine Go.by (fun _ => XS.goto X16.here hx rfl (pc0 := 519) (pc' := 523) rfl (hb hby at_519) (by decide) (by decide)) ?_
                                      show Go p e below P (T16.setTop (mkF m 523 #[.val (.long q0), .second, .val (.long q2), .second, .val (.long q4), .second, .val (.int p6), .val (.int p7), .val (.int p8), .val (.int p9), .val (.int w10), .val (.int t11), .val (.int j12), .val (.int p9), .val (.int ws), .val (.int pr), .val (.int cl), .val (.int tr), .val (.int nn), .val (.ref b1), .val (.int r_6), .val (.int r_7), .val (.int r_12), .val (.int r_13), .val (.int pc24), .val (.int ps), .val (.int vb), .val (.int at_), .val (.int e28), .val (.int c29), .val (.int ln), .val (.int e31), .unset, .unset] [(.int (1 : Int32))]))
                                      exact J523 T16 _ X16 eq16 N16 (1 : Int32) (Or.inl ⟨rfl, fun _ _ => hst0, fun _ q' => absurd q' ((not_congr (own_tlt htr1 hln)).mp hc507)⟩)
                                · show Go p e below P (T16.setTop (mkF m 492 #[.val (.long q0), .second, .val (.long q2), .second, .val (.long q4), .second, .val (.int p6), .val (.int p7), .val (.int p8), .val (.int p9), .val (.int w10), .val (.int t11), .val (.int j12), .val (.int p9), .val (.int ws), .val (.int pr), .val (.int cl), .val (.int tr), .val (.int nn), .val (.ref b1), .val (.int r_6), .val (.int r_7), .val (.int r_12), .val (.int r_13), .val (.int pc24), .val (.int ps), .val (.int vb), .val (.int at_), .val (.int e28), .val (.int c29), .val (.int ln), .val (.int e31), .unset, .unset] [(.int (0 : Int32))]))
                                  have hc492 : (0 : Int32) = (0 : Int32) := by decide
                                  refine Go.by (fun _ => XS.ifYes X16.here hx rfl (pc0 := 492) (pc' := 522) rfl (hb hby at_492) rfl ((if0 _ _).trans (teq hc492).1) (by decide) (by decide)) ?_
                                  show Go p e below P (T16.setTop (mkF m 522 #[.val (.long q0), .second, .val (.long q2), .second, .val (.long q4), .second, .val (.int p6), .val (.int p7), .val (.int p8), .val (.int p9), .val (.int w10), .val (.int t11), .val (.int j12), .val (.int p9), .val (.int ws), .val (.int pr), .val (.int cl), .val (.int tr), .val (.int nn), .val (.ref b1), .val (.int r_6), .val (.int r_7), .val (.int r_12), .val (.int r_13), .val (.int pc24), .val (.int ps), .val (.int vb), .val (.int at_), .val (.int e28), .val (.int c29), .val (.int ln), .val (.int e31), .unset, .unset] []))
                                  refine Go.by (fun _ => XS.iconst X16.here hx rfl (hb hby at_522)) ?_
                                  show Go p e below P (T16.setTop (mkF m 523 #[.val (.long q0), .second, .val (.long q2), .second, .val (.long q4), .second, .val (.int p6), .val (.int p7), .val (.int p8), .val (.int p9), .val (.int w10), .val (.int t11), .val (.int j12), .val (.int p9), .val (.int ws), .val (.int pr), .val (.int cl), .val (.int tr), .val (.int nn), .val (.ref b1), .val (.int r_6), .val (.int r_7), .val (.int r_12), .val (.int r_13), .val (.int pc24), .val (.int ps), .val (.int vb), .val (.int at_), .val (.int e28), .val (.int c29), .val (.int ln), .val (.int e31), .unset, .unset] [(.int (0 : Int32))]))
                                  exact J523 T16 _ X16 eq16 N16 (0 : Int32) (Or.inr ⟨rfl, fun q => hst0 (q.1 (Nat.not_lt.mp ((not_congr (own_tlt htN own_t1)).mp hc477)) ((own_tlt htr hln).mp hc484))⟩)
                              · refine Go.by (fun _ => XS.icmpYes XJ472.here hx rfl (pc0 := 484) (pc' := 495) rfl (hb hby at_484) rfl (flt hc484).2.1 (by decide) (by decide)) ?_
                                show Go p e below P (TJ472.setTop (mkF m 495 #[.val (.long q0), .second, .val (.long q2), .second, .val (.long q4), .second, .val (.int p6), .val (.int p7), .val (.int p8), .val (.int p9), .val (.int w10), .val (.int t11), .val (.int j12), .val (.int p9), .val (.int ws), .val (.int pr), .val (.int cl), .val (.int tr), .val (.int nn), .val (.ref b1), .val (.int r_6), .val (.int r_7), .val (.int r_12), .val (.int r_13), .val (.int pc24), .val (.int ps), .val (.int vb), .val (.int at_), .val (.int e28), .val (.int c29), .val (.int ln), .val (.int e31), .unset, .unset] []))
                                refine Go.by (fun _ => XS.iload XJ472.here hx rfl (hb hby at_495) rfl) ?_
                                show Go p e below P (TJ472.setTop (mkF m 497 #[.val (.long q0), .second, .val (.long q2), .second, .val (.long q4), .second, .val (.int p6), .val (.int p7), .val (.int p8), .val (.int p9), .val (.int w10), .val (.int t11), .val (.int j12), .val (.int p9), .val (.int ws), .val (.int pr), .val (.int cl), .val (.int tr), .val (.int nn), .val (.ref b1), .val (.int r_6), .val (.int r_7), .val (.int r_12), .val (.int r_13), .val (.int pc24), .val (.int ps), .val (.int vb), .val (.int at_), .val (.int e28), .val (.int c29), .val (.int ln), .val (.int e31), .unset, .unset] [(.int t11)]))
                                refine Go.by (fun _ => XS.iconst XJ472.here hx rfl (hb hby at_497)) ?_
                                show Go p e below P (TJ472.setTop (mkF m 498 #[.val (.long q0), .second, .val (.long q2), .second, .val (.long q4), .second, .val (.int p6), .val (.int p7), .val (.int p8), .val (.int p9), .val (.int w10), .val (.int t11), .val (.int j12), .val (.int p9), .val (.int ws), .val (.int pr), .val (.int cl), .val (.int tr), .val (.int nn), .val (.ref b1), .val (.int r_6), .val (.int r_7), .val (.int r_12), .val (.int r_13), .val (.int pc24), .val (.int ps), .val (.int vb), .val (.int at_), .val (.int e28), .val (.int c29), .val (.int ln), .val (.int e31), .unset, .unset] [(.int (2 : Int32)), (.int t11)]))
                                by_cases hc498 : t11 < (2 : Int32)
                                · refine Go.by (fun _ => XS.icmpYes XJ472.here hx rfl (pc0 := 498) (pc' := 518) rfl (hb hby at_498) rfl (tlt hc498).1 (by decide) (by decide)) ?_
                                  show Go p e below P (TJ472.setTop (mkF m 518 #[.val (.long q0), .second, .val (.long q2), .second, .val (.long q4), .second, .val (.int p6), .val (.int p7), .val (.int p8), .val (.int p9), .val (.int w10), .val (.int t11), .val (.int j12), .val (.int p9), .val (.int ws), .val (.int pr), .val (.int cl), .val (.int tr), .val (.int nn), .val (.ref b1), .val (.int r_6), .val (.int r_7), .val (.int r_12), .val (.int r_13), .val (.int pc24), .val (.int ps), .val (.int vb), .val (.int at_), .val (.int e28), .val (.int c29), .val (.int ln), .val (.int e31), .unset, .unset] []))
                                  refine Go.by (fun _ => XS.iconst XJ472.here hx rfl (hb hby at_518)) ?_
                                  show Go p e below P (TJ472.setTop (mkF m 519 #[.val (.long q0), .second, .val (.long q2), .second, .val (.long q4), .second, .val (.int p6), .val (.int p7), .val (.int p8), .val (.int p9), .val (.int w10), .val (.int t11), .val (.int j12), .val (.int p9), .val (.int ws), .val (.int pr), .val (.int cl), .val (.int tr), .val (.int nn), .val (.ref b1), .val (.int r_6), .val (.int r_7), .val (.int r_12), .val (.int r_13), .val (.int pc24), .val (.int ps), .val (.int vb), .val (.int at_), .val (.int e28), .val (.int c29), .val (.int ln), .val (.int e31), .unset, .unset] [(.int (1 : Int32))]))
                                  refine Go.by (fun _ => XS.goto XJ472.here hx rfl (pc0 := 519) (pc' := 523) rfl (hb hby at_519) (by decide) (by decide)) ?_
                                  show Go p e below P (TJ472.setTop (mkF m 523 #[.val (.long q0), .second, .val (.long q2), .second, .val (.long q4), .second, .val (.int p6), .val (.int p7), .val (.int p8), .val (.int p9), .val (.int w10), .val (.int t11), .val (.int j12), .val (.int p9), .val (.int ws), .val (.int pr), .val (.int cl), .val (.int tr), .val (.int nn), .val (.ref b1), .val (.int r_6), .val (.int r_7), .val (.int r_12), .val (.int r_13), .val (.int pc24), .val (.int ps), .val (.int vb), .val (.int at_), .val (.int e28), .val (.int c29), .val (.int ln), .val (.int e31), .unset, .unset] [(.int (1 : Int32))]))
                                  exact J523 TJ472 _ XJ472 eJ472 NJ472 (1 : Int32) (Or.inl ⟨rfl, fun _ q' => absurd q' ((not_congr (own_tlt htr hln)).mp hc484), fun q _ => (own_nn q ((own_tlt htN own_t2).mp hc498) (by decide)).elim⟩)
                                · refine Go.by (fun _ => XS.icmpNo XJ472.here hx rfl (hb hby at_498) rfl (flt hc498).1) ?_
                                  show Go p e below P (TJ472.setTop (mkF m 501 #[.val (.long q0), .second, .val (.long q2), .second, .val (.long q4), .second, .val (.int p6), .val (.int p7), .val (.int p8), .val (.int p9), .val (.int w10), .val (.int t11), .val (.int j12), .val (.int p9), .val (.int ws), .val (.int pr), .val (.int cl), .val (.int tr), .val (.int nn), .val (.ref b1), .val (.int r_6), .val (.int r_7), .val (.int r_12), .val (.int r_13), .val (.int pc24), .val (.int ps), .val (.int vb), .val (.int at_), .val (.int e28), .val (.int c29), .val (.int ln), .val (.int e31), .unset, .unset] []))
                                  refine Go.by (fun _ => XS.iload XJ472.here hx rfl (hb hby at_501) rfl) ?_
                                  show Go p e below P (TJ472.setTop (mkF m 503 #[.val (.long q0), .second, .val (.long q2), .second, .val (.long q4), .second, .val (.int p6), .val (.int p7), .val (.int p8), .val (.int p9), .val (.int w10), .val (.int t11), .val (.int j12), .val (.int p9), .val (.int ws), .val (.int pr), .val (.int cl), .val (.int tr), .val (.int nn), .val (.ref b1), .val (.int r_6), .val (.int r_7), .val (.int r_12), .val (.int r_13), .val (.int pc24), .val (.int ps), .val (.int vb), .val (.int at_), .val (.int e28), .val (.int c29), .val (.int ln), .val (.int e31), .unset, .unset] [(.int tr)]))
                                  refine Go.by (fun _ => XS.iconst XJ472.here hx rfl (hb hby at_503)) ?_
                                  show Go p e below P (TJ472.setTop (mkF m 504 #[.val (.long q0), .second, .val (.long q2), .second, .val (.long q4), .second, .val (.int p6), .val (.int p7), .val (.int p8), .val (.int p9), .val (.int w10), .val (.int t11), .val (.int j12), .val (.int p9), .val (.int ws), .val (.int pr), .val (.int cl), .val (.int tr), .val (.int nn), .val (.ref b1), .val (.int r_6), .val (.int r_7), .val (.int r_12), .val (.int r_13), .val (.int pc24), .val (.int ps), .val (.int vb), .val (.int at_), .val (.int e28), .val (.int c29), .val (.int ln), .val (.int e31), .unset, .unset] [(.int (1 : Int32)), (.int tr)]))
                                  refine Go.by (fun _ => XS.iadd XJ472.here hx rfl (hb hby at_504) rfl) ?_
                                  show Go p e below P (TJ472.setTop (mkF m 505 #[.val (.long q0), .second, .val (.long q2), .second, .val (.long q4), .second, .val (.int p6), .val (.int p7), .val (.int p8), .val (.int p9), .val (.int w10), .val (.int t11), .val (.int j12), .val (.int p9), .val (.int ws), .val (.int pr), .val (.int cl), .val (.int tr), .val (.int nn), .val (.ref b1), .val (.int r_6), .val (.int r_7), .val (.int r_12), .val (.int r_13), .val (.int pc24), .val (.int ps), .val (.int vb), .val (.int at_), .val (.int e28), .val (.int c29), .val (.int ln), .val (.int e31), .unset, .unset] [(.int (tr + (1 : Int32)))]))
                                  refine Go.by (fun _ => XS.iload XJ472.here hx rfl (hb hby at_505) rfl) ?_
                                  show Go p e below P (TJ472.setTop (mkF m 507 #[.val (.long q0), .second, .val (.long q2), .second, .val (.long q4), .second, .val (.int p6), .val (.int p7), .val (.int p8), .val (.int p9), .val (.int w10), .val (.int t11), .val (.int j12), .val (.int p9), .val (.int ws), .val (.int pr), .val (.int cl), .val (.int tr), .val (.int nn), .val (.ref b1), .val (.int r_6), .val (.int r_7), .val (.int r_12), .val (.int r_13), .val (.int pc24), .val (.int ps), .val (.int vb), .val (.int at_), .val (.int e28), .val (.int c29), .val (.int ln), .val (.int e31), .unset, .unset] [(.int ln), (.int (tr + (1 : Int32)))]))
                                  by_cases hc507 : (tr + (1 : Int32)) < ln
                                  · refine Go.by (fun _ => XS.icmpNo XJ472.here hx rfl (hb hby at_507) rfl (tlt hc507).2.1) ?_
                                    show Go p e below P (TJ472.setTop (mkF m 510 #[.val (.long q0), .second, .val (.long q2), .second, .val (.long q4), .second, .val (.int p6), .val (.int p7), .val (.int p8), .val (.int p9), .val (.int w10), .val (.int t11), .val (.int j12), .val (.int p9), .val (.int ws), .val (.int pr), .val (.int cl), .val (.int tr), .val (.int nn), .val (.ref b1), .val (.int r_6), .val (.int r_7), .val (.int r_12), .val (.int r_13), .val (.int pc24), .val (.int ps), .val (.int vb), .val (.int at_), .val (.int e28), .val (.int c29), .val (.int ln), .val (.int e31), .unset, .unset] []))
                                    refine Go.by (fun _ => XS.iload XJ472.here hx rfl (hb hby at_510) rfl) ?_
                                    show Go p e below P (TJ472.setTop (mkF m 512 #[.val (.long q0), .second, .val (.long q2), .second, .val (.long q4), .second, .val (.int p6), .val (.int p7), .val (.int p8), .val (.int p9), .val (.int w10), .val (.int t11), .val (.int j12), .val (.int p9), .val (.int ws), .val (.int pr), .val (.int cl), .val (.int tr), .val (.int nn), .val (.ref b1), .val (.int r_6), .val (.int r_7), .val (.int r_12), .val (.int r_13), .val (.int pc24), .val (.int ps), .val (.int vb), .val (.int at_), .val (.int e28), .val (.int c29), .val (.int ln), .val (.int e31), .unset, .unset] [(.int r_13)]))
                                    obtain ⟨_, _, ⟨T18, L18, k18, n18⟩, -, X18, ⟨Lc18, hQ18, l18, y18, z18⟩, st18⟩ := Jvm.LawKit.callS XJ472 hx (y := (⟨"com/example/wirecall/wirecall/bench/AnswersIsResultPinLaw", "sp", "(B)Z"⟩ : MethodName)) hown (mvT hZ (hw _ (List.mem_of_getElem? (i := 16) rfl))) (mvT hZ (hw _ (List.mem_of_getElem? (i := 17) rfl))) (mvT hZ (hw _ (List.mem_of_getElem? (i := 5) rfl))) (mvT hZ (hw _ (List.mem_of_getElem? (i := 18) rfl))) (by decide) (backOf (W := 0) (rm_sp l Z a0 hw [] wOPEN kOPEN wCLOSE kCLOSE wPARAMS kPARAMS hG r_13 hJ403 n0 ZJ403 OJ403  ) hZ (hw _ (List.mem_of_getElem? (i := 18) rfl)) (hw _ (List.mem_of_getElem? (i := 5) rfl)) (Nat.le_of_ble_eq_true rfl) (Nat.le_of_ble_eq_true rfl)) (g := (mkF m 512 #[.val (.long q0), .second, .val (.long q2), .second, .val (.long q4), .second, .val (.int p6), .val (.int p7), .val (.int p8), .val (.int p9), .val (.int w10), .val (.int t11), .val (.int j12), .val (.int p9), .val (.int ws), .val (.int pr), .val (.int cl), .val (.int tr), .val (.int nn), .val (.ref b1), .val (.int r_6), .val (.int r_7), .val (.int r_12), .val (.int r_13), .val (.int pc24), .val (.int ps), .val (.int vb), .val (.int at_), .val (.int e28), .val (.int c29), .val (.int ln), .val (.int e31), .unset, .unset] [(.int r_13)])) rfl (by rw [hml]; rfl) (argsL := [(.int r_13)]) (rest := []) (lenOf pd_2 rfl) rfl (by show 2 * 0 + _ ≤ _; exact Nat.le_of_eq rfl) (hb hby at_512) (fun _ _ => ⟨rfl, eJ472, (Nat.le_of_ble_eq_true rfl : 1 + 0 ≤ _), (Nat.le_of_ble_eq_true rfl : 60 + 0 ≤ _)⟩)
                                    dsimp only [Pt.U, Pt.locs, Pt.cells, Pt.slots] at X18 l18 y18 z18 st18 hQ18
                                    subst l18 y18 z18
                                    obtain ⟨r_18, rfl, Nq18, eq18, hq18_0⟩ := hQ18
                                    have N18 := Fr.app NJ472 Nq18
                                    refine Go.by (fun _ => st18 _) ?_
                                    show Go p e below P (T18.setTop (mkF m 515 #[.val (.long q0), .second, .val (.long q2), .second, .val (.long q4), .second, .val (.int p6), .val (.int p7), .val (.int p8), .val (.int p9), .val (.int w10), .val (.int t11), .val (.int j12), .val (.int p9), .val (.int ws), .val (.int pr), .val (.int cl), .val (.int tr), .val (.int nn), .val (.ref b1), .val (.int r_6), .val (.int r_7), .val (.int r_12), .val (.int r_13), .val (.int pc24), .val (.int ps), .val (.int vb), .val (.int at_), .val (.int e28), .val (.int c29), .val (.int ln), .val (.int e31), .unset, .unset] [(.int r_18)]))
                                    rcases hq18_0 with ⟨rfl, hst1⟩ | ⟨rfl, hst1⟩
                                    · show Go p e below P (T18.setTop (mkF m 515 #[.val (.long q0), .second, .val (.long q2), .second, .val (.long q4), .second, .val (.int p6), .val (.int p7), .val (.int p8), .val (.int p9), .val (.int w10), .val (.int t11), .val (.int j12), .val (.int p9), .val (.int ws), .val (.int pr), .val (.int cl), .val (.int tr), .val (.int nn), .val (.ref b1), .val (.int r_6), .val (.int r_7), .val (.int r_12), .val (.int r_13), .val (.int pc24), .val (.int ps), .val (.int vb), .val (.int at_), .val (.int e28), .val (.int c29), .val (.int ln), .val (.int e31), .unset, .unset] [(.int (1 : Int32))]))
                                      have hc515 : ¬ ((1 : Int32) = (0 : Int32)) := by decide
                                      refine Go.by (fun _ => XS.ifNo X18.here hx rfl (hb hby at_515) rfl ((if0 _ _).trans (feq hc515).1)) ?_
                                      show Go p e below P (T18.setTop (mkF m 518 #[.val (.long q0), .second, .val (.long q2), .second, .val (.long q4), .second, .val (.int p6), .val (.int p7), .val (.int p8), .val (.int p9), .val (.int w10), .val (.int t11), .val (.int j12), .val (.int p9), .val (.int ws), .val (.int pr), .val (.int cl), .val (.int tr), .val (.int nn), .val (.ref b1), .val (.int r_6), .val (.int r_7), .val (.int r_12), .val (.int r_13), .val (.int pc24), .val (.int ps), .val (.int vb), .val (.int at_), .val (.int e28), .val (.int c29), .val (.int ln), .val (.int e31), .unset, .unset] []))
                                      refine Go.by (fun _ => XS.iconst X18.here hx rfl (hb hby at_518)) ?_
                                      show Go p e below P (T18.setTop (mkF m 519 #[.val (.long q0), .second, .val (.long q2), .second, .val (.long q4), .second, .val (.int p6), .val (.int p7), .val (.int p8), .val (.int p9), .val (.int w10), .val (.int t11), .val (.int j12), .val (.int p9), .val (.int ws), .val (.int pr), .val (.int cl), .val (.int tr), .val (.int nn), .val (.ref b1), .val (.int r_6), .val (.int r_7), .val (.int r_12), .val (.int r_13), .val (.int pc24), .val (.int ps), .val (.int vb), .val (.int at_), .val (.int e28), .val (.int c29), .val (.int ln), .val (.int e31), .unset, .unset] [(.int (1 : Int32))]))
                                      refine Go.by (fun _ => XS.goto X18.here hx rfl (pc0 := 519) (pc' := 523) rfl (hb hby at_519) (by decide) (by decide)) ?_
                                      show Go p e below P (T18.setTop (mkF m 523 #[.val (.long q0), .second, .val (.long q2), .second, .val (.long q4), .second, .val (.int p6), .val (.int p7), .val (.int p8), .val (.int p9), .val (.int w10), .val (.int t11), .val (.int j12), .val (.int p9), .val (.int ws), .val (.int pr), .val (.int cl), .val (.int tr), .val (.int nn), .val (.ref b1), .val (.int r_6), .val (.int r_7), .val (.int r_12), .val (.int r_13), .val (.int pc24), .val (.int ps), .val (.int vb), .val (.int at_), .val (.int e28), .val (.int c29), .val (.int ln), .val (.int e31), .unset, .unset] [(.int (1 : Int32))]))
                                      exact J523 T18 _ X18 eq18 N18 (1 : Int32) (Or.inl ⟨rfl, fun _ q' => absurd q' ((not_congr (own_tlt htr hln)).mp hc484), fun _ _ => hst1⟩)
                                    · show Go p e below P (T18.setTop (mkF m 515 #[.val (.long q0), .second, .val (.long q2), .second, .val (.long q4), .second, .val (.int p6), .val (.int p7), .val (.int p8), .val (.int p9), .val (.int w10), .val (.int t11), .val (.int j12), .val (.int p9), .val (.int ws), .val (.int pr), .val (.int cl), .val (.int tr), .val (.int nn), .val (.ref b1), .val (.int r_6), .val (.int r_7), .val (.int r_12), .val (.int r_13), .val (.int pc24), .val (.int ps), .val (.int vb), .val (.int at_), .val (.int e28), .val (.int c29), .val (.int ln), .val (.int e31), .unset, .unset] [(.int (0 : Int32))]))
                                      have hc515 : (0 : Int32) = (0 : Int32) := by decide
                                      refine Go.by (fun _ => XS.ifYes X18.here hx rfl (pc0 := 515) (pc' := 522) rfl (hb hby at_515) rfl ((if0 _ _).trans (teq hc515).1) (by decide) (by decide)) ?_
                                      show Go p e below P (T18.setTop (mkF m 522 #[.val (.long q0), .second, .val (.long q2), .second, .val (.long q4), .second, .val (.int p6), .val (.int p7), .val (.int p8), .val (.int p9), .val (.int w10), .val (.int t11), .val (.int j12), .val (.int p9), .val (.int ws), .val (.int pr), .val (.int cl), .val (.int tr), .val (.int nn), .val (.ref b1), .val (.int r_6), .val (.int r_7), .val (.int r_12), .val (.int r_13), .val (.int pc24), .val (.int ps), .val (.int vb), .val (.int at_), .val (.int e28), .val (.int c29), .val (.int ln), .val (.int e31), .unset, .unset] []))
                                      refine Go.by (fun _ => XS.iconst X18.here hx rfl (hb hby at_522)) ?_
                                      show Go p e below P (T18.setTop (mkF m 523 #[.val (.long q0), .second, .val (.long q2), .second, .val (.long q4), .second, .val (.int p6), .val (.int p7), .val (.int p8), .val (.int p9), .val (.int w10), .val (.int t11), .val (.int j12), .val (.int p9), .val (.int ws), .val (.int pr), .val (.int cl), .val (.int tr), .val (.int nn), .val (.ref b1), .val (.int r_6), .val (.int r_7), .val (.int r_12), .val (.int r_13), .val (.int pc24), .val (.int ps), .val (.int vb), .val (.int at_), .val (.int e28), .val (.int c29), .val (.int ln), .val (.int e31), .unset, .unset] [(.int (0 : Int32))]))
                                      exact J523 T18 _ X18 eq18 N18 (0 : Int32) (Or.inr ⟨rfl, fun q => hst1 (q.2 (Nat.not_lt.mp ((not_congr (own_tlt htN own_t2)).mp hc498)) ((own_tlt htr1 hln).mp hc507))⟩)
                                  · refine Go.by (fun _ => XS.icmpYes XJ472.here hx rfl (pc0 := 507) (pc' := 518) rfl (hb hby at_507) rfl (flt hc507).2.1 (by decide) (by decide)) ?_
                                    show Go p e below P (TJ472.setTop (mkF m 518 #[.val (.long q0), .second, .val (.long q2), .second, .val (.long q4), .second, .val (.int p6), .val (.int p7), .val (.int p8), .val (.int p9), .val (.int w10), .val (.int t11), .val (.int j12), .val (.int p9), .val (.int ws), .val (.int pr), .val (.int cl), .val (.int tr), .val (.int nn), .val (.ref b1), .val (.int r_6), .val (.int r_7), .val (.int r_12), .val (.int r_13), .val (.int pc24), .val (.int ps), .val (.int vb), .val (.int at_), .val (.int e28), .val (.int c29), .val (.int ln), .val (.int e31), .unset, .unset] []))
                                    refine Go.by (fun _ => XS.iconst XJ472.here hx rfl (hb hby at_518)) ?_
                                    show Go p e below P (TJ472.setTop (mkF m 519 #[.val (.long q0), .second, .val (.long q2), .second, .val (.long q4), .second, .val (.int p6), .val (.int p7), .val (.int p8), .val (.int p9), .val (.int w10), .val (.int t11), .val (.int j12), .val (.int p9), .val (.int ws), .val (.int pr), .val (.int cl), .val (.int tr), .val (.int nn), .val (.ref b1), .val (.int r_6), .val (.int r_7), .val (.int r_12), .val (.int r_13), .val (.int pc24), .val (.int ps), .val (.int vb), .val (.int at_), .val (.int e28), .val (.int c29), .val (.int ln), .val (.int e31), .unset, .unset] [(.int (1 : Int32))]))
                                    refine Go.by (fun _ => XS.goto XJ472.here hx rfl (pc0 := 519) (pc' := 523) rfl (hb hby at_519) (by decide) (by decide)) ?_
                                    show Go p e below P (TJ472.setTop (mkF m 523 #[.val (.long q0), .second, .val (.long q2), .second, .val (.long q4), .second, .val (.int p6), .val (.int p7), .val (.int p8), .val (.int p9), .val (.int w10), .val (.int t11), .val (.int j12), .val (.int p9), .val (.int ws), .val (.int pr), .val (.int cl), .val (.int tr), .val (.int nn), .val (.ref b1), .val (.int r_6), .val (.int r_7), .val (.int r_12), .val (.int r_13), .val (.int pc24), .val (.int ps), .val (.int vb), .val (.int at_), .val (.int e28), .val (.int c29), .val (.int ln), .val (.int e31), .unset, .unset] [(.int (1 : Int32))]))
                                    exact J523 TJ472 _ XJ472 eJ472 NJ472 (1 : Int32) (Or.inl ⟨rfl, fun _ q' => absurd q' ((not_congr (own_tlt htr hln)).mp hc484), fun _ q' => absurd q' ((not_congr (own_tlt htr1 hln)).mp hc507)⟩)
                          refine Go.by (fun _ => XS.iload XJ403.here hx rfl (hb hby at_439) rfl) ?_
                          show Go p e below P (TJ403.setTop (mkF m 441 #[.val (.long q0), .second, .val (.long q2), .second, .val (.long q4), .second, .val (.int p6), .val (.int p7), .val (.int p8), .val (.int p9), .val (.int w10), .val (.int t11), .val (.int j12), .val (.int p9), .val (.int ws), .val (.int pr), .val (.int cl), .val (.int tr), .val (.int nn), .val (.ref b1), .val (.int r_6), .val (.int r_7), .val (.int r_12), .val (.int r_13), .val (.int pc24), .val (.int ps), .val (.int vb), .val (.int at_), .val (.int e28), .val (.int c29), .val (.int ln), .unset, .unset, .unset] [(.int w10)]))
                          refine Go.by (fun _ => XS.iconst XJ403.here hx rfl (hb hby at_441)) ?_
                          show Go p e below P (TJ403.setTop (mkF m 442 #[.val (.long q0), .second, .val (.long q2), .second, .val (.long q4), .second, .val (.int p6), .val (.int p7), .val (.int p8), .val (.int p9), .val (.int w10), .val (.int t11), .val (.int j12), .val (.int p9), .val (.int ws), .val (.int pr), .val (.int cl), .val (.int tr), .val (.int nn), .val (.ref b1), .val (.int r_6), .val (.int r_7), .val (.int r_12), .val (.int r_13), .val (.int pc24), .val (.int ps), .val (.int vb), .val (.int at_), .val (.int e28), .val (.int c29), .val (.int ln), .unset, .unset, .unset] [(.int (1 : Int32)), (.int w10)]))
                          by_cases hc442 : w10 < (1 : Int32)
                          · refine Go.by (fun _ => XS.icmpYes XJ403.here hx rfl (pc0 := 442) (pc' := 453) rfl (hb hby at_442) rfl (tlt hc442).1 (by decide) (by decide)) ?_
                            show Go p e below P (TJ403.setTop (mkF m 453 #[.val (.long q0), .second, .val (.long q2), .second, .val (.long q4), .second, .val (.int p6), .val (.int p7), .val (.int p8), .val (.int p9), .val (.int w10), .val (.int t11), .val (.int j12), .val (.int p9), .val (.int ws), .val (.int pr), .val (.int cl), .val (.int tr), .val (.int nn), .val (.ref b1), .val (.int r_6), .val (.int r_7), .val (.int r_12), .val (.int r_13), .val (.int pc24), .val (.int ps), .val (.int vb), .val (.int at_), .val (.int e28), .val (.int c29), .val (.int ln), .unset, .unset, .unset] []))
                            refine Go.by (fun _ => XS.iload XJ403.here hx rfl (hb hby at_453) rfl) ?_
                            show Go p e below P (TJ403.setTop (mkF m 455 #[.val (.long q0), .second, .val (.long q2), .second, .val (.long q4), .second, .val (.int p6), .val (.int p7), .val (.int p8), .val (.int p9), .val (.int w10), .val (.int t11), .val (.int j12), .val (.int p9), .val (.int ws), .val (.int pr), .val (.int cl), .val (.int tr), .val (.int nn), .val (.ref b1), .val (.int r_6), .val (.int r_7), .val (.int r_12), .val (.int r_13), .val (.int pc24), .val (.int ps), .val (.int vb), .val (.int at_), .val (.int e28), .val (.int c29), .val (.int ln), .unset, .unset, .unset] [(.int w10)]))
                            refine Go.by (fun _ => XS.iconst XJ403.here hx rfl (hb hby at_455)) ?_
                            show Go p e below P (TJ403.setTop (mkF m 456 #[.val (.long q0), .second, .val (.long q2), .second, .val (.long q4), .second, .val (.int p6), .val (.int p7), .val (.int p8), .val (.int p9), .val (.int w10), .val (.int t11), .val (.int j12), .val (.int p9), .val (.int ws), .val (.int pr), .val (.int cl), .val (.int tr), .val (.int nn), .val (.ref b1), .val (.int r_6), .val (.int r_7), .val (.int r_12), .val (.int r_13), .val (.int pc24), .val (.int ps), .val (.int vb), .val (.int at_), .val (.int e28), .val (.int c29), .val (.int ln), .unset, .unset, .unset] [(.int (2 : Int32)), (.int w10)]))
                            by_cases hc456 : w10 < (2 : Int32)
                            · refine Go.by (fun _ => XS.icmpYes XJ403.here hx rfl (pc0 := 456) (pc' := 467) rfl (hb hby at_456) rfl (tlt hc456).1 (by decide) (by decide)) ?_
                              show Go p e below P (TJ403.setTop (mkF m 467 #[.val (.long q0), .second, .val (.long q2), .second, .val (.long q4), .second, .val (.int p6), .val (.int p7), .val (.int p8), .val (.int p9), .val (.int w10), .val (.int t11), .val (.int j12), .val (.int p9), .val (.int ws), .val (.int pr), .val (.int cl), .val (.int tr), .val (.int nn), .val (.ref b1), .val (.int r_6), .val (.int r_7), .val (.int r_12), .val (.int r_13), .val (.int pc24), .val (.int ps), .val (.int vb), .val (.int at_), .val (.int e28), .val (.int c29), .val (.int ln), .unset, .unset, .unset] []))
                              refine Go.by (fun _ => XS.iconst XJ403.here hx rfl (hb hby at_467)) ?_
                              show Go p e below P (TJ403.setTop (mkF m 468 #[.val (.long q0), .second, .val (.long q2), .second, .val (.long q4), .second, .val (.int p6), .val (.int p7), .val (.int p8), .val (.int p9), .val (.int w10), .val (.int t11), .val (.int j12), .val (.int p9), .val (.int ws), .val (.int pr), .val (.int cl), .val (.int tr), .val (.int nn), .val (.ref b1), .val (.int r_6), .val (.int r_7), .val (.int r_12), .val (.int r_13), .val (.int pc24), .val (.int ps), .val (.int vb), .val (.int at_), .val (.int e28), .val (.int c29), .val (.int ln), .unset, .unset, .unset] [(.int (1 : Int32))]))
                              refine Go.by (fun _ => XS.goto XJ403.here hx rfl (pc0 := 468) (pc' := 472) rfl (hb hby at_468) (by decide) (by decide)) ?_
                              show Go p e below P (TJ403.setTop (mkF m 472 #[.val (.long q0), .second, .val (.long q2), .second, .val (.long q4), .second, .val (.int p6), .val (.int p7), .val (.int p8), .val (.int p9), .val (.int w10), .val (.int t11), .val (.int j12), .val (.int p9), .val (.int ws), .val (.int pr), .val (.int cl), .val (.int tr), .val (.int nn), .val (.ref b1), .val (.int r_6), .val (.int r_7), .val (.int r_12), .val (.int r_13), .val (.int pc24), .val (.int ps), .val (.int vb), .val (.int at_), .val (.int e28), .val (.int c29), .val (.int ln), .unset, .unset, .unset] [(.int (1 : Int32))]))
                              exact J472 TJ403 _ XJ403 eJ403 NJ403 (1 : Int32) (Or.inl ⟨rfl, fun q => (own_nn q ((own_tlt hwN own_t1).mp hc442) (by decide)).elim, fun q => (own_nn q ((own_tlt hwN own_t2).mp hc456) (by decide)).elim⟩)
                            · refine Go.by (fun _ => XS.icmpNo XJ403.here hx rfl (hb hby at_456) rfl (flt hc456).1) ?_
                              show Go p e below P (TJ403.setTop (mkF m 459 #[.val (.long q0), .second, .val (.long q2), .second, .val (.long q4), .second, .val (.int p6), .val (.int p7), .val (.int p8), .val (.int p9), .val (.int w10), .val (.int t11), .val (.int j12), .val (.int p9), .val (.int ws), .val (.int pr), .val (.int cl), .val (.int tr), .val (.int nn), .val (.ref b1), .val (.int r_6), .val (.int r_7), .val (.int r_12), .val (.int r_13), .val (.int pc24), .val (.int ps), .val (.int vb), .val (.int at_), .val (.int e28), .val (.int c29), .val (.int ln), .unset, .unset, .unset] []))
                              refine Go.by (fun _ => XS.iload XJ403.here hx rfl (hb hby at_459) rfl) ?_
                              show Go p e below P (TJ403.setTop (mkF m 461 #[.val (.long q0), .second, .val (.long q2), .second, .val (.long q4), .second, .val (.int p6), .val (.int p7), .val (.int p8), .val (.int p9), .val (.int w10), .val (.int t11), .val (.int j12), .val (.int p9), .val (.int ws), .val (.int pr), .val (.int cl), .val (.int tr), .val (.int nn), .val (.ref b1), .val (.int r_6), .val (.int r_7), .val (.int r_12), .val (.int r_13), .val (.int pc24), .val (.int ps), .val (.int vb), .val (.int at_), .val (.int e28), .val (.int c29), .val (.int ln), .unset, .unset, .unset] [(.int r_7)]))
                              obtain ⟨_, _, ⟨T19, L19, k19, n19⟩, -, X19, ⟨Lc19, hQ19, l19, y19, z19⟩, st19⟩ := Jvm.LawKit.callS XJ403 hx (y := (⟨"com/example/wirecall/wirecall/bench/AnswersIsResultPinLaw", "sp", "(B)Z"⟩ : MethodName)) hown (mvT hZ (hw _ (List.mem_of_getElem? (i := 16) rfl))) (mvT hZ (hw _ (List.mem_of_getElem? (i := 17) rfl))) (mvT hZ (hw _ (List.mem_of_getElem? (i := 5) rfl))) (mvT hZ (hw _ (List.mem_of_getElem? (i := 18) rfl))) (by decide) (backOf (W := 0) (rm_sp l Z a0 hw [] wOPEN kOPEN wCLOSE kCLOSE wPARAMS kPARAMS hG r_7 hJ403 n0 ZJ403 OJ403  ) hZ (hw _ (List.mem_of_getElem? (i := 18) rfl)) (hw _ (List.mem_of_getElem? (i := 5) rfl)) (Nat.le_of_ble_eq_true rfl) (Nat.le_of_ble_eq_true rfl)) (g := (mkF m 461 #[.val (.long q0), .second, .val (.long q2), .second, .val (.long q4), .second, .val (.int p6), .val (.int p7), .val (.int p8), .val (.int p9), .val (.int w10), .val (.int t11), .val (.int j12), .val (.int p9), .val (.int ws), .val (.int pr), .val (.int cl), .val (.int tr), .val (.int nn), .val (.ref b1), .val (.int r_6), .val (.int r_7), .val (.int r_12), .val (.int r_13), .val (.int pc24), .val (.int ps), .val (.int vb), .val (.int at_), .val (.int e28), .val (.int c29), .val (.int ln), .unset, .unset, .unset] [(.int r_7)])) rfl (by rw [hml]; rfl) (argsL := [(.int r_7)]) (rest := []) (lenOf pd_2 rfl) rfl (by show 2 * 0 + _ ≤ _; exact Nat.le_of_eq rfl) (hb hby at_461) (fun _ _ => ⟨rfl, eJ403, (Nat.le_of_ble_eq_true rfl : 1 + 0 ≤ _), (Nat.le_of_ble_eq_true rfl : 60 + 0 ≤ _)⟩)
                              dsimp only [Pt.U, Pt.locs, Pt.cells, Pt.slots] at X19 l19 y19 z19 st19 hQ19
                              subst l19 y19 z19
                              obtain ⟨r_19, rfl, Nq19, eq19, hq19_0⟩ := hQ19
                              have N19 := Fr.app NJ403 Nq19
                              refine Go.by (fun _ => st19 _) ?_
                              show Go p e below P (T19.setTop (mkF m 464 #[.val (.long q0), .second, .val (.long q2), .second, .val (.long q4), .second, .val (.int p6), .val (.int p7), .val (.int p8), .val (.int p9), .val (.int w10), .val (.int t11), .val (.int j12), .val (.int p9), .val (.int ws), .val (.int pr), .val (.int cl), .val (.int tr), .val (.int nn), .val (.ref b1), .val (.int r_6), .val (.int r_7), .val (.int r_12), .val (.int r_13), .val (.int pc24), .val (.int ps), .val (.int vb), .val (.int at_), .val (.int e28), .val (.int c29), .val (.int ln), .unset, .unset, .unset] [(.int r_19)]))
                              rcases hq19_0 with ⟨rfl, hsp1⟩ | ⟨rfl, hsp1⟩
                              · show Go p e below P (T19.setTop (mkF m 464 #[.val (.long q0), .second, .val (.long q2), .second, .val (.long q4), .second, .val (.int p6), .val (.int p7), .val (.int p8), .val (.int p9), .val (.int w10), .val (.int t11), .val (.int j12), .val (.int p9), .val (.int ws), .val (.int pr), .val (.int cl), .val (.int tr), .val (.int nn), .val (.ref b1), .val (.int r_6), .val (.int r_7), .val (.int r_12), .val (.int r_13), .val (.int pc24), .val (.int ps), .val (.int vb), .val (.int at_), .val (.int e28), .val (.int c29), .val (.int ln), .unset, .unset, .unset] [(.int (1 : Int32))]))
                                have hc464 : ¬ ((1 : Int32) = (0 : Int32)) := by decide
                                refine Go.by (fun _ => XS.ifNo X19.here hx rfl (hb hby at_464) rfl ((if0 _ _).trans (feq hc464).1)) ?_
                                show Go p e below P (T19.setTop (mkF m 467 #[.val (.long q0), .second, .val (.long q2), .second, .val (.long q4), .second, .val (.int p6), .val (.int p7), .val (.int p8), .val (.int p9), .val (.int w10), .val (.int t11), .val (.int j12), .val (.int p9), .val (.int ws), .val (.int pr), .val (.int cl), .val (.int tr), .val (.int nn), .val (.ref b1), .val (.int r_6), .val (.int r_7), .val (.int r_12), .val (.int r_13), .val (.int pc24), .val (.int ps), .val (.int vb), .val (.int at_), .val (.int e28), .val (.int c29), .val (.int ln), .unset, .unset, .unset] []))
                                refine Go.by (fun _ => XS.iconst X19.here hx rfl (hb hby at_467)) ?_
                                show Go p e below P (T19.setTop (mkF m 468 #[.val (.long q0), .second, .val (.long q2), .second, .val (.long q4), .second, .val (.int p6), .val (.int p7), .val (.int p8), .val (.int p9), .val (.int w10), .val (.int t11), .val (.int j12), .val (.int p9), .val (.int ws), .val (.int pr), .val (.int cl), .val (.int tr), .val (.int nn), .val (.ref b1), .val (.int r_6), .val (.int r_7), .val (.int r_12), .val (.int r_13), .val (.int pc24), .val (.int ps), .val (.int vb), .val (.int at_), .val (.int e28), .val (.int c29), .val (.int ln), .unset, .unset, .unset] [(.int (1 : Int32))]))
                                refine Go.by (fun _ => XS.goto X19.here hx rfl (pc0 := 468) (pc' := 472) rfl (hb hby at_468) (by decide) (by decide)) ?_
                                show Go p e below P (T19.setTop (mkF m 472 #[.val (.long q0), .second, .val (.long q2), .second, .val (.long q4), .second, .val (.int p6), .val (.int p7), .val (.int p8), .val (.int p9), .val (.int w10), .val (.int t11), .val (.int j12), .val (.int p9), .val (.int ws), .val (.int pr), .val (.int cl), .val (.int tr), .val (.int nn), .val (.ref b1), .val (.int r_6), .val (.int r_7), .val (.int r_12), .val (.int r_13), .val (.int pc24), .val (.int ps), .val (.int vb), .val (.int at_), .val (.int e28), .val (.int c29), .val (.int ln), .unset, .unset, .unset] [(.int (1 : Int32))]))
                                exact J472 T19 _ X19 eq19 N19 (1 : Int32) (Or.inl ⟨rfl, fun q => (own_nn q ((own_tlt hwN own_t1).mp hc442) (by decide)).elim, fun _ => hsp1⟩)
                              · show Go p e below P (T19.setTop (mkF m 464 #[.val (.long q0), .second, .val (.long q2), .second, .val (.long q4), .second, .val (.int p6), .val (.int p7), .val (.int p8), .val (.int p9), .val (.int w10), .val (.int t11), .val (.int j12), .val (.int p9), .val (.int ws), .val (.int pr), .val (.int cl), .val (.int tr), .val (.int nn), .val (.ref b1), .val (.int r_6), .val (.int r_7), .val (.int r_12), .val (.int r_13), .val (.int pc24), .val (.int ps), .val (.int vb), .val (.int at_), .val (.int e28), .val (.int c29), .val (.int ln), .unset, .unset, .unset] [(.int (0 : Int32))]))
                                have hc464 : (0 : Int32) = (0 : Int32) := by decide
                                refine Go.by (fun _ => XS.ifYes X19.here hx rfl (pc0 := 464) (pc' := 471) rfl (hb hby at_464) rfl ((if0 _ _).trans (teq hc464).1) (by decide) (by decide)) ?_
                                show Go p e below P (T19.setTop (mkF m 471 #[.val (.long q0), .second, .val (.long q2), .second, .val (.long q4), .second, .val (.int p6), .val (.int p7), .val (.int p8), .val (.int p9), .val (.int w10), .val (.int t11), .val (.int j12), .val (.int p9), .val (.int ws), .val (.int pr), .val (.int cl), .val (.int tr), .val (.int nn), .val (.ref b1), .val (.int r_6), .val (.int r_7), .val (.int r_12), .val (.int r_13), .val (.int pc24), .val (.int ps), .val (.int vb), .val (.int at_), .val (.int e28), .val (.int c29), .val (.int ln), .unset, .unset, .unset] []))
                                refine Go.by (fun _ => XS.iconst X19.here hx rfl (hb hby at_471)) ?_
                                show Go p e below P (T19.setTop (mkF m 472 #[.val (.long q0), .second, .val (.long q2), .second, .val (.long q4), .second, .val (.int p6), .val (.int p7), .val (.int p8), .val (.int p9), .val (.int w10), .val (.int t11), .val (.int j12), .val (.int p9), .val (.int ws), .val (.int pr), .val (.int cl), .val (.int tr), .val (.int nn), .val (.ref b1), .val (.int r_6), .val (.int r_7), .val (.int r_12), .val (.int r_13), .val (.int pc24), .val (.int ps), .val (.int vb), .val (.int at_), .val (.int e28), .val (.int c29), .val (.int ln), .unset, .unset, .unset] [(.int (0 : Int32))]))
                                exact J472 T19 _ X19 eq19 N19 (0 : Int32) (Or.inr ⟨rfl, fun q => hsp1 (q.2 (Nat.not_lt.mp ((not_congr (own_tlt hwN own_t2)).mp hc456)))⟩)
                          · refine Go.by (fun _ => XS.icmpNo XJ403.here hx rfl (hb hby at_442) rfl (flt hc442).1) ?_
                            show Go p e below P (TJ403.setTop (mkF m 445 #[.val (.long q0), .second, .val (.long q2), .second, .val (.long q4), .second, .val (.int p6), .val (.int p7), .val (.int p8), .val (.int p9), .val (.int w10), .val (.int t11), .val (.int j12), .val (.int p9), .val (.int ws), .val (.int pr), .val (.int cl), .val (.int tr), .val (.int nn), .val (.ref b1), .val (.int r_6), .val (.int r_7), .val (.int r_12), .val (.int r_13), .val (.int pc24), .val (.int ps), .val (.int vb), .val (.int at_), .val (.int e28), .val (.int c29), .val (.int ln), .unset, .unset, .unset] []))
                            refine Go.by (fun _ => XS.iload XJ403.here hx rfl (hb hby at_445) rfl) ?_
                            show Go p e below P (TJ403.setTop (mkF m 447 #[.val (.long q0), .second, .val (.long q2), .second, .val (.long q4), .second, .val (.int p6), .val (.int p7), .val (.int p8), .val (.int p9), .val (.int w10), .val (.int t11), .val (.int j12), .val (.int p9), .val (.int ws), .val (.int pr), .val (.int cl), .val (.int tr), .val (.int nn), .val (.ref b1), .val (.int r_6), .val (.int r_7), .val (.int r_12), .val (.int r_13), .val (.int pc24), .val (.int ps), .val (.int vb), .val (.int at_), .val (.int e28), .val (.int c29), .val (.int ln), .unset, .unset, .unset] [(.int r_6)]))
                            obtain ⟨_, _, ⟨T20, L20, k20, n20⟩, -, X20, ⟨Lc20, hQ20, l20, y20, z20⟩, st20⟩ := Jvm.LawKit.callS XJ403 hx (y := (⟨"com/example/wirecall/wirecall/bench/AnswersIsResultPinLaw", "sp", "(B)Z"⟩ : MethodName)) hown (mvT hZ (hw _ (List.mem_of_getElem? (i := 16) rfl))) (mvT hZ (hw _ (List.mem_of_getElem? (i := 17) rfl))) (mvT hZ (hw _ (List.mem_of_getElem? (i := 5) rfl))) (mvT hZ (hw _ (List.mem_of_getElem? (i := 18) rfl))) (by decide) (backOf (W := 0) (rm_sp l Z a0 hw [] wOPEN kOPEN wCLOSE kCLOSE wPARAMS kPARAMS hG r_6 hJ403 n0 ZJ403 OJ403  ) hZ (hw _ (List.mem_of_getElem? (i := 18) rfl)) (hw _ (List.mem_of_getElem? (i := 5) rfl)) (Nat.le_of_ble_eq_true rfl) (Nat.le_of_ble_eq_true rfl)) (g := (mkF m 447 #[.val (.long q0), .second, .val (.long q2), .second, .val (.long q4), .second, .val (.int p6), .val (.int p7), .val (.int p8), .val (.int p9), .val (.int w10), .val (.int t11), .val (.int j12), .val (.int p9), .val (.int ws), .val (.int pr), .val (.int cl), .val (.int tr), .val (.int nn), .val (.ref b1), .val (.int r_6), .val (.int r_7), .val (.int r_12), .val (.int r_13), .val (.int pc24), .val (.int ps), .val (.int vb), .val (.int at_), .val (.int e28), .val (.int c29), .val (.int ln), .unset, .unset, .unset] [(.int r_6)])) rfl (by rw [hml]; rfl) (argsL := [(.int r_6)]) (rest := []) (lenOf pd_2 rfl) rfl (by show 2 * 0 + _ ≤ _; exact Nat.le_of_eq rfl) (hb hby at_447) (fun _ _ => ⟨rfl, eJ403, (Nat.le_of_ble_eq_true rfl : 1 + 0 ≤ _), (Nat.le_of_ble_eq_true rfl : 60 + 0 ≤ _)⟩)
                            dsimp only [Pt.U, Pt.locs, Pt.cells, Pt.slots] at X20 l20 y20 z20 st20 hQ20
                            subst l20 y20 z20
                            obtain ⟨r_20, rfl, Nq20, eq20, hq20_0⟩ := hQ20
                            have N20 := Fr.app NJ403 Nq20
                            refine Go.by (fun _ => st20 _) ?_
                            show Go p e below P (T20.setTop (mkF m 450 #[.val (.long q0), .second, .val (.long q2), .second, .val (.long q4), .second, .val (.int p6), .val (.int p7), .val (.int p8), .val (.int p9), .val (.int w10), .val (.int t11), .val (.int j12), .val (.int p9), .val (.int ws), .val (.int pr), .val (.int cl), .val (.int tr), .val (.int nn), .val (.ref b1), .val (.int r_6), .val (.int r_7), .val (.int r_12), .val (.int r_13), .val (.int pc24), .val (.int ps), .val (.int vb), .val (.int at_), .val (.int e28), .val (.int c29), .val (.int ln), .unset, .unset, .unset] [(.int r_20)]))
                            rcases hq20_0 with ⟨rfl, hsp0⟩ | ⟨rfl, hsp0⟩
                            · show Go p e below P (T20.setTop (mkF m 450 #[.val (.long q0), .second, .val (.long q2), .second, .val (.long q4), .second, .val (.int p6), .val (.int p7), .val (.int p8), .val (.int p9), .val (.int w10), .val (.int t11), .val (.int j12), .val (.int p9), .val (.int ws), .val (.int pr), .val (.int cl), .val (.int tr), .val (.int nn), .val (.ref b1), .val (.int r_6), .val (.int r_7), .val (.int r_12), .val (.int r_13), .val (.int pc24), .val (.int ps), .val (.int vb), .val (.int at_), .val (.int e28), .val (.int c29), .val (.int ln), .unset, .unset, .unset] [(.int (1 : Int32))]))
                              have hc450 : ¬ ((1 : Int32) = (0 : Int32)) := by decide
                              refine Go.by (fun _ => XS.ifNo X20.here hx rfl (hb hby at_450) rfl ((if0 _ _).trans (feq hc450).1)) ?_
                              show Go p e below P (T20.setTop (mkF m 453 #[.val (.long q0), .second, .val (.long q2), .second, .val (.long q4), .second, .val (.int p6), .val (.int p7), .val (.int p8), .val (.int p9), .val (.int w10), .val (.int t11), .val (.int j12), .val (.int p9), .val (.int ws), .val (.int pr), .val (.int cl), .val (.int tr), .val (.int nn), .val (.ref b1), .val (.int r_6), .val (.int r_7), .val (.int r_12), .val (.int r_13), .val (.int pc24), .val (.int ps), .val (.int vb), .val (.int at_), .val (.int e28), .val (.int c29), .val (.int ln), .unset, .unset, .unset] []))
                              refine Go.by (fun _ => XS.iload X20.here hx rfl (hb hby at_453) rfl) ?_
                              show Go p e below P (T20.setTop (mkF m 455 #[.val (.long q0), .second, .val (.long q2), .second, .val (.long q4), .second, .val (.int p6), .val (.int p7), .val (.int p8), .val (.int p9), .val (.int w10), .val (.int t11), .val (.int j12), .val (.int p9), .val (.int ws), .val (.int pr), .val (.int cl), .val (.int tr), .val (.int nn), .val (.ref b1), .val (.int r_6), .val (.int r_7), .val (.int r_12), .val (.int r_13), .val (.int pc24), .val (.int ps), .val (.int vb), .val (.int at_), .val (.int e28), .val (.int c29), .val (.int ln), .unset, .unset, .unset] [(.int w10)]))
                              refine Go.by (fun _ => XS.iconst X20.here hx rfl (hb hby at_455)) ?_
                              show Go p e below P (T20.setTop (mkF m 456 #[.val (.long q0), .second, .val (.long q2), .second, .val (.long q4), .second, .val (.int p6), .val (.int p7), .val (.int p8), .val (.int p9), .val (.int w10), .val (.int t11), .val (.int j12), .val (.int p9), .val (.int ws), .val (.int pr), .val (.int cl), .val (.int tr), .val (.int nn), .val (.ref b1), .val (.int r_6), .val (.int r_7), .val (.int r_12), .val (.int r_13), .val (.int pc24), .val (.int ps), .val (.int vb), .val (.int at_), .val (.int e28), .val (.int c29), .val (.int ln), .unset, .unset, .unset] [(.int (2 : Int32)), (.int w10)]))
                              by_cases hc456 : w10 < (2 : Int32)
                              · refine Go.by (fun _ => XS.icmpYes X20.here hx rfl (pc0 := 456) (pc' := 467) rfl (hb hby at_456) rfl (tlt hc456).1 (by decide) (by decide)) ?_
                                show Go p e below P (T20.setTop (mkF m 467 #[.val (.long q0), .second, .val (.long q2), .second, .val (.long q4), .second, .val (.int p6), .val (.int p7), .val (.int p8), .val (.int p9), .val (.int w10), .val (.int t11), .val (.int j12), .val (.int p9), .val (.int ws), .val (.int pr), .val (.int cl), .val (.int tr), .val (.int nn), .val (.ref b1), .val (.int r_6), .val (.int r_7), .val (.int r_12), .val (.int r_13), .val (.int pc24), .val (.int ps), .val (.int vb), .val (.int at_), .val (.int e28), .val (.int c29), .val (.int ln), .unset, .unset, .unset] []))
                                refine Go.by (fun _ => XS.iconst X20.here hx rfl (hb hby at_467)) ?_
                                show Go p e below P (T20.setTop (mkF m 468 #[.val (.long q0), .second, .val (.long q2), .second, .val (.long q4), .second, .val (.int p6), .val (.int p7), .val (.int p8), .val (.int p9), .val (.int w10), .val (.int t11), .val (.int j12), .val (.int p9), .val (.int ws), .val (.int pr), .val (.int cl), .val (.int tr), .val (.int nn), .val (.ref b1), .val (.int r_6), .val (.int r_7), .val (.int r_12), .val (.int r_13), .val (.int pc24), .val (.int ps), .val (.int vb), .val (.int at_), .val (.int e28), .val (.int c29), .val (.int ln), .unset, .unset, .unset] [(.int (1 : Int32))]))
                                refine Go.by (fun _ => XS.goto X20.here hx rfl (pc0 := 468) (pc' := 472) rfl (hb hby at_468) (by decide) (by decide)) ?_
                                show Go p e below P (T20.setTop (mkF m 472 #[.val (.long q0), .second, .val (.long q2), .second, .val (.long q4), .second, .val (.int p6), .val (.int p7), .val (.int p8), .val (.int p9), .val (.int w10), .val (.int t11), .val (.int j12), .val (.int p9), .val (.int ws), .val (.int pr), .val (.int cl), .val (.int tr), .val (.int nn), .val (.ref b1), .val (.int r_6), .val (.int r_7), .val (.int r_12), .val (.int r_13), .val (.int pc24), .val (.int ps), .val (.int vb), .val (.int at_), .val (.int e28), .val (.int c29), .val (.int ln), .unset, .unset, .unset] [(.int (1 : Int32))]))
                                exact J472 T20 _ X20 eq20 N20 (1 : Int32) (Or.inl ⟨rfl, fun _ => hsp0, fun q => (own_nn q ((own_tlt hwN own_t2).mp hc456) (by decide)).elim⟩)
                              · refine Go.by (fun _ => XS.icmpNo X20.here hx rfl (hb hby at_456) rfl (flt hc456).1) ?_
                                show Go p e below P (T20.setTop (mkF m 459 #[.val (.long q0), .second, .val (.long q2), .second, .val (.long q4), .second, .val (.int p6), .val (.int p7), .val (.int p8), .val (.int p9), .val (.int w10), .val (.int t11), .val (.int j12), .val (.int p9), .val (.int ws), .val (.int pr), .val (.int cl), .val (.int tr), .val (.int nn), .val (.ref b1), .val (.int r_6), .val (.int r_7), .val (.int r_12), .val (.int r_13), .val (.int pc24), .val (.int ps), .val (.int vb), .val (.int at_), .val (.int e28), .val (.int c29), .val (.int ln), .unset, .unset, .unset] []))
                                refine Go.by (fun _ => XS.iload X20.here hx rfl (hb hby at_459) rfl) ?_
                                show Go p e below P (T20.setTop (mkF m 461 #[.val (.long q0), .second, .val (.long q2), .second, .val (.long q4), .second, .val (.int p6), .val (.int p7), .val (.int p8), .val (.int p9), .val (.int w10), .val (.int t11), .val (.int j12), .val (.int p9), .val (.int ws), .val (.int pr), .val (.int cl), .val (.int tr), .val (.int nn), .val (.ref b1), .val (.int r_6), .val (.int r_7), .val (.int r_12), .val (.int r_13), .val (.int pc24), .val (.int ps), .val (.int vb), .val (.int at_), .val (.int e28), .val (.int c29), .val (.int ln), .unset, .unset, .unset] [(.int r_7)]))
                                obtain ⟨_, _, ⟨T21, L21, k21, n21⟩, -, X21, ⟨Lc21, hQ21, l21, y21, z21⟩, st21⟩ := Jvm.LawKit.callS X20 hx (y := (⟨"com/example/wirecall/wirecall/bench/AnswersIsResultPinLaw", "sp", "(B)Z"⟩ : MethodName)) hown (mvT hZ (hw _ (List.mem_of_getElem? (i := 16) rfl))) (mvT hZ (hw _ (List.mem_of_getElem? (i := 17) rfl))) (mvT hZ (hw _ (List.mem_of_getElem? (i := 5) rfl))) (mvT hZ (hw _ (List.mem_of_getElem? (i := 18) rfl))) (by decide) (backOf (W := 0) (rm_sp l Z a0 hw [] wOPEN kOPEN wCLOSE kCLOSE wPARAMS kPARAMS hG r_7 hJ403 n0 ZJ403 OJ403  ) hZ (hw _ (List.mem_of_getElem? (i := 18) rfl)) (hw _ (List.mem_of_getElem? (i := 5) rfl)) (Nat.le_of_ble_eq_true rfl) (Nat.le_of_ble_eq_true rfl)) (g := (mkF m 461 #[.val (.long q0), .second, .val (.long q2), .second, .val (.long q4), .second, .val (.int p6), .val (.int p7), .val (.int p8), .val (.int p9), .val (.int w10), .val (.int t11), .val (.int j12), .val (.int p9), .val (.int ws), .val (.int pr), .val (.int cl), .val (.int tr), .val (.int nn), .val (.ref b1), .val (.int r_6), .val (.int r_7), .val (.int r_12), .val (.int r_13), .val (.int pc24), .val (.int ps), .val (.int vb), .val (.int at_), .val (.int e28), .val (.int c29), .val (.int ln), .unset, .unset, .unset] [(.int r_7)])) rfl (by rw [hml]; rfl) (argsL := [(.int r_7)]) (rest := []) (lenOf pd_2 rfl) rfl (by show 2 * 0 + _ ≤ _; exact Nat.le_of_eq rfl) (hb hby at_461) (fun _ _ => ⟨rfl, eq20, (Nat.le_of_ble_eq_true rfl : 1 + 0 ≤ _), (Nat.le_of_ble_eq_true rfl : 60 + 0 ≤ _)⟩)
                                dsimp only [Pt.U, Pt.locs, Pt.cells, Pt.slots] at X21 l21 y21 z21 st21 hQ21
                                subst l21 y21 z21
                                obtain ⟨r_21, rfl, Nq21, eq21, hq21_0⟩ := hQ21
                                have N21 := Fr.app N20 Nq21
                                refine Go.by (fun _ => st21 _) ?_
                                show Go p e below P (T21.setTop (mkF m 464 #[.val (.long q0), .second, .val (.long q2), .second, .val (.long q4), .second, .val (.int p6), .val (.int p7), .val (.int p8), .val (.int p9), .val (.int w10), .val (.int t11), .val (.int j12), .val (.int p9), .val (.int ws), .val (.int pr), .val (.int cl), .val (.int tr), .val (.int nn), .val (.ref b1), .val (.int r_6), .val (.int r_7), .val (.int r_12), .val (.int r_13), .val (.int pc24), .val (.int ps), .val (.int vb), .val (.int at_), .val (.int e28), .val (.int c29), .val (.int ln), .unset, .unset, .unset] [(.int r_21)]))
                                rcases hq21_0 with ⟨rfl, hsp1⟩ | ⟨rfl, hsp1⟩
                                · show Go p e below P (T21.setTop (mkF m 464 #[.val (.long q0), .second, .val (.long q2), .second, .val (.long q4), .second, .val (.int p6), .val (.int p7), .val (.int p8), .val (.int p9), .val (.int w10), .val (.int t11), .val (.int j12), .val (.int p9), .val (.int ws), .val (.int pr), .val (.int cl), .val (.int tr), .val (.int nn), .val (.ref b1), .val (.int r_6), .val (.int r_7), .val (.int r_12), .val (.int r_13), .val (.int pc24), .val (.int ps), .val (.int vb), .val (.int at_), .val (.int e28), .val (.int c29), .val (.int ln), .unset, .unset, .unset] [(.int (1 : Int32))]))
                                  have hc464 : ¬ ((1 : Int32) = (0 : Int32)) := by decide
                                  refine Go.by (fun _ => XS.ifNo X21.here hx rfl (hb hby at_464) rfl ((if0 _ _).trans (feq hc464).1)) ?_
                                  show Go p e below P (T21.setTop (mkF m 467 #[.val (.long q0), .second, .val (.long q2), .second, .val (.long q4), .second, .val (.int p6), .val (.int p7), .val (.int p8), .val (.int p9), .val (.int w10), .val (.int t11), .val (.int j12), .val (.int p9), .val (.int ws), .val (.int pr), .val (.int cl), .val (.int tr), .val (.int nn), .val (.ref b1), .val (.int r_6), .val (.int r_7), .val (.int r_12), .val (.int r_13), .val (.int pc24), .val (.int ps), .val (.int vb), .val (.int at_), .val (.int e28), .val (.int c29), .val (.int ln), .unset, .unset, .unset] []))
                                  refine Go.by (fun _ => XS.iconst X21.here hx rfl (hb hby at_467)) ?_
                                  show Go p e below P (T21.setTop (mkF m 468 #[.val (.long q0), .second, .val (.long q2), .second, .val (.long q4), .second, .val (.int p6), .val (.int p7), .val (.int p8), .val (.int p9), .val (.int w10), .val (.int t11), .val (.int j12), .val (.int p9), .val (.int ws), .val (.int pr), .val (.int cl), .val (.int tr), .val (.int nn), .val (.ref b1), .val (.int r_6), .val (.int r_7), .val (.int r_12), .val (.int r_13), .val (.int pc24), .val (.int ps), .val (.int vb), .val (.int at_), .val (.int e28), .val (.int c29), .val (.int ln), .unset, .unset, .unset] [(.int (1 : Int32))]))
                                  refine Go.by (fun _ => XS.goto X21.here hx rfl (pc0 := 468) (pc' := 472) rfl (hb hby at_468) (by decide) (by decide)) ?_
                                  show Go p e below P (T21.setTop (mkF m 472 #[.val (.long q0), .second, .val (.long q2), .second, .val (.long q4), .second, .val (.int p6), .val (.int p7), .val (.int p8), .val (.int p9), .val (.int w10), .val (.int t11), .val (.int j12), .val (.int p9), .val (.int ws), .val (.int pr), .val (.int cl), .val (.int tr), .val (.int nn), .val (.ref b1), .val (.int r_6), .val (.int r_7), .val (.int r_12), .val (.int r_13), .val (.int pc24), .val (.int ps), .val (.int vb), .val (.int at_), .val (.int e28), .val (.int c29), .val (.int ln), .unset, .unset, .unset] [(.int (1 : Int32))]))
                                  exact J472 T21 _ X21 eq21 N21 (1 : Int32) (Or.inl ⟨rfl, fun _ => hsp0, fun _ => hsp1⟩)
                                · show Go p e below P (T21.setTop (mkF m 464 #[.val (.long q0), .second, .val (.long q2), .second, .val (.long q4), .second, .val (.int p6), .val (.int p7), .val (.int p8), .val (.int p9), .val (.int w10), .val (.int t11), .val (.int j12), .val (.int p9), .val (.int ws), .val (.int pr), .val (.int cl), .val (.int tr), .val (.int nn), .val (.ref b1), .val (.int r_6), .val (.int r_7), .val (.int r_12), .val (.int r_13), .val (.int pc24), .val (.int ps), .val (.int vb), .val (.int at_), .val (.int e28), .val (.int c29), .val (.int ln), .unset, .unset, .unset] [(.int (0 : Int32))]))
                                  have hc464 : (0 : Int32) = (0 : Int32) := by decide
                                  refine Go.by (fun _ => XS.ifYes X21.here hx rfl (pc0 := 464) (pc' := 471) rfl (hb hby at_464) rfl ((if0 _ _).trans (teq hc464).1) (by decide) (by decide)) ?_
                                  show Go p e below P (T21.setTop (mkF m 471 #[.val (.long q0), .second, .val (.long q2), .second, .val (.long q4), .second, .val (.int p6), .val (.int p7), .val (.int p8), .val (.int p9), .val (.int w10), .val (.int t11), .val (.int j12), .val (.int p9), .val (.int ws), .val (.int pr), .val (.int cl), .val (.int tr), .val (.int nn), .val (.ref b1), .val (.int r_6), .val (.int r_7), .val (.int r_12), .val (.int r_13), .val (.int pc24), .val (.int ps), .val (.int vb), .val (.int at_), .val (.int e28), .val (.int c29), .val (.int ln), .unset, .unset, .unset] []))
                                  refine Go.by (fun _ => XS.iconst X21.here hx rfl (hb hby at_471)) ?_
                                  show Go p e below P (T21.setTop (mkF m 472 #[.val (.long q0), .second, .val (.long q2), .second, .val (.long q4), .second, .val (.int p6), .val (.int p7), .val (.int p8), .val (.int p9), .val (.int w10), .val (.int t11), .val (.int j12), .val (.int p9), .val (.int ws), .val (.int pr), .val (.int cl), .val (.int tr), .val (.int nn), .val (.ref b1), .val (.int r_6), .val (.int r_7), .val (.int r_12), .val (.int r_13), .val (.int pc24), .val (.int ps), .val (.int vb), .val (.int at_), .val (.int e28), .val (.int c29), .val (.int ln), .unset, .unset, .unset] [(.int (0 : Int32))]))
                                  exact J472 T21 _ X21 eq21 N21 (0 : Int32) (Or.inr ⟨rfl, fun q => hsp1 (q.2 (Nat.not_lt.mp ((not_congr (own_tlt hwN own_t2)).mp hc456)))⟩)
                            · show Go p e below P (T20.setTop (mkF m 450 #[.val (.long q0), .second, .val (.long q2), .second, .val (.long q4), .second, .val (.int p6), .val (.int p7), .val (.int p8), .val (.int p9), .val (.int w10), .val (.int t11), .val (.int j12), .val (.int p9), .val (.int ws), .val (.int pr), .val (.int cl), .val (.int tr), .val (.int nn), .val (.ref b1), .val (.int r_6), .val (.int r_7), .val (.int r_12), .val (.int r_13), .val (.int pc24), .val (.int ps), .val (.int vb), .val (.int at_), .val (.int e28), .val (.int c29), .val (.int ln), .unset, .unset, .unset] [(.int (0 : Int32))]))
                              have hc450 : (0 : Int32) = (0 : Int32) := by decide
                              refine Go.by (fun _ => XS.ifYes X20.here hx rfl (pc0 := 450) (pc' := 471) rfl (hb hby at_450) rfl ((if0 _ _).trans (teq hc450).1) (by decide) (by decide)) ?_
                              show Go p e below P (T20.setTop (mkF m 471 #[.val (.long q0), .second, .val (.long q2), .second, .val (.long q4), .second, .val (.int p6), .val (.int p7), .val (.int p8), .val (.int p9), .val (.int w10), .val (.int t11), .val (.int j12), .val (.int p9), .val (.int ws), .val (.int pr), .val (.int cl), .val (.int tr), .val (.int nn), .val (.ref b1), .val (.int r_6), .val (.int r_7), .val (.int r_12), .val (.int r_13), .val (.int pc24), .val (.int ps), .val (.int vb), .val (.int at_), .val (.int e28), .val (.int c29), .val (.int ln), .unset, .unset, .unset] []))
                              refine Go.by (fun _ => XS.iconst X20.here hx rfl (hb hby at_471)) ?_
                              show Go p e below P (T20.setTop (mkF m 472 #[.val (.long q0), .second, .val (.long q2), .second, .val (.long q4), .second, .val (.int p6), .val (.int p7), .val (.int p8), .val (.int p9), .val (.int w10), .val (.int t11), .val (.int j12), .val (.int p9), .val (.int ws), .val (.int pr), .val (.int cl), .val (.int tr), .val (.int nn), .val (.ref b1), .val (.int r_6), .val (.int r_7), .val (.int r_12), .val (.int r_13), .val (.int pc24), .val (.int ps), .val (.int vb), .val (.int at_), .val (.int e28), .val (.int c29), .val (.int ln), .unset, .unset, .unset] [(.int (0 : Int32))]))
                              exact J472 T20 _ X20 eq20 N20 (0 : Int32) (Or.inr ⟨rfl, fun q => hsp0 (q.1 (Nat.not_lt.mp ((not_congr (own_tlt hwN own_t1)).mp hc442)))⟩)
                        by_cases hc407 : (p7 &&& (1 : Int32)) = (0 : Int32)
                        · refine Go.by (fun _ => XS.ifNo XJ403.here hx rfl (hb hby at_407) rfl ((if0 _ _).trans (teq hc407).2)) ?_
                          show Go p e below P (TJ403.setTop (mkF m 410 #[.val (.long q0), .second, .val (.long q2), .second, .val (.long q4), .second, .val (.int p6), .val (.int p7), .val (.int p8), .val (.int p9), .val (.int w10), .val (.int t11), .val (.int j12), .val (.int p9), .val (.int ws), .val (.int pr), .val (.int cl), .val (.int tr), .val (.int nn), .val (.ref b1), .val (.int r_6), .val (.int r_7), .val (.int r_12), .val (.int r_13), .val (.int pc24), .val (.int ps), .val (.int vb), .val (.int at_), .val (.int e28), .unset, .unset, .unset, .unset, .unset] []))
                          refine Go.by (fun _ => XS.iload XJ403.here hx rfl (hb hby at_410) rfl) ?_
                          show Go p e below P (TJ403.setTop (mkF m 412 #[.val (.long q0), .second, .val (.long q2), .second, .val (.long q4), .second, .val (.int p6), .val (.int p7), .val (.int p8), .val (.int p9), .val (.int w10), .val (.int t11), .val (.int j12), .val (.int p9), .val (.int ws), .val (.int pr), .val (.int cl), .val (.int tr), .val (.int nn), .val (.ref b1), .val (.int r_6), .val (.int r_7), .val (.int r_12), .val (.int r_13), .val (.int pc24), .val (.int ps), .val (.int vb), .val (.int at_), .val (.int e28), .unset, .unset, .unset, .unset, .unset] [(.int p7)]))
                          refine Go.by (fun _ => XS.iconst XJ403.here hx rfl (hb hby at_412)) ?_
                          show Go p e below P (TJ403.setTop (mkF m 413 #[.val (.long q0), .second, .val (.long q2), .second, .val (.long q4), .second, .val (.int p6), .val (.int p7), .val (.int p8), .val (.int p9), .val (.int w10), .val (.int t11), .val (.int j12), .val (.int p9), .val (.int ws), .val (.int pr), .val (.int cl), .val (.int tr), .val (.int nn), .val (.ref b1), .val (.int r_6), .val (.int r_7), .val (.int r_12), .val (.int r_13), .val (.int pc24), .val (.int ps), .val (.int vb), .val (.int at_), .val (.int e28), .unset, .unset, .unset, .unset, .unset] [(.int (1 : Int32)), (.int p7)]))
                          refine Go.by (fun _ => XS.iushr XJ403.here hx rfl (hb hby at_413) rfl) ?_
                          show Go p e below P (TJ403.setTop (mkF m 414 #[.val (.long q0), .second, .val (.long q2), .second, .val (.long q4), .second, .val (.int p6), .val (.int p7), .val (.int p8), .val (.int p9), .val (.int w10), .val (.int t11), .val (.int j12), .val (.int p9), .val (.int ws), .val (.int pr), .val (.int cl), .val (.int tr), .val (.int nn), .val (.ref b1), .val (.int r_6), .val (.int r_7), .val (.int r_12), .val (.int r_13), .val (.int pc24), .val (.int ps), .val (.int vb), .val (.int at_), .val (.int e28), .unset, .unset, .unset, .unset, .unset] [(.int (((p7).toUInt32 >>> ((1 : Int32) &&& 31).toUInt32).toInt32))]))
                          refine Go.by (fun _ => XS.iconst XJ403.here hx rfl (hb hby at_414)) ?_
                          show Go p e below P (TJ403.setTop (mkF m 415 #[.val (.long q0), .second, .val (.long q2), .second, .val (.long q4), .second, .val (.int p6), .val (.int p7), .val (.int p8), .val (.int p9), .val (.int w10), .val (.int t11), .val (.int j12), .val (.int p9), .val (.int ws), .val (.int pr), .val (.int cl), .val (.int tr), .val (.int nn), .val (.ref b1), .val (.int r_6), .val (.int r_7), .val (.int r_12), .val (.int r_13), .val (.int pc24), .val (.int ps), .val (.int vb), .val (.int at_), .val (.int e28), .unset, .unset, .unset, .unset, .unset] [(.int (3 : Int32)), (.int (((p7).toUInt32 >>> ((1 : Int32) &&& 31).toUInt32).toInt32))]))
                          refine Go.by (fun _ => XS.iand XJ403.here hx rfl (hb hby at_415) rfl) ?_
                          show Go p e below P (TJ403.setTop (mkF m 416 #[.val (.long q0), .second, .val (.long q2), .second, .val (.long q4), .second, .val (.int p6), .val (.int p7), .val (.int p8), .val (.int p9), .val (.int w10), .val (.int t11), .val (.int j12), .val (.int p9), .val (.int ws), .val (.int pr), .val (.int cl), .val (.int tr), .val (.int nn), .val (.ref b1), .val (.int r_6), .val (.int r_7), .val (.int r_12), .val (.int r_13), .val (.int pc24), .val (.int ps), .val (.int vb), .val (.int at_), .val (.int e28), .unset, .unset, .unset, .unset, .unset] [(.int ((((p7).toUInt32 >>> ((1 : Int32) &&& 31).toUInt32).toInt32) &&& (3 : Int32)))]))
                          refine Go.by (fun _ => XS.istore XJ403.here hx rfl (g := (mkF m 416 #[.val (.long q0), .second, .val (.long q2), .second, .val (.long q4), .second, .val (.int p6), .val (.int p7), .val (.int p8), .val (.int p9), .val (.int w10), .val (.int t11), .val (.int j12), .val (.int p9), .val (.int ws), .val (.int pr), .val (.int cl), .val (.int tr), .val (.int nn), .val (.ref b1), .val (.int r_6), .val (.int r_7), .val (.int r_12), .val (.int r_13), .val (.int pc24), .val (.int ps), .val (.int vb), .val (.int at_), .val (.int e28), .unset, .unset, .unset, .unset, .unset] [(.int ((((p7).toUInt32 >>> ((1 : Int32) &&& 31).toUInt32).toInt32) &&& (3 : Int32)))])) (hb hby at_416) rfl (l' := #[.val (.long q0), .second, .val (.long q2), .second, .val (.long q4), .second, .val (.int p6), .val (.int p7), .val (.int p8), .val (.int p9), .val (.int w10), .val (.int t11), .val (.int j12), .val (.int p9), .val (.int ws), .val (.int pr), .val (.int cl), .val (.int tr), .val (.int nn), .val (.ref b1), .val (.int r_6), .val (.int r_7), .val (.int r_12), .val (.int r_13), .val (.int pc24), .val (.int ps), .val (.int vb), .val (.int at_), .val (.int e28), .val (.int ((((p7).toUInt32 >>> ((1 : Int32) &&& 31).toUInt32).toInt32) &&& (3 : Int32))), .unset, .unset, .unset, .unset]) rfl) ?_
                          show Go p e below P (TJ403.setTop (mkF m 418 #[.val (.long q0), .second, .val (.long q2), .second, .val (.long q4), .second, .val (.int p6), .val (.int p7), .val (.int p8), .val (.int p9), .val (.int w10), .val (.int t11), .val (.int j12), .val (.int p9), .val (.int ws), .val (.int pr), .val (.int cl), .val (.int tr), .val (.int nn), .val (.ref b1), .val (.int r_6), .val (.int r_7), .val (.int r_12), .val (.int r_13), .val (.int pc24), .val (.int ps), .val (.int vb), .val (.int at_), .val (.int e28), .val (.int ((((p7).toUInt32 >>> ((1 : Int32) &&& 31).toUInt32).toInt32) &&& (3 : Int32))), .unset, .unset, .unset, .unset] []))
                          refine Go.by (fun _ => XS.goto XJ403.here hx rfl (pc0 := 418) (pc' := 432) rfl (hb hby at_418) (by decide) (by decide)) ?_
                          show Go p e below P (TJ403.setTop (mkF m 432 #[.val (.long q0), .second, .val (.long q2), .second, .val (.long q4), .second, .val (.int p6), .val (.int p7), .val (.int p8), .val (.int p9), .val (.int w10), .val (.int t11), .val (.int j12), .val (.int p9), .val (.int ws), .val (.int pr), .val (.int cl), .val (.int tr), .val (.int nn), .val (.ref b1), .val (.int r_6), .val (.int r_7), .val (.int r_12), .val (.int r_13), .val (.int pc24), .val (.int ps), .val (.int vb), .val (.int at_), .val (.int e28), .val (.int ((((p7).toUInt32 >>> ((1 : Int32) &&& 31).toUInt32).toInt32) &&& (3 : Int32))), .unset, .unset, .unset, .unset] []))
                          exact J432 ((((p7).toUInt32 >>> ((1 : Int32) &&& 31).toUInt32).toInt32) &&& (3 : Int32)) (own_c29 _ (by omega))
                        · refine Go.by (fun _ => XS.ifYes XJ403.here hx rfl (pc0 := 407) (pc' := 421) rfl (hb hby at_407) rfl ((if0 _ _).trans (feq hc407).2) (by decide) (by decide)) ?_
                          show Go p e below P (TJ403.setTop (mkF m 421 #[.val (.long q0), .second, .val (.long q2), .second, .val (.long q4), .second, .val (.int p6), .val (.int p7), .val (.int p8), .val (.int p9), .val (.int w10), .val (.int t11), .val (.int j12), .val (.int p9), .val (.int ws), .val (.int pr), .val (.int cl), .val (.int tr), .val (.int nn), .val (.ref b1), .val (.int r_6), .val (.int r_7), .val (.int r_12), .val (.int r_13), .val (.int pc24), .val (.int ps), .val (.int vb), .val (.int at_), .val (.int e28), .unset, .unset, .unset, .unset, .unset] []))
                          refine Go.by (fun _ => XS.iload XJ403.here hx rfl (hb hby at_421) rfl) ?_
                          show Go p e below P (TJ403.setTop (mkF m 423 #[.val (.long q0), .second, .val (.long q2), .second, .val (.long q4), .second, .val (.int p6), .val (.int p7), .val (.int p8), .val (.int p9), .val (.int w10), .val (.int t11), .val (.int j12), .val (.int p9), .val (.int ws), .val (.int pr), .val (.int cl), .val (.int tr), .val (.int nn), .val (.ref b1), .val (.int r_6), .val (.int r_7), .val (.int r_12), .val (.int r_13), .val (.int pc24), .val (.int ps), .val (.int vb), .val (.int at_), .val (.int e28), .unset, .unset, .unset, .unset, .unset] [(.int p7)]))
                          refine Go.by (fun _ => XS.iconst XJ403.here hx rfl (hb hby at_423)) ?_
                          show Go p e below P (TJ403.setTop (mkF m 424 #[.val (.long q0), .second, .val (.long q2), .second, .val (.long q4), .second, .val (.int p6), .val (.int p7), .val (.int p8), .val (.int p9), .val (.int w10), .val (.int t11), .val (.int j12), .val (.int p9), .val (.int ws), .val (.int pr), .val (.int cl), .val (.int tr), .val (.int nn), .val (.ref b1), .val (.int r_6), .val (.int r_7), .val (.int r_12), .val (.int r_13), .val (.int pc24), .val (.int ps), .val (.int vb), .val (.int at_), .val (.int e28), .unset, .unset, .unset, .unset, .unset] [(.int (1 : Int32)), (.int p7)]))
                          refine Go.by (fun _ => XS.iushr XJ403.here hx rfl (hb hby at_424) rfl) ?_
                          show Go p e below P (TJ403.setTop (mkF m 425 #[.val (.long q0), .second, .val (.long q2), .second, .val (.long q4), .second, .val (.int p6), .val (.int p7), .val (.int p8), .val (.int p9), .val (.int w10), .val (.int t11), .val (.int j12), .val (.int p9), .val (.int ws), .val (.int pr), .val (.int cl), .val (.int tr), .val (.int nn), .val (.ref b1), .val (.int r_6), .val (.int r_7), .val (.int r_12), .val (.int r_13), .val (.int pc24), .val (.int ps), .val (.int vb), .val (.int at_), .val (.int e28), .unset, .unset, .unset, .unset, .unset] [(.int (((p7).toUInt32 >>> ((1 : Int32) &&& 31).toUInt32).toInt32))]))
                          refine Go.by (fun _ => XS.iload XJ403.here hx rfl (hb hby at_425) rfl) ?_
                          show Go p e below P (TJ403.setTop (mkF m 427 #[.val (.long q0), .second, .val (.long q2), .second, .val (.long q4), .second, .val (.int p6), .val (.int p7), .val (.int p8), .val (.int p9), .val (.int w10), .val (.int t11), .val (.int j12), .val (.int p9), .val (.int ws), .val (.int pr), .val (.int cl), .val (.int tr), .val (.int nn), .val (.ref b1), .val (.int r_6), .val (.int r_7), .val (.int r_12), .val (.int r_13), .val (.int pc24), .val (.int ps), .val (.int vb), .val (.int at_), .val (.int e28), .unset, .unset, .unset, .unset, .unset] [(.int nn), (.int (((p7).toUInt32 >>> ((1 : Int32) &&& 31).toUInt32).toInt32))]))
                          refine Go.by (fun _ => XS.iconst XJ403.here hx rfl (hb hby at_427)) ?_
                          show Go p e below P (TJ403.setTop (mkF m 428 #[.val (.long q0), .second, .val (.long q2), .second, .val (.long q4), .second, .val (.int p6), .val (.int p7), .val (.int p8), .val (.int p9), .val (.int w10), .val (.int t11), .val (.int j12), .val (.int p9), .val (.int ws), .val (.int pr), .val (.int cl), .val (.int tr), .val (.int nn), .val (.ref b1), .val (.int r_6), .val (.int r_7), .val (.int r_12), .val (.int r_13), .val (.int pc24), .val (.int ps), .val (.int vb), .val (.int at_), .val (.int e28), .unset, .unset, .unset, .unset, .unset] [(.int (1 : Int32)), (.int nn), (.int (((p7).toUInt32 >>> ((1 : Int32) &&& 31).toUInt32).toInt32))]))
                          refine Go.by (fun _ => XS.iadd XJ403.here hx rfl (hb hby at_428) rfl) ?_
                          show Go p e below P (TJ403.setTop (mkF m 429 #[.val (.long q0), .second, .val (.long q2), .second, .val (.long q4), .second, .val (.int p6), .val (.int p7), .val (.int p8), .val (.int p9), .val (.int w10), .val (.int t11), .val (.int j12), .val (.int p9), .val (.int ws), .val (.int pr), .val (.int cl), .val (.int tr), .val (.int nn), .val (.ref b1), .val (.int r_6), .val (.int r_7), .val (.int r_12), .val (.int r_13), .val (.int pc24), .val (.int ps), .val (.int vb), .val (.int at_), .val (.int e28), .unset, .unset, .unset, .unset, .unset] [(.int (nn + (1 : Int32))), (.int (((p7).toUInt32 >>> ((1 : Int32) &&& 31).toUInt32).toInt32))]))
                          refine Go.by (fun _ => iremM XJ403 hx rfl (hb hby at_429) rfl (own_nz (own_tadd hnn own_t1 (by omega) (by decide)))) ?_
                          show Go p e below P (TJ403.setTop (mkF m 430 #[.val (.long q0), .second, .val (.long q2), .second, .val (.long q4), .second, .val (.int p6), .val (.int p7), .val (.int p8), .val (.int p9), .val (.int w10), .val (.int t11), .val (.int j12), .val (.int p9), .val (.int ws), .val (.int pr), .val (.int cl), .val (.int tr), .val (.int nn), .val (.ref b1), .val (.int r_6), .val (.int r_7), .val (.int r_12), .val (.int r_13), .val (.int pc24), .val (.int ps), .val (.int vb), .val (.int at_), .val (.int e28), .unset, .unset, .unset, .unset, .unset] [(.int ((((p7).toUInt32 >>> ((1 : Int32) &&& 31).toUInt32).toInt32) % (nn + (1 : Int32))))]))
                          refine Go.by (fun _ => XS.istore XJ403.here hx rfl (g := (mkF m 430 #[.val (.long q0), .second, .val (.long q2), .second, .val (.long q4), .second, .val (.int p6), .val (.int p7), .val (.int p8), .val (.int p9), .val (.int w10), .val (.int t11), .val (.int j12), .val (.int p9), .val (.int ws), .val (.int pr), .val (.int cl), .val (.int tr), .val (.int nn), .val (.ref b1), .val (.int r_6), .val (.int r_7), .val (.int r_12), .val (.int r_13), .val (.int pc24), .val (.int ps), .val (.int vb), .val (.int at_), .val (.int e28), .unset, .unset, .unset, .unset, .unset] [(.int ((((p7).toUInt32 >>> ((1 : Int32) &&& 31).toUInt32).toInt32) % (nn + (1 : Int32))))])) (hb hby at_430) rfl (l' := #[.val (.long q0), .second, .val (.long q2), .second, .val (.long q4), .second, .val (.int p6), .val (.int p7), .val (.int p8), .val (.int p9), .val (.int w10), .val (.int t11), .val (.int j12), .val (.int p9), .val (.int ws), .val (.int pr), .val (.int cl), .val (.int tr), .val (.int nn), .val (.ref b1), .val (.int r_6), .val (.int r_7), .val (.int r_12), .val (.int r_13), .val (.int pc24), .val (.int ps), .val (.int vb), .val (.int at_), .val (.int e28), .val (.int ((((p7).toUInt32 >>> ((1 : Int32) &&& 31).toUInt32).toInt32) % (nn + (1 : Int32)))), .unset, .unset, .unset, .unset]) rfl) ?_
                          show Go p e below P (TJ403.setTop (mkF m 432 #[.val (.long q0), .second, .val (.long q2), .second, .val (.long q4), .second, .val (.int p6), .val (.int p7), .val (.int p8), .val (.int p9), .val (.int w10), .val (.int t11), .val (.int j12), .val (.int p9), .val (.int ws), .val (.int pr), .val (.int cl), .val (.int tr), .val (.int nn), .val (.ref b1), .val (.int r_6), .val (.int r_7), .val (.int r_12), .val (.int r_13), .val (.int pc24), .val (.int ps), .val (.int vb), .val (.int at_), .val (.int e28), .val (.int ((((p7).toUInt32 >>> ((1 : Int32) &&& 31).toUInt32).toInt32) % (nn + (1 : Int32)))), .unset, .unset, .unset, .unset] []))
                          exact J432 ((((p7).toUInt32 >>> ((1 : Int32) &&& 31).toUInt32).toInt32) % (nn + (1 : Int32))) (own_cut p7 hnn (by omega))
                      rcases hat with hat | ⟨m_, hat, hmR⟩
                      · show Go p e below P (TJ290.setTop (mkF m 374 #[.val (.long q0), .second, .val (.long q2), .second, .val (.long q4), .second, .val (.int p6), .val (.int p7), .val (.int p8), .val (.int p9), .val (.int w10), .val (.int t11), .val (.int j12), .val (.int p9), .val (.int ws), .val (.int pr), .val (.int cl), .val (.int tr), .val (.int nn), .val (.ref b1), .val (.int r_6), .val (.int r_7), .val (.int r_12), .val (.int r_13), .val (.int pc24), .val (.int ps), .val (.int vb), .val (.int at_), .val (.int (1 : Int32)), .unset, .unset, .unset, .unset, .unset] []))
                        refine Go.by (fun _ => XS.iload XJ290.here hx rfl (hb hby at_374) rfl) ?_
                        show Go p e below P (TJ290.setTop (mkF m 376 #[.val (.long q0), .second, .val (.long q2), .second, .val (.long q4), .second, .val (.int p6), .val (.int p7), .val (.int p8), .val (.int p9), .val (.int w10), .val (.int t11), .val (.int j12), .val (.int p9), .val (.int ws), .val (.int pr), .val (.int cl), .val (.int tr), .val (.int nn), .val (.ref b1), .val (.int r_6), .val (.int r_7), .val (.int r_12), .val (.int r_13), .val (.int pc24), .val (.int ps), .val (.int vb), .val (.int at_), .val (.int (1 : Int32)), .unset, .unset, .unset, .unset, .unset] [(.int at_)]))
                        have hc376 : at_ < (0 : Int32) := (own_neg1 hat)
                        refine Go.by (fun _ => XS.ifYes XJ290.here hx rfl (pc0 := 376) (pc' := 403) rfl (hb hby at_376) rfl ((if0 _ _).trans (tlt hc376).1) (by decide) (by decide)) ?_
                        show Go p e below P (TJ290.setTop (mkF m 403 #[.val (.long q0), .second, .val (.long q2), .second, .val (.long q4), .second, .val (.int p6), .val (.int p7), .val (.int p8), .val (.int p9), .val (.int w10), .val (.int t11), .val (.int j12), .val (.int p9), .val (.int ws), .val (.int pr), .val (.int cl), .val (.int tr), .val (.int nn), .val (.ref b1), .val (.int r_6), .val (.int r_7), .val (.int r_12), .val (.int r_13), .val (.int pc24), .val (.int ps), .val (.int vb), .val (.int at_), .val (.int (1 : Int32)), .unset, .unset, .unset, .unset, .unset] []))
                        exact J403 TJ290 _ hJ290 XJ290 eJ290 NJ290 (1 : Int32) (bs12) (0) OJ290 ZJ290 FJ290_0 hl_bs12 (fun i _ => rfl) (Or.inl ⟨rfl, fun i => rfl⟩)
                      · show Go p e below P (TJ290.setTop (mkF m 374 #[.val (.long q0), .second, .val (.long q2), .second, .val (.long q4), .second, .val (.int p6), .val (.int p7), .val (.int p8), .val (.int p9), .val (.int w10), .val (.int t11), .val (.int j12), .val (.int p9), .val (.int ws), .val (.int pr), .val (.int cl), .val (.int tr), .val (.int nn), .val (.ref b1), .val (.int r_6), .val (.int r_7), .val (.int r_12), .val (.int r_13), .val (.int pc24), .val (.int ps), .val (.int vb), .val (.int at_), .val (.int (1 : Int32)), .unset, .unset, .unset, .unset, .unset] []))
                        refine Go.by (fun _ => XS.iload XJ290.here hx rfl (hb hby at_374) rfl) ?_
                        show Go p e below P (TJ290.setTop (mkF m 376 #[.val (.long q0), .second, .val (.long q2), .second, .val (.long q4), .second, .val (.int p6), .val (.int p7), .val (.int p8), .val (.int p9), .val (.int w10), .val (.int t11), .val (.int j12), .val (.int p9), .val (.int ws), .val (.int pr), .val (.int cl), .val (.int tr), .val (.int nn), .val (.ref b1), .val (.int r_6), .val (.int r_7), .val (.int r_12), .val (.int r_13), .val (.int pc24), .val (.int ps), .val (.int vb), .val (.int at_), .val (.int (1 : Int32)), .unset, .unset, .unset, .unset, .unset] [(.int at_)]))
                        have hc376 : ¬ (at_ < (0 : Int32)) := (own_ge0 hat)
                        refine Go.by (fun _ => XS.ifNo XJ290.here hx rfl (hb hby at_376) rfl ((if0 _ _).trans (flt hc376).1)) ?_
                        show Go p e below P (TJ290.setTop (mkF m 379 #[.val (.long q0), .second, .val (.long q2), .second, .val (.long q4), .second, .val (.int p6), .val (.int p7), .val (.int p8), .val (.int p9), .val (.int w10), .val (.int t11), .val (.int j12), .val (.int p9), .val (.int ws), .val (.int pr), .val (.int cl), .val (.int tr), .val (.int nn), .val (.ref b1), .val (.int r_6), .val (.int r_7), .val (.int r_12), .val (.int r_13), .val (.int pc24), .val (.int ps), .val (.int vb), .val (.int at_), .val (.int (1 : Int32)), .unset, .unset, .unset, .unset, .unset] []))
                        refine Go.by (fun _ => XS.aload XJ290.here hx rfl (hb hby at_379) rfl rfl) ?_
                        show Go p e below P (TJ290.setTop (mkF m 381 #[.val (.long q0), .second, .val (.long q2), .second, .val (.long q4), .second, .val (.int p6), .val (.int p7), .val (.int p8), .val (.int p9), .val (.int w10), .val (.int t11), .val (.int j12), .val (.int p9), .val (.int ws), .val (.int pr), .val (.int cl), .val (.int tr), .val (.int nn), .val (.ref b1), .val (.int r_6), .val (.int r_7), .val (.int r_12), .val (.int r_13), .val (.int pc24), .val (.int ps), .val (.int vb), .val (.int at_), .val (.int (1 : Int32)), .unset, .unset, .unset, .unset, .unset] [(.ref b1)]))
                        refine Go.by (fun _ => XS.iload XJ290.here hx rfl (hb hby at_381) rfl) ?_
                        show Go p e below P (TJ290.setTop (mkF m 383 #[.val (.long q0), .second, .val (.long q2), .second, .val (.long q4), .second, .val (.int p6), .val (.int p7), .val (.int p8), .val (.int p9), .val (.int w10), .val (.int t11), .val (.int j12), .val (.int p9), .val (.int ws), .val (.int pr), .val (.int cl), .val (.int tr), .val (.int nn), .val (.ref b1), .val (.int r_6), .val (.int r_7), .val (.int r_12), .val (.int r_13), .val (.int pc24), .val (.int ps), .val (.int vb), .val (.int at_), .val (.int (1 : Int32)), .unset, .unset, .unset, .unset, .unset] [(.int at_), (.ref b1)]))
                        have hj22 : (at_).toInt = ((m_ : Nat) : Int) := hat
                        have hi22 : m_ < (bs12).length := (by rw [hl_bs12]; exact own_reg hmR)
                        obtain ⟨hx22, hy22, hz22⟩ := own_ix hj22 (by rw [hl_bs12]; exact hNB) hi22
                        obtain ⟨cl22, Ar22, qc22, Sz22, Ng22, Hs22, Gf22⟩ := id (FJ290_0)
                        have hin22 : ¬ (at_ < 0 ∨ cl22.slots.size ≤ (at_).toNatClampNeg) := inb_of Sz22 ⟨hx22, hy22⟩
                        refine Go.by (fun _ => XJ290.baloadBytes hx (j := at_) (v := (.int (bs12.getD (m_) 0))) (by rw [eJ290]; exact Ar22.1) (State.isArrayOf_alike hZ.alike Ar22.2.1) Ar22.2.2 hin22 (Has.at Hs22 hin22 (by rw [hz22]; exact own_get _ _)) (g := (mkF m 383 #[.val (.long q0), .second, .val (.long q2), .second, .val (.long q4), .second, .val (.int p6), .val (.int p7), .val (.int p8), .val (.int p9), .val (.int w10), .val (.int t11), .val (.int j12), .val (.int p9), .val (.int ws), .val (.int pr), .val (.int cl), .val (.int tr), .val (.int nn), .val (.ref b1), .val (.int r_6), .val (.int r_7), .val (.int r_12), .val (.int r_13), .val (.int pc24), .val (.int ps), .val (.int vb), .val (.int at_), .val (.int (1 : Int32)), .unset, .unset, .unset, .unset, .unset] [(.int at_), (.ref b1)])) rfl rfl (hb hby at_383) _) ?_
                        show Go p e below P (TJ290.setTop (mkF m 384 #[.val (.long q0), .second, .val (.long q2), .second, .val (.long q4), .second, .val (.int p6), .val (.int p7), .val (.int p8), .val (.int p9), .val (.int w10), .val (.int t11), .val (.int j12), .val (.int p9), .val (.int ws), .val (.int pr), .val (.int cl), .val (.int tr), .val (.int nn), .val (.ref b1), .val (.int r_6), .val (.int r_7), .val (.int r_12), .val (.int r_13), .val (.int pc24), .val (.int ps), .val (.int vb), .val (.int at_), .val (.int (1 : Int32)), .unset, .unset, .unset, .unset, .unset] [(.int (bs12.getD (m_) 0))]))
                        refine Go.by (fun _ => XS.iload XJ290.here hx rfl (hb hby at_384) rfl) ?_
                        show Go p e below P (TJ290.setTop (mkF m 386 #[.val (.long q0), .second, .val (.long q2), .second, .val (.long q4), .second, .val (.int p6), .val (.int p7), .val (.int p8), .val (.int p9), .val (.int w10), .val (.int t11), .val (.int j12), .val (.int p9), .val (.int ws), .val (.int pr), .val (.int cl), .val (.int tr), .val (.int nn), .val (.ref b1), .val (.int r_6), .val (.int r_7), .val (.int r_12), .val (.int r_13), .val (.int pc24), .val (.int ps), .val (.int vb), .val (.int at_), .val (.int (1 : Int32)), .unset, .unset, .unset, .unset, .unset] [(.int vb), (.int (bs12.getD (m_) 0))]))
                        by_cases hc386 : (bs12.getD (m_) 0) = vb
                        · refine Go.by (fun _ => XS.icmpNo XJ290.here hx rfl (hb hby at_386) rfl (teq hc386).2) ?_
                          show Go p e below P (TJ290.setTop (mkF m 389 #[.val (.long q0), .second, .val (.long q2), .second, .val (.long q4), .second, .val (.int p6), .val (.int p7), .val (.int p8), .val (.int p9), .val (.int w10), .val (.int t11), .val (.int j12), .val (.int p9), .val (.int ws), .val (.int pr), .val (.int cl), .val (.int tr), .val (.int nn), .val (.ref b1), .val (.int r_6), .val (.int r_7), .val (.int r_12), .val (.int r_13), .val (.int pc24), .val (.int ps), .val (.int vb), .val (.int at_), .val (.int (1 : Int32)), .unset, .unset, .unset, .unset, .unset] []))
                          refine Go.by (fun _ => XS.iconst XJ290.here hx rfl (hb hby at_389)) ?_
                          show Go p e below P (TJ290.setTop (mkF m 390 #[.val (.long q0), .second, .val (.long q2), .second, .val (.long q4), .second, .val (.int p6), .val (.int p7), .val (.int p8), .val (.int p9), .val (.int w10), .val (.int t11), .val (.int j12), .val (.int p9), .val (.int ws), .val (.int pr), .val (.int cl), .val (.int tr), .val (.int nn), .val (.ref b1), .val (.int r_6), .val (.int r_7), .val (.int r_12), .val (.int r_13), .val (.int pc24), .val (.int ps), .val (.int vb), .val (.int at_), .val (.int (1 : Int32)), .unset, .unset, .unset, .unset, .unset] [(.int (1 : Int32))]))
                          refine Go.by (fun _ => XS.goto XJ290.here hx rfl (pc0 := 390) (pc' := 394) rfl (hb hby at_390) (by decide) (by decide)) ?_
                          show Go p e below P (TJ290.setTop (mkF m 394 #[.val (.long q0), .second, .val (.long q2), .second, .val (.long q4), .second, .val (.int p6), .val (.int p7), .val (.int p8), .val (.int p9), .val (.int w10), .val (.int t11), .val (.int j12), .val (.int p9), .val (.int ws), .val (.int pr), .val (.int cl), .val (.int tr), .val (.int nn), .val (.ref b1), .val (.int r_6), .val (.int r_7), .val (.int r_12), .val (.int r_13), .val (.int pc24), .val (.int ps), .val (.int vb), .val (.int at_), .val (.int (1 : Int32)), .unset, .unset, .unset, .unset, .unset] [(.int (1 : Int32))]))
                          refine Go.by (fun _ => XS.istore XJ290.here hx rfl (g := (mkF m 394 #[.val (.long q0), .second, .val (.long q2), .second, .val (.long q4), .second, .val (.int p6), .val (.int p7), .val (.int p8), .val (.int p9), .val (.int w10), .val (.int t11), .val (.int j12), .val (.int p9), .val (.int ws), .val (.int pr), .val (.int cl), .val (.int tr), .val (.int nn), .val (.ref b1), .val (.int r_6), .val (.int r_7), .val (.int r_12), .val (.int r_13), .val (.int pc24), .val (.int ps), .val (.int vb), .val (.int at_), .val (.int (1 : Int32)), .unset, .unset, .unset, .unset, .unset] [(.int (1 : Int32))])) (hb hby at_394) rfl (l' := #[.val (.long q0), .second, .val (.long q2), .second, .val (.long q4), .second, .val (.int p6), .val (.int p7), .val (.int p8), .val (.int p9), .val (.int w10), .val (.int t11), .val (.int j12), .val (.int p9), .val (.int ws), .val (.int pr), .val (.int cl), .val (.int tr), .val (.int nn), .val (.ref b1), .val (.int r_6), .val (.int r_7), .val (.int r_12), .val (.int r_13), .val (.int pc24), .val (.int ps), .val (.int vb), .val (.int at_), .val (.int (1 : Int32)), .unset, .unset, .unset, .unset, .unset]) rfl) ?_
                          show Go p e below P (TJ290.setTop (mkF m 396 #[.val (.long q0), .second, .val (.long q2), .second, .val (.long q4), .second, .val (.int p6), .val (.int p7), .val (.int p8), .val (.int p9), .val (.int w10), .val (.int t11), .val (.int j12), .val (.int p9), .val (.int ws), .val (.int pr), .val (.int cl), .val (.int tr), .val (.int nn), .val (.ref b1), .val (.int r_6), .val (.int r_7), .val (.int r_12), .val (.int r_13), .val (.int pc24), .val (.int ps), .val (.int vb), .val (.int at_), .val (.int (1 : Int32)), .unset, .unset, .unset, .unset, .unset] []))
                          refine Go.by (fun _ => XS.aload XJ290.here hx rfl (hb hby at_396) rfl rfl) ?_
                          show Go p e below P (TJ290.setTop (mkF m 398 #[.val (.long q0), .second, .val (.long q2), .second, .val (.long q4), .second, .val (.int p6), .val (.int p7), .val (.int p8), .val (.int p9), .val (.int w10), .val (.int t11), .val (.int j12), .val (.int p9), .val (.int ws), .val (.int pr), .val (.int cl), .val (.int tr), .val (.int nn), .val (.ref b1), .val (.int r_6), .val (.int r_7), .val (.int r_12), .val (.int r_13), .val (.int pc24), .val (.int ps), .val (.int vb), .val (.int at_), .val (.int (1 : Int32)), .unset, .unset, .unset, .unset, .unset] [(.ref b1)]))
                          refine Go.by (fun _ => XS.iload XJ290.here hx rfl (hb hby at_398) rfl) ?_
                          show Go p e below P (TJ290.setTop (mkF m 400 #[.val (.long q0), .second, .val (.long q2), .second, .val (.long q4), .second, .val (.int p6), .val (.int p7), .val (.int p8), .val (.int p9), .val (.int w10), .val (.int t11), .val (.int j12), .val (.int p9), .val (.int ws), .val (.int pr), .val (.int cl), .val (.int tr), .val (.int nn), .val (.ref b1), .val (.int r_6), .val (.int r_7), .val (.int r_12), .val (.int r_13), .val (.int pc24), .val (.int ps), .val (.int vb), .val (.int at_), .val (.int (1 : Int32)), .unset, .unset, .unset, .unset, .unset] [(.int at_), (.ref b1)]))
                          refine Go.by (fun _ => XS.iload XJ290.here hx rfl (hb hby at_400) rfl) ?_
                          show Go p e below P (TJ290.setTop (mkF m 402 #[.val (.long q0), .second, .val (.long q2), .second, .val (.long q4), .second, .val (.int p6), .val (.int p7), .val (.int p8), .val (.int p9), .val (.int w10), .val (.int t11), .val (.int j12), .val (.int p9), .val (.int ws), .val (.int pr), .val (.int cl), .val (.int tr), .val (.int nn), .val (.ref b1), .val (.int r_6), .val (.int r_7), .val (.int r_12), .val (.int r_13), .val (.int pc24), .val (.int ps), .val (.int vb), .val (.int at_), .val (.int (1 : Int32)), .unset, .unset, .unset, .unset, .unset] [(.int vb), (.int at_), (.ref b1)]))
                          have hj23 : (at_).toInt = ((m_ : Nat) : Int) := hat
                          have hi23 : m_ < (bs12).length := (by rw [hl_bs12]; exact own_reg hmR)
                          obtain ⟨hx23, hy23, hz23⟩ := own_ix hj23 (by rw [hl_bs12]; exact hNB) hi23
                          obtain ⟨cl23, Ar23, qc23, Sz23, Ng23, Hs23, Gf23⟩ := id (FJ290_0)
                          have hin23 : ¬ (at_ < 0 ∨ cl23.slots.size ≤ (at_).toNatClampNeg) := inb_of Sz23 ⟨hx23, hy23⟩
                          obtain ⟨T23, h23, X23, e23, W23, st23⟩ := stB XJ290 hx hZ eJ290 Ar23 (j := at_) hin23 (g := (mkF m 402 #[.val (.long q0), .second, .val (.long q2), .second, .val (.long q4), .second, .val (.int p6), .val (.int p7), .val (.int p8), .val (.int p9), .val (.int w10), .val (.int t11), .val (.int j12), .val (.int p9), .val (.int ws), .val (.int pr), .val (.int cl), .val (.int tr), .val (.int nn), .val (.ref b1), .val (.int r_6), .val (.int r_7), .val (.int r_12), .val (.int r_13), .val (.int pc24), .val (.int ps), .val (.int vb), .val (.int at_), .val (.int (1 : Int32)), .unset, .unset, .unset, .unset, .unset] [(.int vb), (.int at_), (.ref b1)])) rfl rfl (hb hby at_402)
                          refine Go.by (fun _ => st23 _) ?_
                          have O23 := OJ290.wr W23 g_b1
                          have Z23 : n0 ≤ h23.size := Nat.le_trans ZJ290 (Keep.of_wr W23).1
                          have F24 : Arv Z h23 b1 k1 .byte NB ((bs12.set (m_) vb).map Value.int) (.int (0 : Int32)) := own_arvB Ar23 qc23 Sz23 Ng23 Hs23 Gf23 W23 hvb (m_) hz23 (by rw [List.length_map]; exact hi23)
                          have N23 := Fr.snoc X23 NJ290 g_b1
                          show Go p e below P (T23.setTop (mkF m 403 #[.val (.long q0), .second, .val (.long q2), .second, .val (.long q4), .second, .val (.int p6), .val (.int p7), .val (.int p8), .val (.int p9), .val (.int w10), .val (.int t11), .val (.int j12), .val (.int p9), .val (.int ws), .val (.int pr), .val (.int cl), .val (.int tr), .val (.int nn), .val (.ref b1), .val (.int r_6), .val (.int r_7), .val (.int r_12), .val (.int r_13), .val (.int pc24), .val (.int ps), .val (.int vb), .val (.int at_), .val (.int (1 : Int32)), .unset, .unset, .unset, .unset, .unset] []))
                          exact J403 T23 _ h23 X23 e23 N23 (1 : Int32) ((bs12.set (m_) vb)) (m_) O23 Z23 F24 (by rw [List.length_set]; exact hl_bs12) (fun i hi => own_gd_ne (fun q => hi q.symm)) (Or.inl ⟨rfl, fun i => own_gd_same hc386⟩)
                        · refine Go.by (fun _ => XS.icmpYes XJ290.here hx rfl (pc0 := 386) (pc' := 393) rfl (hb hby at_386) rfl (feq hc386).2 (by decide) (by decide)) ?_
                          show Go p e below P (TJ290.setTop (mkF m 393 #[.val (.long q0), .second, .val (.long q2), .second, .val (.long q4), .second, .val (.int p6), .val (.int p7), .val (.int p8), .val (.int p9), .val (.int w10), .val (.int t11), .val (.int j12), .val (.int p9), .val (.int ws), .val (.int pr), .val (.int cl), .val (.int tr), .val (.int nn), .val (.ref b1), .val (.int r_6), .val (.int r_7), .val (.int r_12), .val (.int r_13), .val (.int pc24), .val (.int ps), .val (.int vb), .val (.int at_), .val (.int (1 : Int32)), .unset, .unset, .unset, .unset, .unset] []))
                          refine Go.by (fun _ => XS.iconst XJ290.here hx rfl (hb hby at_393)) ?_
                          show Go p e below P (TJ290.setTop (mkF m 394 #[.val (.long q0), .second, .val (.long q2), .second, .val (.long q4), .second, .val (.int p6), .val (.int p7), .val (.int p8), .val (.int p9), .val (.int w10), .val (.int t11), .val (.int j12), .val (.int p9), .val (.int ws), .val (.int pr), .val (.int cl), .val (.int tr), .val (.int nn), .val (.ref b1), .val (.int r_6), .val (.int r_7), .val (.int r_12), .val (.int r_13), .val (.int pc24), .val (.int ps), .val (.int vb), .val (.int at_), .val (.int (1 : Int32)), .unset, .unset, .unset, .unset, .unset] [(.int (0 : Int32))]))
                          refine Go.by (fun _ => XS.istore XJ290.here hx rfl (g := (mkF m 394 #[.val (.long q0), .second, .val (.long q2), .second, .val (.long q4), .second, .val (.int p6), .val (.int p7), .val (.int p8), .val (.int p9), .val (.int w10), .val (.int t11), .val (.int j12), .val (.int p9), .val (.int ws), .val (.int pr), .val (.int cl), .val (.int tr), .val (.int nn), .val (.ref b1), .val (.int r_6), .val (.int r_7), .val (.int r_12), .val (.int r_13), .val (.int pc24), .val (.int ps), .val (.int vb), .val (.int at_), .val (.int (1 : Int32)), .unset, .unset, .unset, .unset, .unset] [(.int (0 : Int32))])) (hb hby at_394) rfl (l' := #[.val (.long q0), .second, .val (.long q2), .second, .val (.long q4), .second, .val (.int p6), .val (.int p7), .val (.int p8), .val (.int p9), .val (.int w10), .val (.int t11), .val (.int j12), .val (.int p9), .val (.int ws), .val (.int pr), .val (.int cl), .val (.int tr), .val (.int nn), .val (.ref b1), .val (.int r_6), .val (.int r_7), .val (.int r_12), .val (.int r_13), .val (.int pc24), .val (.int ps), .val (.int vb), .val (.int at_), .val (.int (0 : Int32)), .unset, .unset, .unset, .unset, .unset]) rfl) ?_
                          show Go p e below P (TJ290.setTop (mkF m 396 #[.val (.long q0), .second, .val (.long q2), .second, .val (.long q4), .second, .val (.int p6), .val (.int p7), .val (.int p8), .val (.int p9), .val (.int w10), .val (.int t11), .val (.int j12), .val (.int p9), .val (.int ws), .val (.int pr), .val (.int cl), .val (.int tr), .val (.int nn), .val (.ref b1), .val (.int r_6), .val (.int r_7), .val (.int r_12), .val (.int r_13), .val (.int pc24), .val (.int ps), .val (.int vb), .val (.int at_), .val (.int (0 : Int32)), .unset, .unset, .unset, .unset, .unset] []))
                          refine Go.by (fun _ => XS.aload XJ290.here hx rfl (hb hby at_396) rfl rfl) ?_
                          show Go p e below P (TJ290.setTop (mkF m 398 #[.val (.long q0), .second, .val (.long q2), .second, .val (.long q4), .second, .val (.int p6), .val (.int p7), .val (.int p8), .val (.int p9), .val (.int w10), .val (.int t11), .val (.int j12), .val (.int p9), .val (.int ws), .val (.int pr), .val (.int cl), .val (.int tr), .val (.int nn), .val (.ref b1), .val (.int r_6), .val (.int r_7), .val (.int r_12), .val (.int r_13), .val (.int pc24), .val (.int ps), .val (.int vb), .val (.int at_), .val (.int (0 : Int32)), .unset, .unset, .unset, .unset, .unset] [(.ref b1)]))
                          refine Go.by (fun _ => XS.iload XJ290.here hx rfl (hb hby at_398) rfl) ?_
                          show Go p e below P (TJ290.setTop (mkF m 400 #[.val (.long q0), .second, .val (.long q2), .second, .val (.long q4), .second, .val (.int p6), .val (.int p7), .val (.int p8), .val (.int p9), .val (.int w10), .val (.int t11), .val (.int j12), .val (.int p9), .val (.int ws), .val (.int pr), .val (.int cl), .val (.int tr), .val (.int nn), .val (.ref b1), .val (.int r_6), .val (.int r_7), .val (.int r_12), .val (.int r_13), .val (.int pc24), .val (.int ps), .val (.int vb), .val (.int at_), .val (.int (0 : Int32)), .unset, .unset, .unset, .unset, .unset] [(.int at_), (.ref b1)]))
                          refine Go.by (fun _ => XS.iload XJ290.here hx rfl (hb hby at_400) rfl) ?_
                          show Go p e below P (TJ290.setTop (mkF m 402 #[.val (.long q0), .second, .val (.long q2), .second, .val (.long q4), .second, .val (.int p6), .val (.int p7), .val (.int p8), .val (.int p9), .val (.int w10), .val (.int t11), .val (.int j12), .val (.int p9), .val (.int ws), .val (.int pr), .val (.int cl), .val (.int tr), .val (.int nn), .val (.ref b1), .val (.int r_6), .val (.int r_7), .val (.int r_12), .val (.int r_13), .val (.int pc24), .val (.int ps), .val (.int vb), .val (.int at_), .val (.int (0 : Int32)), .unset, .unset, .unset, .unset, .unset] [(.int vb), (.int at_), (.ref b1)]))
                          have hj25 : (at_).toInt = ((m_ : Nat) : Int) := hat
                          have hi25 : m_ < (bs12).length := (by rw [hl_bs12]; exact own_reg hmR)
                          obtain ⟨hx25, hy25, hz25⟩ := own_ix hj25 (by rw [hl_bs12]; exact hNB) hi25
                          obtain ⟨cl25, Ar25, qc25, Sz25, Ng25, Hs25, Gf25⟩ := id (FJ290_0)
                          have hin25 : ¬ (at_ < 0 ∨ cl25.slots.size ≤ (at_).toNatClampNeg) := inb_of Sz25 ⟨hx25, hy25⟩
                          obtain ⟨T25, h25, X25, e25, W25, st25⟩ := stB XJ290 hx hZ eJ290 Ar25 (j := at_) hin25 (g := (mkF m 402 #[.val (.long q0), .second, .val (.long q2), .second, .val (.long q4), .second, .val (.int p6), .val (.int p7), .val (.int p8), .val (.int p9), .val (.int w10), .val (.int t11), .val (.int j12), .val (.int p9), .val (.int ws), .val (.int pr), .val (.int cl), .val (.int tr), .val (.int nn), .val (.ref b1), .val (.int r_6), .val (.int r_7), .val (.int r_12), .val (.int r_13), .val (.int pc24), .val (.int ps), .val (.int vb), .val (.int at_), .val (.int (0 : Int32)), .unset, .unset, .unset, .unset, .unset] [(.int vb), (.int at_), (.ref b1)])) rfl rfl (hb hby at_402)
                          refine Go.by (fun _ => st25 _) ?_
                          have O25 := OJ290.wr W25 g_b1
                          have Z25 : n0 ≤ h25.size := Nat.le_trans ZJ290 (Keep.of_wr W25).1
                          have F26 : Arv Z h25 b1 k1 .byte NB ((bs12.set (m_) vb).map Value.int) (.int (0 : Int32)) := own_arvB Ar25 qc25 Sz25 Ng25 Hs25 Gf25 W25 hvb (m_) hz25 (by rw [List.length_map]; exact hi25)
                          have N25 := Fr.snoc X25 NJ290 g_b1
                          show Go p e below P (T25.setTop (mkF m 403 #[.val (.long q0), .second, .val (.long q2), .second, .val (.long q4), .second, .val (.int p6), .val (.int p7), .val (.int p8), .val (.int p9), .val (.int w10), .val (.int t11), .val (.int j12), .val (.int p9), .val (.int ws), .val (.int pr), .val (.int cl), .val (.int tr), .val (.int nn), .val (.ref b1), .val (.int r_6), .val (.int r_7), .val (.int r_12), .val (.int r_13), .val (.int pc24), .val (.int ps), .val (.int vb), .val (.int at_), .val (.int (0 : Int32)), .unset, .unset, .unset, .unset, .unset] []))
                          exact J403 T25 _ h25 X25 e25 N25 (0 : Int32) ((bs12.set (m_) vb)) (m_) O25 Z25 F26 (by rw [List.length_set]; exact hl_bs12) (fun i hi => own_gd_ne (fun q => hi q.symm)) (Or.inr ⟨rfl, hmR, fun q => hc386 ((own_gd_eq (by rw [hl_bs12]; exact own_reg hmR)).symm.trans q).symm⟩)
                    refine Go.by (fun _ => XS.iload XJ290.here hx rfl (hb hby at_317) rfl) ?_
                    show Go p e below P (TJ290.setTop (mkF m 319 #[.val (.long q0), .second, .val (.long q2), .second, .val (.long q4), .second, .val (.int p6), .val (.int p7), .val (.int p8), .val (.int p9), .val (.int w10), .val (.int t11), .val (.int j12), .val (.int p9), .val (.int ws), .val (.int pr), .val (.int cl), .val (.int tr), .val (.int nn), .val (.ref b1), .val (.int r_6), .val (.int r_7), .val (.int r_12), .val (.int r_13), .val (.int pc24), .val (.int ps), .val (.int vb), .val (.int (-1 : Int32)), .unset, .unset, .unset, .unset, .unset, .unset] [(.int pc24)]))
                    refine Go.by (fun _ => XS.iconst XJ290.here hx rfl (hb hby at_319)) ?_
                    show Go p e below P (TJ290.setTop (mkF m 320 #[.val (.long q0), .second, .val (.long q2), .second, .val (.long q4), .second, .val (.int p6), .val (.int p7), .val (.int p8), .val (.int p9), .val (.int w10), .val (.int t11), .val (.int j12), .val (.int p9), .val (.int ws), .val (.int pr), .val (.int cl), .val (.int tr), .val (.int nn), .val (.ref b1), .val (.int r_6), .val (.int r_7), .val (.int r_12), .val (.int r_13), .val (.int pc24), .val (.int ps), .val (.int vb), .val (.int (-1 : Int32)), .unset, .unset, .unset, .unset, .unset, .unset] [(.int (1 : Int32)), (.int pc24)]))
                    by_cases hc320 : pc24 = (1 : Int32)
                    · refine Go.by (fun _ => XS.icmpNo XJ290.here hx rfl (hb hby at_320) rfl (teq hc320).2) ?_
                      show Go p e below P (TJ290.setTop (mkF m 323 #[.val (.long q0), .second, .val (.long q2), .second, .val (.long q4), .second, .val (.int p6), .val (.int p7), .val (.int p8), .val (.int p9), .val (.int w10), .val (.int t11), .val (.int j12), .val (.int p9), .val (.int ws), .val (.int pr), .val (.int cl), .val (.int tr), .val (.int nn), .val (.ref b1), .val (.int r_6), .val (.int r_7), .val (.int r_12), .val (.int r_13), .val (.int pc24), .val (.int ps), .val (.int vb), .val (.int (-1 : Int32)), .unset, .unset, .unset, .unset, .unset, .unset] []))
                      refine Go.by (fun _ => XS.iload XJ290.here hx rfl (hb hby at_323) rfl) ?_
                      show Go p e below P (TJ290.setTop (mkF m 325 #[.val (.long q0), .second, .val (.long q2), .second, .val (.long q4), .second, .val (.int p6), .val (.int p7), .val (.int p8), .val (.int p9), .val (.int w10), .val (.int t11), .val (.int j12), .val (.int p9), .val (.int ws), .val (.int pr), .val (.int cl), .val (.int tr), .val (.int nn), .val (.ref b1), .val (.int r_6), .val (.int r_7), .val (.int r_12), .val (.int r_13), .val (.int pc24), .val (.int ps), .val (.int vb), .val (.int (-1 : Int32)), .unset, .unset, .unset, .unset, .unset, .unset] [(.int p9)]))
                      refine Go.by (fun _ => XS.iload XJ290.here hx rfl (hb hby at_325) rfl) ?_
                      show Go p e below P (TJ290.setTop (mkF m 327 #[.val (.long q0), .second, .val (.long q2), .second, .val (.long q4), .second, .val (.int p6), .val (.int p7), .val (.int p8), .val (.int p9), .val (.int w10), .val (.int t11), .val (.int j12), .val (.int p9), .val (.int ws), .val (.int pr), .val (.int cl), .val (.int tr), .val (.int nn), .val (.ref b1), .val (.int r_6), .val (.int r_7), .val (.int r_12), .val (.int r_13), .val (.int pc24), .val (.int ps), .val (.int vb), .val (.int (-1 : Int32)), .unset, .unset, .unset, .unset, .unset, .unset] [(.int ps), (.int p9)]))
                      refine Go.by (fun _ => XS.bipush XJ290.here hx rfl (hb hby at_327)) ?_
                      show Go p e below P (TJ290.setTop (mkF m 329 #[.val (.long q0), .second, .val (.long q2), .second, .val (.long q4), .second, .val (.int p6), .val (.int p7), .val (.int p8), .val (.int p9), .val (.int w10), .val (.int t11), .val (.int j12), .val (.int p9), .val (.int ws), .val (.int pr), .val (.int cl), .val (.int tr), .val (.int nn), .val (.ref b1), .val (.int r_6), .val (.int r_7), .val (.int r_12), .val (.int r_13), .val (.int pc24), .val (.int ps), .val (.int vb), .val (.int (-1 : Int32)), .unset, .unset, .unset, .unset, .unset, .unset] [(.int (16 : Int32)), (.int ps), (.int p9)]))
                      refine Go.by (fun _ => iremM XJ290 hx rfl (hb hby at_329) rfl (by decide)) ?_
                      show Go p e below P (TJ290.setTop (mkF m 330 #[.val (.long q0), .second, .val (.long q2), .second, .val (.long q4), .second, .val (.int p6), .val (.int p7), .val (.int p8), .val (.int p9), .val (.int w10), .val (.int t11), .val (.int j12), .val (.int p9), .val (.int ws), .val (.int pr), .val (.int cl), .val (.int tr), .val (.int nn), .val (.ref b1), .val (.int r_6), .val (.int r_7), .val (.int r_12), .val (.int r_13), .val (.int pc24), .val (.int ps), .val (.int vb), .val (.int (-1 : Int32)), .unset, .unset, .unset, .unset, .unset, .unset] [(.int (ps % (16 : Int32))), (.int p9)]))
                      refine Go.by (fun _ => XS.iadd XJ290.here hx rfl (hb hby at_330) rfl) ?_
                      show Go p e below P (TJ290.setTop (mkF m 331 #[.val (.long q0), .second, .val (.long q2), .second, .val (.long q4), .second, .val (.int p6), .val (.int p7), .val (.int p8), .val (.int p9), .val (.int w10), .val (.int t11), .val (.int j12), .val (.int p9), .val (.int ws), .val (.int pr), .val (.int cl), .val (.int tr), .val (.int nn), .val (.ref b1), .val (.int r_6), .val (.int r_7), .val (.int r_12), .val (.int r_13), .val (.int pc24), .val (.int ps), .val (.int vb), .val (.int (-1 : Int32)), .unset, .unset, .unset, .unset, .unset, .unset] [(.int (p9 + (ps % (16 : Int32))))]))
                      refine Go.by (fun _ => XS.istore XJ290.here hx rfl (g := (mkF m 331 #[.val (.long q0), .second, .val (.long q2), .second, .val (.long q4), .second, .val (.int p6), .val (.int p7), .val (.int p8), .val (.int p9), .val (.int w10), .val (.int t11), .val (.int j12), .val (.int p9), .val (.int ws), .val (.int pr), .val (.int cl), .val (.int tr), .val (.int nn), .val (.ref b1), .val (.int r_6), .val (.int r_7), .val (.int r_12), .val (.int r_13), .val (.int pc24), .val (.int ps), .val (.int vb), .val (.int (-1 : Int32)), .unset, .unset, .unset, .unset, .unset, .unset] [(.int (p9 + (ps % (16 : Int32))))])) (hb hby at_331) rfl (l' := #[.val (.long q0), .second, .val (.long q2), .second, .val (.long q4), .second, .val (.int p6), .val (.int p7), .val (.int p8), .val (.int p9), .val (.int w10), .val (.int t11), .val (.int j12), .val (.int p9), .val (.int ws), .val (.int pr), .val (.int cl), .val (.int tr), .val (.int nn), .val (.ref b1), .val (.int r_6), .val (.int r_7), .val (.int r_12), .val (.int r_13), .val (.int pc24), .val (.int ps), .val (.int vb), .val (.int (p9 + (ps % (16 : Int32)))), .unset, .unset, .unset, .unset, .unset, .unset]) rfl) ?_
                      show Go p e below P (TJ290.setTop (mkF m 333 #[.val (.long q0), .second, .val (.long q2), .second, .val (.long q4), .second, .val (.int p6), .val (.int p7), .val (.int p8), .val (.int p9), .val (.int w10), .val (.int t11), .val (.int j12), .val (.int p9), .val (.int ws), .val (.int pr), .val (.int cl), .val (.int tr), .val (.int nn), .val (.ref b1), .val (.int r_6), .val (.int r_7), .val (.int r_12), .val (.int r_13), .val (.int pc24), .val (.int ps), .val (.int vb), .val (.int (p9 + (ps % (16 : Int32)))), .unset, .unset, .unset, .unset, .unset, .unset] []))
                      refine Go.by (fun _ => XS.goto XJ290.here hx rfl (pc0 := 333) (pc' := 371) rfl (hb hby at_333) (by decide) (by decide)) ?_
                      show Go p e below P (TJ290.setTop (mkF m 371 #[.val (.long q0), .second, .val (.long q2), .second, .val (.long q4), .second, .val (.int p6), .val (.int p7), .val (.int p8), .val (.int p9), .val (.int w10), .val (.int t11), .val (.int j12), .val (.int p9), .val (.int ws), .val (.int pr), .val (.int cl), .val (.int tr), .val (.int nn), .val (.ref b1), .val (.int r_6), .val (.int r_7), .val (.int r_12), .val (.int r_13), .val (.int pc24), .val (.int ps), .val (.int vb), .val (.int (p9 + (ps % (16 : Int32)))), .unset, .unset, .unset, .unset, .unset, .unset] []))
                      exact J371 (p9 + (ps % (16 : Int32))) (by obtain ⟨q, q1, q2, q3⟩ := own_at hoN (by omega) ps hps 16 16 rfl (by decide); exact Or.inr ⟨q, q1, Or.inl ⟨q2, q3⟩⟩)
                    · refine Go.by (fun _ => XS.icmpYes XJ290.here hx rfl (pc0 := 320) (pc' := 336) rfl (hb hby at_320) rfl (feq hc320).2 (by decide) (by decide)) ?_
                      show Go p e below P (TJ290.setTop (mkF m 336 #[.val (.long q0), .second, .val (.long q2), .second, .val (.long q4), .second, .val (.int p6), .val (.int p7), .val (.int p8), .val (.int p9), .val (.int w10), .val (.int t11), .val (.int j12), .val (.int p9), .val (.int ws), .val (.int pr), .val (.int cl), .val (.int tr), .val (.int nn), .val (.ref b1), .val (.int r_6), .val (.int r_7), .val (.int r_12), .val (.int r_13), .val (.int pc24), .val (.int ps), .val (.int vb), .val (.int (-1 : Int32)), .unset, .unset, .unset, .unset, .unset, .unset] []))
                      refine Go.by (fun _ => XS.iload XJ290.here hx rfl (hb hby at_336) rfl) ?_
                      show Go p e below P (TJ290.setTop (mkF m 338 #[.val (.long q0), .second, .val (.long q2), .second, .val (.long q4), .second, .val (.int p6), .val (.int p7), .val (.int p8), .val (.int p9), .val (.int w10), .val (.int t11), .val (.int j12), .val (.int p9), .val (.int ws), .val (.int pr), .val (.int cl), .val (.int tr), .val (.int nn), .val (.ref b1), .val (.int r_6), .val (.int r_7), .val (.int r_12), .val (.int r_13), .val (.int pc24), .val (.int ps), .val (.int vb), .val (.int (-1 : Int32)), .unset, .unset, .unset, .unset, .unset, .unset] [(.int pc24)]))
                      refine Go.by (fun _ => XS.iconst XJ290.here hx rfl (hb hby at_338)) ?_
                      show Go p e below P (TJ290.setTop (mkF m 339 #[.val (.long q0), .second, .val (.long q2), .second, .val (.long q4), .second, .val (.int p6), .val (.int p7), .val (.int p8), .val (.int p9), .val (.int w10), .val (.int t11), .val (.int j12), .val (.int p9), .val (.int ws), .val (.int pr), .val (.int cl), .val (.int tr), .val (.int nn), .val (.ref b1), .val (.int r_6), .val (.int r_7), .val (.int r_12), .val (.int r_13), .val (.int pc24), .val (.int ps), .val (.int vb), .val (.int (-1 : Int32)), .unset, .unset, .unset, .unset, .unset, .unset] [(.int (2 : Int32)), (.int pc24)]))
                      by_cases hc339 : pc24 = (2 : Int32)
                      · refine Go.by (fun _ => XS.icmpNo XJ290.here hx rfl (hb hby at_339) rfl (teq hc339).2) ?_
                        show Go p e below P (TJ290.setTop (mkF m 342 #[.val (.long q0), .second, .val (.long q2), .second, .val (.long q4), .second, .val (.int p6), .val (.int p7), .val (.int p8), .val (.int p9), .val (.int w10), .val (.int t11), .val (.int j12), .val (.int p9), .val (.int ws), .val (.int pr), .val (.int cl), .val (.int tr), .val (.int nn), .val (.ref b1), .val (.int r_6), .val (.int r_7), .val (.int r_12), .val (.int r_13), .val (.int pc24), .val (.int ps), .val (.int vb), .val (.int (-1 : Int32)), .unset, .unset, .unset, .unset, .unset, .unset] []))
                        refine Go.by (fun _ => XS.iload XJ290.here hx rfl (hb hby at_342) rfl) ?_
                        show Go p e below P (TJ290.setTop (mkF m 344 #[.val (.long q0), .second, .val (.long q2), .second, .val (.long q4), .second, .val (.int p6), .val (.int p7), .val (.int p8), .val (.int p9), .val (.int w10), .val (.int t11), .val (.int j12), .val (.int p9), .val (.int ws), .val (.int pr), .val (.int cl), .val (.int tr), .val (.int nn), .val (.ref b1), .val (.int r_6), .val (.int r_7), .val (.int r_12), .val (.int r_13), .val (.int pc24), .val (.int ps), .val (.int vb), .val (.int (-1 : Int32)), .unset, .unset, .unset, .unset, .unset, .unset] [(.int pr)]))
                        refine Go.by (fun _ => XS.iload XJ290.here hx rfl (hb hby at_344) rfl) ?_
                        show Go p e below P (TJ290.setTop (mkF m 346 #[.val (.long q0), .second, .val (.long q2), .second, .val (.long q4), .second, .val (.int p6), .val (.int p7), .val (.int p8), .val (.int p9), .val (.int w10), .val (.int t11), .val (.int j12), .val (.int p9), .val (.int ws), .val (.int pr), .val (.int cl), .val (.int tr), .val (.int nn), .val (.ref b1), .val (.int r_6), .val (.int r_7), .val (.int r_12), .val (.int r_13), .val (.int pc24), .val (.int ps), .val (.int vb), .val (.int (-1 : Int32)), .unset, .unset, .unset, .unset, .unset, .unset] [(.int ps), (.int pr)]))
                        refine Go.by (fun _ => XS.bipush XJ290.here hx rfl (hb hby at_346)) ?_
                        show Go p e below P (TJ290.setTop (mkF m 348 #[.val (.long q0), .second, .val (.long q2), .second, .val (.long q4), .second, .val (.int p6), .val (.int p7), .val (.int p8), .val (.int p9), .val (.int w10), .val (.int t11), .val (.int j12), .val (.int p9), .val (.int ws), .val (.int pr), .val (.int cl), .val (.int tr), .val (.int nn), .val (.ref b1), .val (.int r_6), .val (.int r_7), .val (.int r_12), .val (.int r_13), .val (.int pc24), .val (.int ps), .val (.int vb), .val (.int (-1 : Int32)), .unset, .unset, .unset, .unset, .unset, .unset] [(.int (8 : Int32)), (.int ps), (.int pr)]))
                        refine Go.by (fun _ => iremM XJ290 hx rfl (hb hby at_348) rfl (by decide)) ?_
                        show Go p e below P (TJ290.setTop (mkF m 349 #[.val (.long q0), .second, .val (.long q2), .second, .val (.long q4), .second, .val (.int p6), .val (.int p7), .val (.int p8), .val (.int p9), .val (.int w10), .val (.int t11), .val (.int j12), .val (.int p9), .val (.int ws), .val (.int pr), .val (.int cl), .val (.int tr), .val (.int nn), .val (.ref b1), .val (.int r_6), .val (.int r_7), .val (.int r_12), .val (.int r_13), .val (.int pc24), .val (.int ps), .val (.int vb), .val (.int (-1 : Int32)), .unset, .unset, .unset, .unset, .unset, .unset] [(.int (ps % (8 : Int32))), (.int pr)]))
                        refine Go.by (fun _ => XS.iadd XJ290.here hx rfl (hb hby at_349) rfl) ?_
                        show Go p e below P (TJ290.setTop (mkF m 350 #[.val (.long q0), .second, .val (.long q2), .second, .val (.long q4), .second, .val (.int p6), .val (.int p7), .val (.int p8), .val (.int p9), .val (.int w10), .val (.int t11), .val (.int j12), .val (.int p9), .val (.int ws), .val (.int pr), .val (.int cl), .val (.int tr), .val (.int nn), .val (.ref b1), .val (.int r_6), .val (.int r_7), .val (.int r_12), .val (.int r_13), .val (.int pc24), .val (.int ps), .val (.int vb), .val (.int (-1 : Int32)), .unset, .unset, .unset, .unset, .unset, .unset] [(.int (pr + (ps % (8 : Int32))))]))
                        refine Go.by (fun _ => XS.istore XJ290.here hx rfl (g := (mkF m 350 #[.val (.long q0), .second, .val (.long q2), .second, .val (.long q4), .second, .val (.int p6), .val (.int p7), .val (.int p8), .val (.int p9), .val (.int w10), .val (.int t11), .val (.int j12), .val (.int p9), .val (.int ws), .val (.int pr), .val (.int cl), .val (.int tr), .val (.int nn), .val (.ref b1), .val (.int r_6), .val (.int r_7), .val (.int r_12), .val (.int r_13), .val (.int pc24), .val (.int ps), .val (.int vb), .val (.int (-1 : Int32)), .unset, .unset, .unset, .unset, .unset, .unset] [(.int (pr + (ps % (8 : Int32))))])) (hb hby at_350) rfl (l' := #[.val (.long q0), .second, .val (.long q2), .second, .val (.long q4), .second, .val (.int p6), .val (.int p7), .val (.int p8), .val (.int p9), .val (.int w10), .val (.int t11), .val (.int j12), .val (.int p9), .val (.int ws), .val (.int pr), .val (.int cl), .val (.int tr), .val (.int nn), .val (.ref b1), .val (.int r_6), .val (.int r_7), .val (.int r_12), .val (.int r_13), .val (.int pc24), .val (.int ps), .val (.int vb), .val (.int (pr + (ps % (8 : Int32)))), .unset, .unset, .unset, .unset, .unset, .unset]) rfl) ?_
                        show Go p e below P (TJ290.setTop (mkF m 352 #[.val (.long q0), .second, .val (.long q2), .second, .val (.long q4), .second, .val (.int p6), .val (.int p7), .val (.int p8), .val (.int p9), .val (.int w10), .val (.int t11), .val (.int j12), .val (.int p9), .val (.int ws), .val (.int pr), .val (.int cl), .val (.int tr), .val (.int nn), .val (.ref b1), .val (.int r_6), .val (.int r_7), .val (.int r_12), .val (.int r_13), .val (.int pc24), .val (.int ps), .val (.int vb), .val (.int (pr + (ps % (8 : Int32)))), .unset, .unset, .unset, .unset, .unset, .unset] []))
                        refine Go.by (fun _ => XS.goto XJ290.here hx rfl (pc0 := 352) (pc' := 371) rfl (hb hby at_352) (by decide) (by decide)) ?_
                        show Go p e below P (TJ290.setTop (mkF m 371 #[.val (.long q0), .second, .val (.long q2), .second, .val (.long q4), .second, .val (.int p6), .val (.int p7), .val (.int p8), .val (.int p9), .val (.int w10), .val (.int t11), .val (.int j12), .val (.int p9), .val (.int ws), .val (.int pr), .val (.int cl), .val (.int tr), .val (.int nn), .val (.ref b1), .val (.int r_6), .val (.int r_7), .val (.int r_12), .val (.int r_13), .val (.int pc24), .val (.int ps), .val (.int vb), .val (.int (pr + (ps % (8 : Int32)))), .unset, .unset, .unset, .unset, .unset, .unset] []))
                        exact J371 (pr + (ps % (8 : Int32))) (by obtain ⟨q, q1, q2, q3⟩ := own_at hpr (by omega) ps hps 8 8 rfl (by decide); exact Or.inr ⟨q, q1, Or.inr (Or.inl ⟨q2, q3⟩)⟩)
                      · refine Go.by (fun _ => XS.icmpYes XJ290.here hx rfl (pc0 := 339) (pc' := 355) rfl (hb hby at_339) rfl (feq hc339).2 (by decide) (by decide)) ?_
                        show Go p e below P (TJ290.setTop (mkF m 355 #[.val (.long q0), .second, .val (.long q2), .second, .val (.long q4), .second, .val (.int p6), .val (.int p7), .val (.int p8), .val (.int p9), .val (.int w10), .val (.int t11), .val (.int j12), .val (.int p9), .val (.int ws), .val (.int pr), .val (.int cl), .val (.int tr), .val (.int nn), .val (.ref b1), .val (.int r_6), .val (.int r_7), .val (.int r_12), .val (.int r_13), .val (.int pc24), .val (.int ps), .val (.int vb), .val (.int (-1 : Int32)), .unset, .unset, .unset, .unset, .unset, .unset] []))
                        refine Go.by (fun _ => XS.iload XJ290.here hx rfl (hb hby at_355) rfl) ?_
                        show Go p e below P (TJ290.setTop (mkF m 357 #[.val (.long q0), .second, .val (.long q2), .second, .val (.long q4), .second, .val (.int p6), .val (.int p7), .val (.int p8), .val (.int p9), .val (.int w10), .val (.int t11), .val (.int j12), .val (.int p9), .val (.int ws), .val (.int pr), .val (.int cl), .val (.int tr), .val (.int nn), .val (.ref b1), .val (.int r_6), .val (.int r_7), .val (.int r_12), .val (.int r_13), .val (.int pc24), .val (.int ps), .val (.int vb), .val (.int (-1 : Int32)), .unset, .unset, .unset, .unset, .unset, .unset] [(.int pc24)]))
                        refine Go.by (fun _ => XS.iconst XJ290.here hx rfl (hb hby at_357)) ?_
                        show Go p e below P (TJ290.setTop (mkF m 358 #[.val (.long q0), .second, .val (.long q2), .second, .val (.long q4), .second, .val (.int p6), .val (.int p7), .val (.int p8), .val (.int p9), .val (.int w10), .val (.int t11), .val (.int j12), .val (.int p9), .val (.int ws), .val (.int pr), .val (.int cl), .val (.int tr), .val (.int nn), .val (.ref b1), .val (.int r_6), .val (.int r_7), .val (.int r_12), .val (.int r_13), .val (.int pc24), .val (.int ps), .val (.int vb), .val (.int (-1 : Int32)), .unset, .unset, .unset, .unset, .unset, .unset] [(.int (3 : Int32)), (.int pc24)]))
                        by_cases hc358 : pc24 = (3 : Int32)
                        · refine Go.by (fun _ => XS.icmpNo XJ290.here hx rfl (hb hby at_358) rfl (teq hc358).2) ?_
                          show Go p e below P (TJ290.setTop (mkF m 361 #[.val (.long q0), .second, .val (.long q2), .second, .val (.long q4), .second, .val (.int p6), .val (.int p7), .val (.int p8), .val (.int p9), .val (.int w10), .val (.int t11), .val (.int j12), .val (.int p9), .val (.int ws), .val (.int pr), .val (.int cl), .val (.int tr), .val (.int nn), .val (.ref b1), .val (.int r_6), .val (.int r_7), .val (.int r_12), .val (.int r_13), .val (.int pc24), .val (.int ps), .val (.int vb), .val (.int (-1 : Int32)), .unset, .unset, .unset, .unset, .unset, .unset] []))
                          refine Go.by (fun _ => XS.iload XJ290.here hx rfl (hb hby at_361) rfl) ?_
                          show Go p e below P (TJ290.setTop (mkF m 363 #[.val (.long q0), .second, .val (.long q2), .second, .val (.long q4), .second, .val (.int p6), .val (.int p7), .val (.int p8), .val (.int p9), .val (.int w10), .val (.int t11), .val (.int j12), .val (.int p9), .val (.int ws), .val (.int pr), .val (.int cl), .val (.int tr), .val (.int nn), .val (.ref b1), .val (.int r_6), .val (.int r_7), .val (.int r_12), .val (.int r_13), .val (.int pc24), .val (.int ps), .val (.int vb), .val (.int (-1 : Int32)), .unset, .unset, .unset, .unset, .unset, .unset] [(.int cl)]))
                          refine Go.by (fun _ => XS.iload XJ290.here hx rfl (hb hby at_363) rfl) ?_
                          show Go p e below P (TJ290.setTop (mkF m 365 #[.val (.long q0), .second, .val (.long q2), .second, .val (.long q4), .second, .val (.int p6), .val (.int p7), .val (.int p8), .val (.int p9), .val (.int w10), .val (.int t11), .val (.int j12), .val (.int p9), .val (.int ws), .val (.int pr), .val (.int cl), .val (.int tr), .val (.int nn), .val (.ref b1), .val (.int r_6), .val (.int r_7), .val (.int r_12), .val (.int r_13), .val (.int pc24), .val (.int ps), .val (.int vb), .val (.int (-1 : Int32)), .unset, .unset, .unset, .unset, .unset, .unset] [(.int ps), (.int cl)]))
                          refine Go.by (fun _ => XS.bipush XJ290.here hx rfl (hb hby at_365)) ?_
                          show Go p e below P (TJ290.setTop (mkF m 367 #[.val (.long q0), .second, .val (.long q2), .second, .val (.long q4), .second, .val (.int p6), .val (.int p7), .val (.int p8), .val (.int p9), .val (.int w10), .val (.int t11), .val (.int j12), .val (.int p9), .val (.int ws), .val (.int pr), .val (.int cl), .val (.int tr), .val (.int nn), .val (.ref b1), .val (.int r_6), .val (.int r_7), .val (.int r_12), .val (.int r_13), .val (.int pc24), .val (.int ps), .val (.int vb), .val (.int (-1 : Int32)), .unset, .unset, .unset, .unset, .unset, .unset] [(.int (17 : Int32)), (.int ps), (.int cl)]))
                          refine Go.by (fun _ => iremM XJ290 hx rfl (hb hby at_367) rfl (by decide)) ?_
                          show Go p e below P (TJ290.setTop (mkF m 368 #[.val (.long q0), .second, .val (.long q2), .second, .val (.long q4), .second, .val (.int p6), .val (.int p7), .val (.int p8), .val (.int p9), .val (.int w10), .val (.int t11), .val (.int j12), .val (.int p9), .val (.int ws), .val (.int pr), .val (.int cl), .val (.int tr), .val (.int nn), .val (.ref b1), .val (.int r_6), .val (.int r_7), .val (.int r_12), .val (.int r_13), .val (.int pc24), .val (.int ps), .val (.int vb), .val (.int (-1 : Int32)), .unset, .unset, .unset, .unset, .unset, .unset] [(.int (ps % (17 : Int32))), (.int cl)]))
                          refine Go.by (fun _ => XS.iadd XJ290.here hx rfl (hb hby at_368) rfl) ?_
                          show Go p e below P (TJ290.setTop (mkF m 369 #[.val (.long q0), .second, .val (.long q2), .second, .val (.long q4), .second, .val (.int p6), .val (.int p7), .val (.int p8), .val (.int p9), .val (.int w10), .val (.int t11), .val (.int j12), .val (.int p9), .val (.int ws), .val (.int pr), .val (.int cl), .val (.int tr), .val (.int nn), .val (.ref b1), .val (.int r_6), .val (.int r_7), .val (.int r_12), .val (.int r_13), .val (.int pc24), .val (.int ps), .val (.int vb), .val (.int (-1 : Int32)), .unset, .unset, .unset, .unset, .unset, .unset] [(.int (cl + (ps % (17 : Int32))))]))
                          refine Go.by (fun _ => XS.istore XJ290.here hx rfl (g := (mkF m 369 #[.val (.long q0), .second, .val (.long q2), .second, .val (.long q4), .second, .val (.int p6), .val (.int p7), .val (.int p8), .val (.int p9), .val (.int w10), .val (.int t11), .val (.int j12), .val (.int p9), .val (.int ws), .val (.int pr), .val (.int cl), .val (.int tr), .val (.int nn), .val (.ref b1), .val (.int r_6), .val (.int r_7), .val (.int r_12), .val (.int r_13), .val (.int pc24), .val (.int ps), .val (.int vb), .val (.int (-1 : Int32)), .unset, .unset, .unset, .unset, .unset, .unset] [(.int (cl + (ps % (17 : Int32))))])) (hb hby at_369) rfl (l' := #[.val (.long q0), .second, .val (.long q2), .second, .val (.long q4), .second, .val (.int p6), .val (.int p7), .val (.int p8), .val (.int p9), .val (.int w10), .val (.int t11), .val (.int j12), .val (.int p9), .val (.int ws), .val (.int pr), .val (.int cl), .val (.int tr), .val (.int nn), .val (.ref b1), .val (.int r_6), .val (.int r_7), .val (.int r_12), .val (.int r_13), .val (.int pc24), .val (.int ps), .val (.int vb), .val (.int (cl + (ps % (17 : Int32)))), .unset, .unset, .unset, .unset, .unset, .unset]) rfl) ?_
                          show Go p e below P (TJ290.setTop (mkF m 371 #[.val (.long q0), .second, .val (.long q2), .second, .val (.long q4), .second, .val (.int p6), .val (.int p7), .val (.int p8), .val (.int p9), .val (.int w10), .val (.int t11), .val (.int j12), .val (.int p9), .val (.int ws), .val (.int pr), .val (.int cl), .val (.int tr), .val (.int nn), .val (.ref b1), .val (.int r_6), .val (.int r_7), .val (.int r_12), .val (.int r_13), .val (.int pc24), .val (.int ps), .val (.int vb), .val (.int (cl + (ps % (17 : Int32)))), .unset, .unset, .unset, .unset, .unset, .unset] []))
                          exact J371 (cl + (ps % (17 : Int32))) (by obtain ⟨q, q1, q2, q3⟩ := own_at hcl (by omega) ps hps 17 17 rfl (by decide); exact Or.inr ⟨q, q1, Or.inr (Or.inr ⟨q2, q3⟩)⟩)
                        · refine Go.by (fun _ => XS.icmpYes XJ290.here hx rfl (pc0 := 358) (pc' := 371) rfl (hb hby at_358) rfl (feq hc358).2 (by decide) (by decide)) ?_
                          show Go p e below P (TJ290.setTop (mkF m 371 #[.val (.long q0), .second, .val (.long q2), .second, .val (.long q4), .second, .val (.int p6), .val (.int p7), .val (.int p8), .val (.int p9), .val (.int w10), .val (.int t11), .val (.int j12), .val (.int p9), .val (.int ws), .val (.int pr), .val (.int cl), .val (.int tr), .val (.int nn), .val (.ref b1), .val (.int r_6), .val (.int r_7), .val (.int r_12), .val (.int r_13), .val (.int pc24), .val (.int ps), .val (.int vb), .val (.int (-1 : Int32)), .unset, .unset, .unset, .unset, .unset, .unset] []))
                          exact J371 (-1 : Int32) (Or.inl rfl)
                  by_cases hc274 : (1 : Int32) < j12
                  · refine Go.by (fun _ => XS.icmpNo XJ271.here hx rfl (hb hby at_274) rfl (tlt hc274).2.2.2) ?_
                    show Go p e below P (TJ271.setTop (mkF m 277 #[.val (.long q0), .second, .val (.long q2), .second, .val (.long q4), .second, .val (.int p6), .val (.int p7), .val (.int p8), .val (.int p9), .val (.int w10), .val (.int t11), .val (.int j12), .val (.int p9), .val (.int ws), .val (.int pr), .val (.int cl), .val (.int tr), .val (.int nn), .val (.ref b1), .val (.int r_6), .val (.int r_7), .val (.int r_12), .val (.int r_13), .unset, .unset, .unset, .unset, .unset, .unset, .unset, .unset, .unset, .unset] []))
                    refine Go.by (fun _ => XS.aload XJ271.here hx rfl (hb hby at_277) rfl rfl) ?_
                    show Go p e below P (TJ271.setTop (mkF m 279 #[.val (.long q0), .second, .val (.long q2), .second, .val (.long q4), .second, .val (.int p6), .val (.int p7), .val (.int p8), .val (.int p9), .val (.int w10), .val (.int t11), .val (.int j12), .val (.int p9), .val (.int ws), .val (.int pr), .val (.int cl), .val (.int tr), .val (.int nn), .val (.ref b1), .val (.int r_6), .val (.int r_7), .val (.int r_12), .val (.int r_13), .unset, .unset, .unset, .unset, .unset, .unset, .unset, .unset, .unset, .unset] [(.ref b1)]))
                    refine Go.by (fun _ => XS.iload XJ271.here hx rfl (hb hby at_279) rfl) ?_
                    show Go p e below P (TJ271.setTop (mkF m 281 #[.val (.long q0), .second, .val (.long q2), .second, .val (.long q4), .second, .val (.int p6), .val (.int p7), .val (.int p8), .val (.int p9), .val (.int w10), .val (.int t11), .val (.int j12), .val (.int p9), .val (.int ws), .val (.int pr), .val (.int cl), .val (.int tr), .val (.int nn), .val (.ref b1), .val (.int r_6), .val (.int r_7), .val (.int r_12), .val (.int r_13), .unset, .unset, .unset, .unset, .unset, .unset, .unset, .unset, .unset, .unset] [(.int nn), (.ref b1)]))
                    refine Go.by (fun _ => XS.iconst XJ271.here hx rfl (hb hby at_281)) ?_
                    show Go p e below P (TJ271.setTop (mkF m 282 #[.val (.long q0), .second, .val (.long q2), .second, .val (.long q4), .second, .val (.int p6), .val (.int p7), .val (.int p8), .val (.int p9), .val (.int w10), .val (.int t11), .val (.int j12), .val (.int p9), .val (.int ws), .val (.int pr), .val (.int cl), .val (.int tr), .val (.int nn), .val (.ref b1), .val (.int r_6), .val (.int r_7), .val (.int r_12), .val (.int r_13), .unset, .unset, .unset, .unset, .unset, .unset, .unset, .unset, .unset, .unset] [(.int (1 : Int32)), (.int nn), (.ref b1)]))
                    refine Go.by (fun _ => XS.iadd XJ271.here hx rfl (hb hby at_282) rfl) ?_
                    show Go p e below P (TJ271.setTop (mkF m 283 #[.val (.long q0), .second, .val (.long q2), .second, .val (.long q4), .second, .val (.int p6), .val (.int p7), .val (.int p8), .val (.int p9), .val (.int w10), .val (.int t11), .val (.int j12), .val (.int p9), .val (.int ws), .val (.int pr), .val (.int cl), .val (.int tr), .val (.int nn), .val (.ref b1), .val (.int r_6), .val (.int r_7), .val (.int r_12), .val (.int r_13), .unset, .unset, .unset, .unset, .unset, .unset, .unset, .unset, .unset, .unset] [(.int (nn + (1 : Int32))), (.ref b1)]))
                    refine Go.by (fun _ => XS.iload XJ271.here hx rfl (hb hby at_283) rfl) ?_
                    show Go p e below P (TJ271.setTop (mkF m 285 #[.val (.long q0), .second, .val (.long q2), .second, .val (.long q4), .second, .val (.int p6), .val (.int p7), .val (.int p8), .val (.int p9), .val (.int w10), .val (.int t11), .val (.int j12), .val (.int p9), .val (.int ws), .val (.int pr), .val (.int cl), .val (.int tr), .val (.int nn), .val (.ref b1), .val (.int r_6), .val (.int r_7), .val (.int r_12), .val (.int r_13), .unset, .unset, .unset, .unset, .unset, .unset, .unset, .unset, .unset, .unset] [(.int p8), (.int (nn + (1 : Int32))), (.ref b1)]))
                    refine Go.by (fun _ => XS.bipush XJ271.here hx rfl (hb hby at_285)) ?_
                    show Go p e below P (TJ271.setTop (mkF m 287 #[.val (.long q0), .second, .val (.long q2), .second, .val (.long q4), .second, .val (.int p6), .val (.int p7), .val (.int p8), .val (.int p9), .val (.int w10), .val (.int t11), .val (.int j12), .val (.int p9), .val (.int ws), .val (.int pr), .val (.int cl), .val (.int tr), .val (.int nn), .val (.ref b1), .val (.int r_6), .val (.int r_7), .val (.int r_12), .val (.int r_13), .unset, .unset, .unset, .unset, .unset, .unset, .unset, .unset, .unset, .unset] [(.int (16 : Int32)), (.int p8), (.int (nn + (1 : Int32))), (.ref b1)]))
                    refine Go.by (fun _ => XS.iushr XJ271.here hx rfl (hb hby at_287) rfl) ?_
                    show Go p e below P (TJ271.setTop (mkF m 288 #[.val (.long q0), .second, .val (.long q2), .second, .val (.long q4), .second, .val (.int p6), .val (.int p7), .val (.int p8), .val (.int p9), .val (.int w10), .val (.int t11), .val (.int j12), .val (.int p9), .val (.int ws), .val (.int pr), .val (.int cl), .val (.int tr), .val (.int nn), .val (.ref b1), .val (.int r_6), .val (.int r_7), .val (.int r_12), .val (.int r_13), .unset, .unset, .unset, .unset, .unset, .unset, .unset, .unset, .unset, .unset] [(.int (((p8).toUInt32 >>> ((16 : Int32) &&& 31).toUInt32).toInt32)), (.int (nn + (1 : Int32))), (.ref b1)]))
                    refine Go.by (fun _ => XS.i2b XJ271.here hx rfl (hb hby at_288) rfl) ?_
                    show Go p e below P (TJ271.setTop (mkF m 289 #[.val (.long q0), .second, .val (.long q2), .second, .val (.long q4), .second, .val (.int p6), .val (.int p7), .val (.int p8), .val (.int p9), .val (.int w10), .val (.int t11), .val (.int j12), .val (.int p9), .val (.int ws), .val (.int pr), .val (.int cl), .val (.int tr), .val (.int nn), .val (.ref b1), .val (.int r_6), .val (.int r_7), .val (.int r_12), .val (.int r_13), .unset, .unset, .unset, .unset, .unset, .unset, .unset, .unset, .unset, .unset] [(.int (((((p8).toUInt32 >>> ((16 : Int32) &&& 31).toUInt32).toInt32)).toInt8.toInt32)), (.int (nn + (1 : Int32))), (.ref b1)]))
                    have hj27 : ((nn + (1 : Int32))).toInt = ((oN + 16 + wN + 8 + 17 + tN + 1 : Nat) : Int) := (own_tadd hnn (show Tn 1 1 from rfl) (by omega) (by decide))
                    have hi27 : oN + 16 + wN + 8 + 17 + tN + 1 < (bs11).length := (by rw [hl_bs11]; have z_ := (own_tlt (show Tn 1 1 from rfl) hjN).mp hc274; omega)
                    obtain ⟨hx27, hy27, hz27⟩ := own_ix hj27 (by rw [hl_bs11]; exact hNB) hi27
                    obtain ⟨cl27, Ar27, qc27, Sz27, Ng27, Hs27, Gf27⟩ := id (FJ271_0)
                    have hin27 : ¬ ((nn + (1 : Int32)) < 0 ∨ cl27.slots.size ≤ ((nn + (1 : Int32))).toNatClampNeg) := inb_of Sz27 ⟨hx27, hy27⟩
                    obtain ⟨T27, h27, X27, e27, W27, st27⟩ := stB XJ271 hx hZ eJ271 Ar27 (j := (nn + (1 : Int32))) hin27 (g := (mkF m 289 #[.val (.long q0), .second, .val (.long q2), .second, .val (.long q4), .second, .val (.int p6), .val (.int p7), .val (.int p8), .val (.int p9), .val (.int w10), .val (.int t11), .val (.int j12), .val (.int p9), .val (.int ws), .val (.int pr), .val (.int cl), .val (.int tr), .val (.int nn), .val (.ref b1), .val (.int r_6), .val (.int r_7), .val (.int r_12), .val (.int r_13), .unset, .unset, .unset, .unset, .unset, .unset, .unset, .unset, .unset, .unset] [(.int (((((p8).toUInt32 >>> ((16 : Int32) &&& 31).toUInt32).toInt32)).toInt8.toInt32)), (.int (nn + (1 : Int32))), (.ref b1)])) rfl rfl (hb hby at_289)
                    refine Go.by (fun _ => st27 _) ?_
                    have O27 := OJ271.wr W27 g_b1
                    have Z27 : n0 ≤ h27.size := Nat.le_trans ZJ271 (Keep.of_wr W27).1
                    have F28 : Arv Z h27 b1 k1 .byte NB ((bs11.set (oN + 16 + wN + 8 + 17 + tN + 1) (nar .byte (((((p8).toUInt32 >>> ((16 : Int32) &&& 31).toUInt32).toInt32)).toInt8.toInt32))).map Value.int) (.int (0 : Int32)) := own_arvB Ar27 qc27 Sz27 Ng27 Hs27 Gf27 W27 rfl (oN + 16 + wN + 8 + 17 + tN + 1) hz27 (by rw [List.length_map]; exact hi27)
                    have N27 := Fr.snoc X27 NJ271 g_b1
                    show Go p e below P (T27.setTop (mkF m 290 #[.val (.long q0), .second, .val (.long q2), .second, .val (.long q4), .second, .val (.int p6), .val (.int p7), .val (.int p8), .val (.int p9), .val (.int w10), .val (.int t11), .val (.int j12), .val (.int p9), .val (.int ws), .val (.int pr), .val (.int cl), .val (.int tr), .val (.int nn), .val (.ref b1), .val (.int r_6), .val (.int r_7), .val (.int r_12), .val (.int r_13), .unset, .unset, .unset, .unset, .unset, .unset, .unset, .unset, .unset, .unset] []))
                    exact J290 T27 _ h27 X27 e27 N27 ((bs11.set (oN + 16 + wN + 8 + 17 + tN + 1) (nar .byte (((((p8).toUInt32 >>> ((16 : Int32) &&& 31).toUInt32).toInt32)).toInt8.toInt32)))) O27 Z27 F28 (by rw [List.length_set]; exact hl_bs11) (own_Mt_set HO11 (Or.inr (by have lo : OPN.length = 16 := rfl; omega))) (own_Mt_set HP11 (Or.inr (by have lp : PRM.length = 8 := rfl; omega))) (own_Mt_set HC11 (Or.inr (by have lc : CLO.length = 17 := rfl; omega))) (fun q => (own_gd_ne (by omega)).trans (HA11 q)) (fun q => (own_gd_ne (by omega)).trans (HB11 q)) (fun q => (own_gd_ne (by omega)).trans (HT11 q)) (fun q => (own_gd_ne (by omega)).trans (HU11 q))
                  · refine Go.by (fun _ => XS.icmpYes XJ271.here hx rfl (pc0 := 274) (pc' := 290) rfl (hb hby at_274) rfl (flt hc274).2.2.2 (by decide) (by decide)) ?_
                    show Go p e below P (TJ271.setTop (mkF m 290 #[.val (.long q0), .second, .val (.long q2), .second, .val (.long q4), .second, .val (.int p6), .val (.int p7), .val (.int p8), .val (.int p9), .val (.int w10), .val (.int t11), .val (.int j12), .val (.int p9), .val (.int ws), .val (.int pr), .val (.int cl), .val (.int tr), .val (.int nn), .val (.ref b1), .val (.int r_6), .val (.int r_7), .val (.int r_12), .val (.int r_13), .unset, .unset, .unset, .unset, .unset, .unset, .unset, .unset, .unset, .unset] []))
                    exact J290 TJ271 _ hJ271 XJ271 eJ271 NJ271 (bs11) OJ271 ZJ271 FJ271_0 hl_bs11 HO11 HP11 HC11 HA11 HB11 HT11 HU11
                by_cases hc257 : (0 : Int32) < j12
                · refine Go.by (fun _ => XS.ifNo XJ255.here hx rfl (hb hby at_257) rfl ((if0 _ _).trans (tlt hc257).2.2.2)) ?_
                  show Go p e below P (TJ255.setTop (mkF m 260 #[.val (.long q0), .second, .val (.long q2), .second, .val (.long q4), .second, .val (.int p6), .val (.int p7), .val (.int p8), .val (.int p9), .val (.int w10), .val (.int t11), .val (.int j12), .val (.int p9), .val (.int ws), .val (.int pr), .val (.int cl), .val (.int tr), .val (.int nn), .val (.ref b1), .val (.int r_6), .val (.int r_7), .val (.int r_12), .val (.int r_13), .unset, .unset, .unset, .unset, .unset, .unset, .unset, .unset, .unset, .unset] []))
                  refine Go.by (fun _ => XS.aload XJ255.here hx rfl (hb hby at_260) rfl rfl) ?_
                  show Go p e below P (TJ255.setTop (mkF m 262 #[.val (.long q0), .second, .val (.long q2), .second, .val (.long q4), .second, .val (.int p6), .val (.int p7), .val (.int p8), .val (.int p9), .val (.int w10), .val (.int t11), .val (.int j12), .val (.int p9), .val (.int ws), .val (.int pr), .val (.int cl), .val (.int tr), .val (.int nn), .val (.ref b1), .val (.int r_6), .val (.int r_7), .val (.int r_12), .val (.int r_13), .unset, .unset, .unset, .unset, .unset, .unset, .unset, .unset, .unset, .unset] [(.ref b1)]))
                  refine Go.by (fun _ => XS.iload XJ255.here hx rfl (hb hby at_262) rfl) ?_
                  show Go p e below P (TJ255.setTop (mkF m 264 #[.val (.long q0), .second, .val (.long q2), .second, .val (.long q4), .second, .val (.int p6), .val (.int p7), .val (.int p8), .val (.int p9), .val (.int w10), .val (.int t11), .val (.int j12), .val (.int p9), .val (.int ws), .val (.int pr), .val (.int cl), .val (.int tr), .val (.int nn), .val (.ref b1), .val (.int r_6), .val (.int r_7), .val (.int r_12), .val (.int r_13), .unset, .unset, .unset, .unset, .unset, .unset, .unset, .unset, .unset, .unset] [(.int nn), (.ref b1)]))
                  refine Go.by (fun _ => XS.iload XJ255.here hx rfl (hb hby at_264) rfl) ?_
                  show Go p e below P (TJ255.setTop (mkF m 266 #[.val (.long q0), .second, .val (.long q2), .second, .val (.long q4), .second, .val (.int p6), .val (.int p7), .val (.int p8), .val (.int p9), .val (.int w10), .val (.int t11), .val (.int j12), .val (.int p9), .val (.int ws), .val (.int pr), .val (.int cl), .val (.int tr), .val (.int nn), .val (.ref b1), .val (.int r_6), .val (.int r_7), .val (.int r_12), .val (.int r_13), .unset, .unset, .unset, .unset, .unset, .unset, .unset, .unset, .unset, .unset] [(.int p8), (.int nn), (.ref b1)]))
                  refine Go.by (fun _ => XS.bipush XJ255.here hx rfl (hb hby at_266)) ?_
                  show Go p e below P (TJ255.setTop (mkF m 268 #[.val (.long q0), .second, .val (.long q2), .second, .val (.long q4), .second, .val (.int p6), .val (.int p7), .val (.int p8), .val (.int p9), .val (.int w10), .val (.int t11), .val (.int j12), .val (.int p9), .val (.int ws), .val (.int pr), .val (.int cl), .val (.int tr), .val (.int nn), .val (.ref b1), .val (.int r_6), .val (.int r_7), .val (.int r_12), .val (.int r_13), .unset, .unset, .unset, .unset, .unset, .unset, .unset, .unset, .unset, .unset] [(.int (8 : Int32)), (.int p8), (.int nn), (.ref b1)]))
                  refine Go.by (fun _ => XS.iushr XJ255.here hx rfl (hb hby at_268) rfl) ?_
                  show Go p e below P (TJ255.setTop (mkF m 269 #[.val (.long q0), .second, .val (.long q2), .second, .val (.long q4), .second, .val (.int p6), .val (.int p7), .val (.int p8), .val (.int p9), .val (.int w10), .val (.int t11), .val (.int j12), .val (.int p9), .val (.int ws), .val (.int pr), .val (.int cl), .val (.int tr), .val (.int nn), .val (.ref b1), .val (.int r_6), .val (.int r_7), .val (.int r_12), .val (.int r_13), .unset, .unset, .unset, .unset, .unset, .unset, .unset, .unset, .unset, .unset] [(.int (((p8).toUInt32 >>> ((8 : Int32) &&& 31).toUInt32).toInt32)), (.int nn), (.ref b1)]))
                  refine Go.by (fun _ => XS.i2b XJ255.here hx rfl (hb hby at_269) rfl) ?_
                  show Go p e below P (TJ255.setTop (mkF m 270 #[.val (.long q0), .second, .val (.long q2), .second, .val (.long q4), .second, .val (.int p6), .val (.int p7), .val (.int p8), .val (.int p9), .val (.int w10), .val (.int t11), .val (.int j12), .val (.int p9), .val (.int ws), .val (.int pr), .val (.int cl), .val (.int tr), .val (.int nn), .val (.ref b1), .val (.int r_6), .val (.int r_7), .val (.int r_12), .val (.int r_13), .unset, .unset, .unset, .unset, .unset, .unset, .unset, .unset, .unset, .unset] [(.int (((((p8).toUInt32 >>> ((8 : Int32) &&& 31).toUInt32).toInt32)).toInt8.toInt32)), (.int nn), (.ref b1)]))
                  have hj29 : (nn).toInt = ((oN + 16 + wN + 8 + 17 + tN : Nat) : Int) := hnn
                  have hi29 : oN + 16 + wN + 8 + 17 + tN < (bs10).length := (by rw [hl_bs10]; have z_ := (own_tlt (show Tn 0 0 from rfl) hjN).mp hc257; omega)
                  obtain ⟨hx29, hy29, hz29⟩ := own_ix hj29 (by rw [hl_bs10]; exact hNB) hi29
                  obtain ⟨cl29, Ar29, qc29, Sz29, Ng29, Hs29, Gf29⟩ := id (FJ255_0)
                  have hin29 : ¬ (nn < 0 ∨ cl29.slots.size ≤ (nn).toNatClampNeg) := inb_of Sz29 ⟨hx29, hy29⟩
                  obtain ⟨T29, h29, X29, e29, W29, st29⟩ := stB XJ255 hx hZ eJ255 Ar29 (j := nn) hin29 (g := (mkF m 270 #[.val (.long q0), .second, .val (.long q2), .second, .val (.long q4), .second, .val (.int p6), .val (.int p7), .val (.int p8), .val (.int p9), .val (.int w10), .val (.int t11), .val (.int j12), .val (.int p9), .val (.int ws), .val (.int pr), .val (.int cl), .val (.int tr), .val (.int nn), .val (.ref b1), .val (.int r_6), .val (.int r_7), .val (.int r_12), .val (.int r_13), .unset, .unset, .unset, .unset, .unset, .unset, .unset, .unset, .unset, .unset] [(.int (((((p8).toUInt32 >>> ((8 : Int32) &&& 31).toUInt32).toInt32)).toInt8.toInt32)), (.int nn), (.ref b1)])) rfl rfl (hb hby at_270)
                  refine Go.by (fun _ => st29 _) ?_
                  have O29 := OJ255.wr W29 g_b1
                  have Z29 : n0 ≤ h29.size := Nat.le_trans ZJ255 (Keep.of_wr W29).1
                  have F30 : Arv Z h29 b1 k1 .byte NB ((bs10.set (oN + 16 + wN + 8 + 17 + tN) (nar .byte (((((p8).toUInt32 >>> ((8 : Int32) &&& 31).toUInt32).toInt32)).toInt8.toInt32))).map Value.int) (.int (0 : Int32)) := own_arvB Ar29 qc29 Sz29 Ng29 Hs29 Gf29 W29 rfl (oN + 16 + wN + 8 + 17 + tN) hz29 (by rw [List.length_map]; exact hi29)
                  have N29 := Fr.snoc X29 NJ255 g_b1
                  show Go p e below P (T29.setTop (mkF m 271 #[.val (.long q0), .second, .val (.long q2), .second, .val (.long q4), .second, .val (.int p6), .val (.int p7), .val (.int p8), .val (.int p9), .val (.int w10), .val (.int t11), .val (.int j12), .val (.int p9), .val (.int ws), .val (.int pr), .val (.int cl), .val (.int tr), .val (.int nn), .val (.ref b1), .val (.int r_6), .val (.int r_7), .val (.int r_12), .val (.int r_13), .unset, .unset, .unset, .unset, .unset, .unset, .unset, .unset, .unset, .unset] []))
                  exact J271 T29 _ h29 X29 e29 N29 ((bs10.set (oN + 16 + wN + 8 + 17 + tN) (nar .byte (((((p8).toUInt32 >>> ((8 : Int32) &&& 31).toUInt32).toInt32)).toInt8.toInt32)))) O29 Z29 F30 (by rw [List.length_set]; exact hl_bs10) (own_Mt_set HO10 (Or.inr (by have lo : OPN.length = 16 := rfl; omega))) (own_Mt_set HP10 (Or.inr (by have lp : PRM.length = 8 := rfl; omega))) (own_Mt_set HC10 (Or.inr (by have lc : CLO.length = 17 := rfl; omega))) (fun q => (own_gd_ne (by omega)).trans (HA10 q)) (fun q => (own_gd_ne (by omega)).trans (HB10 q)) (fun q => (own_gd_ne (by omega)).trans (HT10 q)) (fun q => (own_gd_ne (by omega)).trans (HU10 q))
                · refine Go.by (fun _ => XS.ifYes XJ255.here hx rfl (pc0 := 257) (pc' := 271) rfl (hb hby at_257) rfl ((if0 _ _).trans (flt hc257).2.2.2) (by decide) (by decide)) ?_
                  show Go p e below P (TJ255.setTop (mkF m 271 #[.val (.long q0), .second, .val (.long q2), .second, .val (.long q4), .second, .val (.int p6), .val (.int p7), .val (.int p8), .val (.int p9), .val (.int w10), .val (.int t11), .val (.int j12), .val (.int p9), .val (.int ws), .val (.int pr), .val (.int cl), .val (.int tr), .val (.int nn), .val (.ref b1), .val (.int r_6), .val (.int r_7), .val (.int r_12), .val (.int r_13), .unset, .unset, .unset, .unset, .unset, .unset, .unset, .unset, .unset, .unset] []))
                  exact J271 TJ255 _ hJ255 XJ255 eJ255 NJ255 (bs10) OJ255 ZJ255 FJ255_0 hl_bs10 HO10 HP10 HC10 HA10 HB10 HT10 HU10
              by_cases hc243 : (1 : Int32) < t11
              · refine Go.by (fun _ => XS.icmpNo XJ240.here hx rfl (hb hby at_243) rfl (tlt hc243).2.2.2) ?_
                show Go p e below P (TJ240.setTop (mkF m 246 #[.val (.long q0), .second, .val (.long q2), .second, .val (.long q4), .second, .val (.int p6), .val (.int p7), .val (.int p8), .val (.int p9), .val (.int w10), .val (.int t11), .val (.int j12), .val (.int p9), .val (.int ws), .val (.int pr), .val (.int cl), .val (.int tr), .val (.int nn), .val (.ref b1), .val (.int r_6), .val (.int r_7), .val (.int r_12), .val (.int r_13), .unset, .unset, .unset, .unset, .unset, .unset, .unset, .unset, .unset, .unset] []))
                refine Go.by (fun _ => XS.aload XJ240.here hx rfl (hb hby at_246) rfl rfl) ?_
                show Go p e below P (TJ240.setTop (mkF m 248 #[.val (.long q0), .second, .val (.long q2), .second, .val (.long q4), .second, .val (.int p6), .val (.int p7), .val (.int p8), .val (.int p9), .val (.int w10), .val (.int t11), .val (.int j12), .val (.int p9), .val (.int ws), .val (.int pr), .val (.int cl), .val (.int tr), .val (.int nn), .val (.ref b1), .val (.int r_6), .val (.int r_7), .val (.int r_12), .val (.int r_13), .unset, .unset, .unset, .unset, .unset, .unset, .unset, .unset, .unset, .unset] [(.ref b1)]))
                refine Go.by (fun _ => XS.iload XJ240.here hx rfl (hb hby at_248) rfl) ?_
                show Go p e below P (TJ240.setTop (mkF m 250 #[.val (.long q0), .second, .val (.long q2), .second, .val (.long q4), .second, .val (.int p6), .val (.int p7), .val (.int p8), .val (.int p9), .val (.int w10), .val (.int t11), .val (.int j12), .val (.int p9), .val (.int ws), .val (.int pr), .val (.int cl), .val (.int tr), .val (.int nn), .val (.ref b1), .val (.int r_6), .val (.int r_7), .val (.int r_12), .val (.int r_13), .unset, .unset, .unset, .unset, .unset, .unset, .unset, .unset, .unset, .unset] [(.int tr), (.ref b1)]))
                refine Go.by (fun _ => XS.iconst XJ240.here hx rfl (hb hby at_250)) ?_
                show Go p e below P (TJ240.setTop (mkF m 251 #[.val (.long q0), .second, .val (.long q2), .second, .val (.long q4), .second, .val (.int p6), .val (.int p7), .val (.int p8), .val (.int p9), .val (.int w10), .val (.int t11), .val (.int j12), .val (.int p9), .val (.int ws), .val (.int pr), .val (.int cl), .val (.int tr), .val (.int nn), .val (.ref b1), .val (.int r_6), .val (.int r_7), .val (.int r_12), .val (.int r_13), .unset, .unset, .unset, .unset, .unset, .unset, .unset, .unset, .unset, .unset] [(.int (1 : Int32)), (.int tr), (.ref b1)]))
                refine Go.by (fun _ => XS.iadd XJ240.here hx rfl (hb hby at_251) rfl) ?_
                show Go p e below P (TJ240.setTop (mkF m 252 #[.val (.long q0), .second, .val (.long q2), .second, .val (.long q4), .second, .val (.int p6), .val (.int p7), .val (.int p8), .val (.int p9), .val (.int w10), .val (.int t11), .val (.int j12), .val (.int p9), .val (.int ws), .val (.int pr), .val (.int cl), .val (.int tr), .val (.int nn), .val (.ref b1), .val (.int r_6), .val (.int r_7), .val (.int r_12), .val (.int r_13), .unset, .unset, .unset, .unset, .unset, .unset, .unset, .unset, .unset, .unset] [(.int (tr + (1 : Int32))), (.ref b1)]))
                refine Go.by (fun _ => XS.iload XJ240.here hx rfl (hb hby at_252) rfl) ?_
                show Go p e below P (TJ240.setTop (mkF m 254 #[.val (.long q0), .second, .val (.long q2), .second, .val (.long q4), .second, .val (.int p6), .val (.int p7), .val (.int p8), .val (.int p9), .val (.int w10), .val (.int t11), .val (.int j12), .val (.int p9), .val (.int ws), .val (.int pr), .val (.int cl), .val (.int tr), .val (.int nn), .val (.ref b1), .val (.int r_6), .val (.int r_7), .val (.int r_12), .val (.int r_13), .unset, .unset, .unset, .unset, .unset, .unset, .unset, .unset, .unset, .unset] [(.int r_13), (.int (tr + (1 : Int32))), (.ref b1)]))
                have hj31 : ((tr + (1 : Int32))).toInt = ((oN + 16 + wN + 8 + 17 + 1 : Nat) : Int) := (own_tadd htr (show Tn 1 1 from rfl) (by omega) (by decide))
                have hi31 : oN + 16 + wN + 8 + 17 + 1 < (bs9).length := (by rw [hl_bs9]; have z_ := (own_tlt (show Tn 1 1 from rfl) htN).mp hc243; omega)
                obtain ⟨hx31, hy31, hz31⟩ := own_ix hj31 (by rw [hl_bs9]; exact hNB) hi31
                obtain ⟨cl31, Ar31, qc31, Sz31, Ng31, Hs31, Gf31⟩ := id (FJ240_0)
                have hin31 : ¬ ((tr + (1 : Int32)) < 0 ∨ cl31.slots.size ≤ ((tr + (1 : Int32))).toNatClampNeg) := inb_of Sz31 ⟨hx31, hy31⟩
                obtain ⟨T31, h31, X31, e31, W31, st31⟩ := stB XJ240 hx hZ eJ240 Ar31 (j := (tr + (1 : Int32))) hin31 (g := (mkF m 254 #[.val (.long q0), .second, .val (.long q2), .second, .val (.long q4), .second, .val (.int p6), .val (.int p7), .val (.int p8), .val (.int p9), .val (.int w10), .val (.int t11), .val (.int j12), .val (.int p9), .val (.int ws), .val (.int pr), .val (.int cl), .val (.int tr), .val (.int nn), .val (.ref b1), .val (.int r_6), .val (.int r_7), .val (.int r_12), .val (.int r_13), .unset, .unset, .unset, .unset, .unset, .unset, .unset, .unset, .unset, .unset] [(.int r_13), (.int (tr + (1 : Int32))), (.ref b1)])) rfl rfl (hb hby at_254)
                refine Go.by (fun _ => st31 _) ?_
                have O31 := OJ240.wr W31 g_b1
                have Z31 : n0 ≤ h31.size := Nat.le_trans ZJ240 (Keep.of_wr W31).1
                have F32 : Arv Z h31 b1 k1 .byte NB ((bs9.set (oN + 16 + wN + 8 + 17 + 1) r_13).map Value.int) (.int (0 : Int32)) := own_arvB Ar31 qc31 Sz31 Ng31 Hs31 Gf31 W31 hq13_0 (oN + 16 + wN + 8 + 17 + 1) hz31 (by rw [List.length_map]; exact hi31)
                have N31 := Fr.snoc X31 NJ240 g_b1
                show Go p e below P (T31.setTop (mkF m 255 #[.val (.long q0), .second, .val (.long q2), .second, .val (.long q4), .second, .val (.int p6), .val (.int p7), .val (.int p8), .val (.int p9), .val (.int w10), .val (.int t11), .val (.int j12), .val (.int p9), .val (.int ws), .val (.int pr), .val (.int cl), .val (.int tr), .val (.int nn), .val (.ref b1), .val (.int r_6), .val (.int r_7), .val (.int r_12), .val (.int r_13), .unset, .unset, .unset, .unset, .unset, .unset, .unset, .unset, .unset, .unset] []))
                exact J255 T31 _ h31 X31 e31 N31 ((bs9.set (oN + 16 + wN + 8 + 17 + 1) r_13)) O31 Z31 F32 (by rw [List.length_set]; exact hl_bs9) (own_Mt_set HO9 (Or.inr (by have lo : OPN.length = 16 := rfl; omega))) (own_Mt_set HP9 (Or.inr (by have lp : PRM.length = 8 := rfl; omega))) (own_Mt_set HC9 (Or.inr (by have lc : CLO.length = 17 := rfl; omega))) (fun q => (own_gd_ne (by omega)).trans (HA9 q)) (fun q => (own_gd_ne (by omega)).trans (HB9 q)) (fun q => (own_gd_ne (by omega)).trans (HT9 q)) (fun _ => own_gd_eq (by rw [hl_bs9]; omega))
              · refine Go.by (fun _ => XS.icmpYes XJ240.here hx rfl (pc0 := 243) (pc' := 255) rfl (hb hby at_243) rfl (flt hc243).2.2.2 (by decide) (by decide)) ?_
                show Go p e below P (TJ240.setTop (mkF m 255 #[.val (.long q0), .second, .val (.long q2), .second, .val (.long q4), .second, .val (.int p6), .val (.int p7), .val (.int p8), .val (.int p9), .val (.int w10), .val (.int t11), .val (.int j12), .val (.int p9), .val (.int ws), .val (.int pr), .val (.int cl), .val (.int tr), .val (.int nn), .val (.ref b1), .val (.int r_6), .val (.int r_7), .val (.int r_12), .val (.int r_13), .unset, .unset, .unset, .unset, .unset, .unset, .unset, .unset, .unset, .unset] []))
                exact J255 TJ240 _ hJ240 XJ240 eJ240 NJ240 (bs9) OJ240 ZJ240 FJ240_0 hl_bs9 HO9 HP9 HC9 HA9 HB9 HT9 (fun q => absurd ((own_tlt (show Tn 1 1 from rfl) htN).mpr q) hc243)
            by_cases hc230 : (0 : Int32) < t11
            · refine Go.by (fun _ => XS.ifNo X13.here hx rfl (hb hby at_230) rfl ((if0 _ _).trans (tlt hc230).2.2.2)) ?_
              show Go p e below P (T13.setTop (mkF m 233 #[.val (.long q0), .second, .val (.long q2), .second, .val (.long q4), .second, .val (.int p6), .val (.int p7), .val (.int p8), .val (.int p9), .val (.int w10), .val (.int t11), .val (.int j12), .val (.int p9), .val (.int ws), .val (.int pr), .val (.int cl), .val (.int tr), .val (.int nn), .val (.ref b1), .val (.int r_6), .val (.int r_7), .val (.int r_12), .val (.int r_13), .unset, .unset, .unset, .unset, .unset, .unset, .unset, .unset, .unset, .unset] []))
              refine Go.by (fun _ => XS.aload X13.here hx rfl (hb hby at_233) rfl rfl) ?_
              show Go p e below P (T13.setTop (mkF m 235 #[.val (.long q0), .second, .val (.long q2), .second, .val (.long q4), .second, .val (.int p6), .val (.int p7), .val (.int p8), .val (.int p9), .val (.int w10), .val (.int t11), .val (.int j12), .val (.int p9), .val (.int ws), .val (.int pr), .val (.int cl), .val (.int tr), .val (.int nn), .val (.ref b1), .val (.int r_6), .val (.int r_7), .val (.int r_12), .val (.int r_13), .unset, .unset, .unset, .unset, .unset, .unset, .unset, .unset, .unset, .unset] [(.ref b1)]))
              refine Go.by (fun _ => XS.iload X13.here hx rfl (hb hby at_235) rfl) ?_
              show Go p e below P (T13.setTop (mkF m 237 #[.val (.long q0), .second, .val (.long q2), .second, .val (.long q4), .second, .val (.int p6), .val (.int p7), .val (.int p8), .val (.int p9), .val (.int w10), .val (.int t11), .val (.int j12), .val (.int p9), .val (.int ws), .val (.int pr), .val (.int cl), .val (.int tr), .val (.int nn), .val (.ref b1), .val (.int r_6), .val (.int r_7), .val (.int r_12), .val (.int r_13), .unset, .unset, .unset, .unset, .unset, .unset, .unset, .unset, .unset, .unset] [(.int tr), (.ref b1)]))
              refine Go.by (fun _ => XS.iload X13.here hx rfl (hb hby at_237) rfl) ?_
              show Go p e below P (T13.setTop (mkF m 239 #[.val (.long q0), .second, .val (.long q2), .second, .val (.long q4), .second, .val (.int p6), .val (.int p7), .val (.int p8), .val (.int p9), .val (.int w10), .val (.int t11), .val (.int j12), .val (.int p9), .val (.int ws), .val (.int pr), .val (.int cl), .val (.int tr), .val (.int nn), .val (.ref b1), .val (.int r_6), .val (.int r_7), .val (.int r_12), .val (.int r_13), .unset, .unset, .unset, .unset, .unset, .unset, .unset, .unset, .unset, .unset] [(.int r_12), (.int tr), (.ref b1)]))
              have hj33 : (tr).toInt = ((oN + 16 + wN + 8 + 17 : Nat) : Int) := htr
              have hi33 : oN + 16 + wN + 8 + 17 < (bs8).length := (by rw [hl_bs8]; have z_ := (own_tlt (show Tn 0 0 from rfl) htN).mp hc230; omega)
              obtain ⟨hx33, hy33, hz33⟩ := own_ix hj33 (by rw [hl_bs8]; exact hNB) hi33
              obtain ⟨cl33, Ar33, qc33, Sz33, Ng33, Hs33, Gf33⟩ := id (Fb_bs8)
              have hin33 : ¬ (tr < 0 ∨ cl33.slots.size ≤ (tr).toNatClampNeg) := inb_of Sz33 ⟨hx33, hy33⟩
              obtain ⟨T33, h33, X33, e33, W33, st33⟩ := stB X13 hx hZ eq13 Ar33 (j := tr) hin33 (g := (mkF m 239 #[.val (.long q0), .second, .val (.long q2), .second, .val (.long q4), .second, .val (.int p6), .val (.int p7), .val (.int p8), .val (.int p9), .val (.int w10), .val (.int t11), .val (.int j12), .val (.int p9), .val (.int ws), .val (.int pr), .val (.int cl), .val (.int tr), .val (.int nn), .val (.ref b1), .val (.int r_6), .val (.int r_7), .val (.int r_12), .val (.int r_13), .unset, .unset, .unset, .unset, .unset, .unset, .unset, .unset, .unset, .unset] [(.int r_12), (.int tr), (.ref b1)])) rfl rfl (hb hby at_239)
              refine Go.by (fun _ => st33 _) ?_
              have O33 := O10.wr W33 g_b1
              have Z33 : n0 ≤ h33.size := Nat.le_trans Z10 (Keep.of_wr W33).1
              have F34 : Arv Z h33 b1 k1 .byte NB ((bs8.set (oN + 16 + wN + 8 + 17) r_12).map Value.int) (.int (0 : Int32)) := own_arvB Ar33 qc33 Sz33 Ng33 Hs33 Gf33 W33 hq12_0 (oN + 16 + wN + 8 + 17) hz33 (by rw [List.length_map]; exact hi33)
              have N33 := Fr.snoc X33 N13 g_b1
              show Go p e below P (T33.setTop (mkF m 240 #[.val (.long q0), .second, .val (.long q2), .second, .val (.long q4), .second, .val (.int p6), .val (.int p7), .val (.int p8), .val (.int p9), .val (.int w10), .val (.int t11), .val (.int j12), .val (.int p9), .val (.int ws), .val (.int pr), .val (.int cl), .val (.int tr), .val (.int nn), .val (.ref b1), .val (.int r_6), .val (.int r_7), .val (.int r_12), .val (.int r_13), .unset, .unset, .unset, .unset, .unset, .unset, .unset, .unset, .unset, .unset] []))
              exact J240 T33 _ h33 X33 e33 N33 ((bs8.set (oN + 16 + wN + 8 + 17) r_12)) O33 Z33 F34 (by rw [List.length_set]; exact hl_bs8) (own_Mt_set HO8 (Or.inr (by have lo : OPN.length = 16 := rfl; omega))) (own_Mt_set HP8 (Or.inr (by have lp : PRM.length = 8 := rfl; omega))) (own_Mt_set HC8 (Or.inr (by have lc : CLO.length = 17 := rfl; omega))) (fun q => (own_gd_ne (by omega)).trans (HA8 q)) (fun q => (own_gd_ne (by omega)).trans (HB8 q)) (fun _ => own_gd_eq (by rw [hl_bs8]; omega))
            · refine Go.by (fun _ => XS.ifYes X13.here hx rfl (pc0 := 230) (pc' := 240) rfl (hb hby at_230) rfl ((if0 _ _).trans (flt hc230).2.2.2) (by decide) (by decide)) ?_
              show Go p e below P (T13.setTop (mkF m 240 #[.val (.long q0), .second, .val (.long q2), .second, .val (.long q4), .second, .val (.int p6), .val (.int p7), .val (.int p8), .val (.int p9), .val (.int w10), .val (.int t11), .val (.int j12), .val (.int p9), .val (.int ws), .val (.int pr), .val (.int cl), .val (.int tr), .val (.int nn), .val (.ref b1), .val (.int r_6), .val (.int r_7), .val (.int r_12), .val (.int r_13), .unset, .unset, .unset, .unset, .unset, .unset, .unset, .unset, .unset, .unset] []))
              exact J240 T13 _ T10.heap X13 eq13 N13 (bs8) O10 Z10 Fb_bs8 hl_bs8 HO8 HP8 HC8 HA8 HB8 (fun q => absurd ((own_tlt (show Tn 0 0 from rfl) htN).mpr q) hc230)
          by_cases hc180 : (1 : Int32) < w10
          · refine Go.by (fun _ => XS.icmpNo XJ177.here hx rfl (hb hby at_180) rfl (tlt hc180).2.2.2) ?_
            show Go p e below P (TJ177.setTop (mkF m 183 #[.val (.long q0), .second, .val (.long q2), .second, .val (.long q4), .second, .val (.int p6), .val (.int p7), .val (.int p8), .val (.int p9), .val (.int w10), .val (.int t11), .val (.int j12), .val (.int p9), .val (.int ws), .val (.int pr), .val (.int cl), .val (.int tr), .val (.int nn), .val (.ref b1), .val (.int r_6), .val (.int r_7), .unset, .unset, .unset, .unset, .unset, .unset, .unset, .unset, .unset, .unset, .unset, .unset] []))
            refine Go.by (fun _ => XS.aload XJ177.here hx rfl (hb hby at_183) rfl rfl) ?_
            show Go p e below P (TJ177.setTop (mkF m 185 #[.val (.long q0), .second, .val (.long q2), .second, .val (.long q4), .second, .val (.int p6), .val (.int p7), .val (.int p8), .val (.int p9), .val (.int w10), .val (.int t11), .val (.int j12), .val (.int p9), .val (.int ws), .val (.int pr), .val (.int cl), .val (.int tr), .val (.int nn), .val (.ref b1), .val (.int r_6), .val (.int r_7), .unset, .unset, .unset, .unset, .unset, .unset, .unset, .unset, .unset, .unset, .unset, .unset] [(.ref b1)]))
            refine Go.by (fun _ => XS.iload XJ177.here hx rfl (hb hby at_185) rfl) ?_
            show Go p e below P (TJ177.setTop (mkF m 187 #[.val (.long q0), .second, .val (.long q2), .second, .val (.long q4), .second, .val (.int p6), .val (.int p7), .val (.int p8), .val (.int p9), .val (.int w10), .val (.int t11), .val (.int j12), .val (.int p9), .val (.int ws), .val (.int pr), .val (.int cl), .val (.int tr), .val (.int nn), .val (.ref b1), .val (.int r_6), .val (.int r_7), .unset, .unset, .unset, .unset, .unset, .unset, .unset, .unset, .unset, .unset, .unset, .unset] [(.int ws), (.ref b1)]))
            refine Go.by (fun _ => XS.iconst XJ177.here hx rfl (hb hby at_187)) ?_
            show Go p e below P (TJ177.setTop (mkF m 188 #[.val (.long q0), .second, .val (.long q2), .second, .val (.long q4), .second, .val (.int p6), .val (.int p7), .val (.int p8), .val (.int p9), .val (.int w10), .val (.int t11), .val (.int j12), .val (.int p9), .val (.int ws), .val (.int pr), .val (.int cl), .val (.int tr), .val (.int nn), .val (.ref b1), .val (.int r_6), .val (.int r_7), .unset, .unset, .unset, .unset, .unset, .unset, .unset, .unset, .unset, .unset, .unset, .unset] [(.int (1 : Int32)), (.int ws), (.ref b1)]))
            refine Go.by (fun _ => XS.iadd XJ177.here hx rfl (hb hby at_188) rfl) ?_
            show Go p e below P (TJ177.setTop (mkF m 189 #[.val (.long q0), .second, .val (.long q2), .second, .val (.long q4), .second, .val (.int p6), .val (.int p7), .val (.int p8), .val (.int p9), .val (.int w10), .val (.int t11), .val (.int j12), .val (.int p9), .val (.int ws), .val (.int pr), .val (.int cl), .val (.int tr), .val (.int nn), .val (.ref b1), .val (.int r_6), .val (.int r_7), .unset, .unset, .unset, .unset, .unset, .unset, .unset, .unset, .unset, .unset, .unset, .unset] [(.int (ws + (1 : Int32))), (.ref b1)]))
            refine Go.by (fun _ => XS.iload XJ177.here hx rfl (hb hby at_189) rfl) ?_
            show Go p e below P (TJ177.setTop (mkF m 191 #[.val (.long q0), .second, .val (.long q2), .second, .val (.long q4), .second, .val (.int p6), .val (.int p7), .val (.int p8), .val (.int p9), .val (.int w10), .val (.int t11), .val (.int j12), .val (.int p9), .val (.int ws), .val (.int pr), .val (.int cl), .val (.int tr), .val (.int nn), .val (.ref b1), .val (.int r_6), .val (.int r_7), .unset, .unset, .unset, .unset, .unset, .unset, .unset, .unset, .unset, .unset, .unset, .unset] [(.int r_7), (.int (ws + (1 : Int32))), (.ref b1)]))
            have hj35 : ((ws + (1 : Int32))).toInt = ((oN + 17 : Nat) : Int) := (show Tn (ws + (1 : Int32)) (oN + 16 + 1) from own_tadd hws own_t1 (by omega) (by decide))
            have hi35 : oN + 17 < (bs5).length := (by rw [hl_bs5]; omega)
            obtain ⟨hx35, hy35, hz35⟩ := own_ix hj35 (by rw [hl_bs5]; exact hNB) hi35
            obtain ⟨cl35, Ar35, qc35, Sz35, Ng35, Hs35, Gf35⟩ := id (FJ177_0)
            have hin35 : ¬ ((ws + (1 : Int32)) < 0 ∨ cl35.slots.size ≤ ((ws + (1 : Int32))).toNatClampNeg) := inb_of Sz35 ⟨hx35, hy35⟩
            obtain ⟨T35, h35, X35, e35, W35, st35⟩ := stB XJ177 hx hZ eJ177 Ar35 (j := (ws + (1 : Int32))) hin35 (g := (mkF m 191 #[.val (.long q0), .second, .val (.long q2), .second, .val (.long q4), .second, .val (.int p6), .val (.int p7), .val (.int p8), .val (.int p9), .val (.int w10), .val (.int t11), .val (.int j12), .val (.int p9), .val (.int ws), .val (.int pr), .val (.int cl), .val (.int tr), .val (.int nn), .val (.ref b1), .val (.int r_6), .val (.int r_7), .unset, .unset, .unset, .unset, .unset, .unset, .unset, .unset, .unset, .unset, .unset, .unset] [(.int r_7), (.int (ws + (1 : Int32))), (.ref b1)])) rfl rfl (hb hby at_191)
            refine Go.by (fun _ => st35 _) ?_
            have O35 := OJ177.wr W35 g_b1
            have Z35 : n0 ≤ h35.size := Nat.le_trans ZJ177 (Keep.of_wr W35).1
            have F36 : Arv Z h35 b1 k1 .byte NB ((bs5.set (oN + 17) r_7).map Value.int) (.int (0 : Int32)) := own_arvB Ar35 qc35 Sz35 Ng35 Hs35 Gf35 W35 hq7_0 (oN + 17) hz35 (by rw [List.length_map]; exact hi35)
            have N35 := Fr.snoc X35 NJ177 g_b1
            show Go p e below P (T35.setTop (mkF m 192 #[.val (.long q0), .second, .val (.long q2), .second, .val (.long q4), .second, .val (.int p6), .val (.int p7), .val (.int p8), .val (.int p9), .val (.int w10), .val (.int t11), .val (.int j12), .val (.int p9), .val (.int ws), .val (.int pr), .val (.int cl), .val (.int tr), .val (.int nn), .val (.ref b1), .val (.int r_6), .val (.int r_7), .unset, .unset, .unset, .unset, .unset, .unset, .unset, .unset, .unset, .unset, .unset, .unset] []))
            exact J192 T35 _ h35 X35 e35 N35 ((bs5.set (oN + 17) r_7)) O35 Z35 F36 (by rw [List.length_set]; exact hl_bs5) (own_Mt_set HO5 (Or.inr (by have lo : OPN.length = 16 := rfl; omega))) (fun q => (own_gd_ne (by omega)).trans (HA5 q)) (fun _ => own_gd_eq (by rw [hl_bs5]; omega))
          · refine Go.by (fun _ => XS.icmpYes XJ177.here hx rfl (pc0 := 180) (pc' := 192) rfl (hb hby at_180) rfl (flt hc180).2.2.2 (by decide) (by decide)) ?_
            show Go p e below P (TJ177.setTop (mkF m 192 #[.val (.long q0), .second, .val (.long q2), .second, .val (.long q4), .second, .val (.int p6), .val (.int p7), .val (.int p8), .val (.int p9), .val (.int w10), .val (.int t11), .val (.int j12), .val (.int p9), .val (.int ws), .val (.int pr), .val (.int cl), .val (.int tr), .val (.int nn), .val (.ref b1), .val (.int r_6), .val (.int r_7), .unset, .unset, .unset, .unset, .unset, .unset, .unset, .unset, .unset, .unset, .unset, .unset] []))
            exact J192 TJ177 _ hJ177 XJ177 eJ177 NJ177 (bs5) OJ177 ZJ177 FJ177_0 hl_bs5 HO5 HA5 (fun q => absurd ((own_tlt (show Tn 1 1 from rfl) hwN).mpr q) hc180)
        by_cases hc167 : (0 : Int32) < w10
        · refine Go.by (fun _ => XS.ifNo X7.here hx rfl (hb hby at_167) rfl ((if0 _ _).trans (tlt hc167).2.2.2)) ?_
          show Go p e below P (T7.setTop (mkF m 170 #[.val (.long q0), .second, .val (.long q2), .second, .val (.long q4), .second, .val (.int p6), .val (.int p7), .val (.int p8), .val (.int p9), .val (.int w10), .val (.int t11), .val (.int j12), .val (.int p9), .val (.int ws), .val (.int pr), .val (.int cl), .val (.int tr), .val (.int nn), .val (.ref b1), .val (.int r_6), .val (.int r_7), .unset, .unset, .unset, .unset, .unset, .unset, .unset, .unset, .unset, .unset, .unset, .unset] []))
          refine Go.by (fun _ => XS.aload X7.here hx rfl (hb hby at_170) rfl rfl) ?_
          show Go p e below P (T7.setTop (mkF m 172 #[.val (.long q0), .second, .val (.long q2), .second, .val (.long q4), .second, .val (.int p6), .val (.int p7), .val (.int p8), .val (.int p9), .val (.int w10), .val (.int t11), .val (.int j12), .val (.int p9), .val (.int ws), .val (.int pr), .val (.int cl), .val (.int tr), .val (.int nn), .val (.ref b1), .val (.int r_6), .val (.int r_7), .unset, .unset, .unset, .unset, .unset, .unset, .unset, .unset, .unset, .unset, .unset, .unset] [(.ref b1)]))
          refine Go.by (fun _ => XS.iload X7.here hx rfl (hb hby at_172) rfl) ?_
          show Go p e below P (T7.setTop (mkF m 174 #[.val (.long q0), .second, .val (.long q2), .second, .val (.long q4), .second, .val (.int p6), .val (.int p7), .val (.int p8), .val (.int p9), .val (.int w10), .val (.int t11), .val (.int j12), .val (.int p9), .val (.int ws), .val (.int pr), .val (.int cl), .val (.int tr), .val (.int nn), .val (.ref b1), .val (.int r_6), .val (.int r_7), .unset, .unset, .unset, .unset, .unset, .unset, .unset, .unset, .unset, .unset, .unset, .unset] [(.int ws), (.ref b1)]))
          refine Go.by (fun _ => XS.iload X7.here hx rfl (hb hby at_174) rfl) ?_
          show Go p e below P (T7.setTop (mkF m 176 #[.val (.long q0), .second, .val (.long q2), .second, .val (.long q4), .second, .val (.int p6), .val (.int p7), .val (.int p8), .val (.int p9), .val (.int w10), .val (.int t11), .val (.int j12), .val (.int p9), .val (.int ws), .val (.int pr), .val (.int cl), .val (.int tr), .val (.int nn), .val (.ref b1), .val (.int r_6), .val (.int r_7), .unset, .unset, .unset, .unset, .unset, .unset, .unset, .unset, .unset, .unset, .unset, .unset] [(.int r_6), (.int ws), (.ref b1)]))
          have hj37 : (ws).toInt = ((oN + 16 : Nat) : Int) := hws
          have hi37 : oN + 16 < (bs4).length := (by rw [hl_bs4]; omega)
          obtain ⟨hx37, hy37, hz37⟩ := own_ix hj37 (by rw [hl_bs4]; exact hNB) hi37
          obtain ⟨cl37, Ar37, qc37, Sz37, Ng37, Hs37, Gf37⟩ := id (Fb_bs4)
          have hin37 : ¬ (ws < 0 ∨ cl37.slots.size ≤ (ws).toNatClampNeg) := inb_of Sz37 ⟨hx37, hy37⟩
          obtain ⟨T37, h37, X37, e37, W37, st37⟩ := stB X7 hx hZ eq7 Ar37 (j := ws) hin37 (g := (mkF m 176 #[.val (.long q0), .second, .val (.long q2), .second, .val (.long q4), .second, .val (.int p6), .val (.int p7), .val (.int p8), .val (.int p9), .val (.int w10), .val (.int t11), .val (.int j12), .val (.int p9), .val (.int ws), .val (.int pr), .val (.int cl), .val (.int tr), .val (.int nn), .val (.ref b1), .val (.int r_6), .val (.int r_7), .unset, .unset, .unset, .unset, .unset, .unset, .unset, .unset, .unset, .unset, .unset, .unset] [(.int r_6), (.int ws), (.ref b1)])) rfl rfl (hb hby at_176)
          refine Go.by (fun _ => st37 _) ?_
          have O37 := O4.wr W37 g_b1
          have Z37 : n0 ≤ h37.size := Nat.le_trans Z4 (Keep.of_wr W37).1
          have F38 : Arv Z h37 b1 k1 .byte NB ((bs4.set (oN + 16) r_6).map Value.int) (.int (0 : Int32)) := own_arvB Ar37 qc37 Sz37 Ng37 Hs37 Gf37 W37 hq6_0 (oN + 16) hz37 (by rw [List.length_map]; exact hi37)
          have N37 := Fr.snoc X37 N7 g_b1
          show Go p e below P (T37.setTop (mkF m 177 #[.val (.long q0), .second, .val (.long q2), .second, .val (.long q4), .second, .val (.int p6), .val (.int p7), .val (.int p8), .val (.int p9), .val (.int w10), .val (.int t11), .val (.int j12), .val (.int p9), .val (.int ws), .val (.int pr), .val (.int cl), .val (.int tr), .val (.int nn), .val (.ref b1), .val (.int r_6), .val (.int r_7), .unset, .unset, .unset, .unset, .unset, .unset, .unset, .unset, .unset, .unset, .unset, .unset] []))
          exact J177 T37 _ h37 X37 e37 N37 ((bs4.set (oN + 16) r_6)) O37 Z37 F38 (by rw [List.length_set]; exact hl_bs4) (own_Mt_set HO4 (Or.inr (by have lo : OPN.length = 16 := rfl; omega))) (fun _ => own_gd_eq (by rw [hl_bs4]; omega))
        · refine Go.by (fun _ => XS.ifYes X7.here hx rfl (pc0 := 167) (pc' := 177) rfl (hb hby at_167) rfl ((if0 _ _).trans (flt hc167).2.2.2) (by decide) (by decide)) ?_
          show Go p e below P (T7.setTop (mkF m 177 #[.val (.long q0), .second, .val (.long q2), .second, .val (.long q4), .second, .val (.int p6), .val (.int p7), .val (.int p8), .val (.int p9), .val (.int w10), .val (.int t11), .val (.int j12), .val (.int p9), .val (.int ws), .val (.int pr), .val (.int cl), .val (.int tr), .val (.int nn), .val (.ref b1), .val (.int r_6), .val (.int r_7), .unset, .unset, .unset, .unset, .unset, .unset, .unset, .unset, .unset, .unset, .unset, .unset] []))
          exact J177 T7 _ T4.heap X7 eq7 N7 (bs4) O4 Z4 Fb_bs4 hl_bs4 HO4 (fun q => absurd ((own_tlt (show Tn 0 0 from rfl) hwN).mpr q) hc167)
      by_cases hc125 : (2 : Int32) < p9
      · refine Go.by (fun _ => XS.icmpNo XJ122.here hx rfl (hb hby at_125) rfl (tlt hc125).2.2.2) ?_
        show Go p e below P (TJ122.setTop (mkF m 128 #[.val (.long q0), .second, .val (.long q2), .second, .val (.long q4), .second, .val (.int p6), .val (.int p7), .val (.int p8), .val (.int p9), .val (.int w10), .val (.int t11), .val (.int j12), .val (.int p9), .val (.int ws), .val (.int pr), .val (.int cl), .val (.int tr), .val (.int nn), .val (.ref b1), .unset, .unset, .unset, .unset, .unset, .unset, .unset, .unset, .unset, .unset, .unset, .unset, .unset, .unset] []))
        refine Go.by (fun _ => XS.aload XJ122.here hx rfl (hb hby at_128) rfl rfl) ?_
        show Go p e below P (TJ122.setTop (mkF m 130 #[.val (.long q0), .second, .val (.long q2), .second, .val (.long q4), .second, .val (.int p6), .val (.int p7), .val (.int p8), .val (.int p9), .val (.int w10), .val (.int t11), .val (.int j12), .val (.int p9), .val (.int ws), .val (.int pr), .val (.int cl), .val (.int tr), .val (.int nn), .val (.ref b1), .unset, .unset, .unset, .unset, .unset, .unset, .unset, .unset, .unset, .unset, .unset, .unset, .unset, .unset] [(.ref b1)]))
        refine Go.by (fun _ => XS.iconst XJ122.here hx rfl (hb hby at_130)) ?_
        show Go p e below P (TJ122.setTop (mkF m 131 #[.val (.long q0), .second, .val (.long q2), .second, .val (.long q4), .second, .val (.int p6), .val (.int p7), .val (.int p8), .val (.int p9), .val (.int w10), .val (.int t11), .val (.int j12), .val (.int p9), .val (.int ws), .val (.int pr), .val (.int cl), .val (.int tr), .val (.int nn), .val (.ref b1), .unset, .unset, .unset, .unset, .unset, .unset, .unset, .unset, .unset, .unset, .unset, .unset, .unset, .unset] [(.int (2 : Int32)), (.ref b1)]))
        refine Go.by (fun _ => XS.lloadN XJ122.here hx rfl (hb hby at_131) rfl) ?_
        show Go p e below P (TJ122.setTop (mkF m 132 #[.val (.long q0), .second, .val (.long q2), .second, .val (.long q4), .second, .val (.int p6), .val (.int p7), .val (.int p8), .val (.int p9), .val (.int w10), .val (.int t11), .val (.int j12), .val (.int p9), .val (.int ws), .val (.int pr), .val (.int cl), .val (.int tr), .val (.int nn), .val (.ref b1), .unset, .unset, .unset, .unset, .unset, .unset, .unset, .unset, .unset, .unset, .unset, .unset, .unset, .unset] [(.long q0), (.int (2 : Int32)), (.ref b1)]))
        refine Go.by (fun _ => XS.bipush XJ122.here hx rfl (hb hby at_132)) ?_
        show Go p e below P (TJ122.setTop (mkF m 134 #[.val (.long q0), .second, .val (.long q2), .second, .val (.long q4), .second, .val (.int p6), .val (.int p7), .val (.int p8), .val (.int p9), .val (.int w10), .val (.int t11), .val (.int j12), .val (.int p9), .val (.int ws), .val (.int pr), .val (.int cl), .val (.int tr), .val (.int nn), .val (.ref b1), .unset, .unset, .unset, .unset, .unset, .unset, .unset, .unset, .unset, .unset, .unset, .unset, .unset, .unset] [(.int (24 : Int32)), (.long q0), (.int (2 : Int32)), (.ref b1)]))
        refine Go.by (fun _ => XS.lushr XJ122.here hx rfl (hb hby at_134) rfl) ?_
        show Go p e below P (TJ122.setTop (mkF m 135 #[.val (.long q0), .second, .val (.long q2), .second, .val (.long q4), .second, .val (.int p6), .val (.int p7), .val (.int p8), .val (.int p9), .val (.int w10), .val (.int t11), .val (.int j12), .val (.int p9), .val (.int ws), .val (.int pr), .val (.int cl), .val (.int tr), .val (.int nn), .val (.ref b1), .unset, .unset, .unset, .unset, .unset, .unset, .unset, .unset, .unset, .unset, .unset, .unset, .unset, .unset] [(.long (((q0).toUInt64 >>> ((24 : Int32) &&& 0x3f).toInt64.toUInt64).toInt64)), (.int (2 : Int32)), (.ref b1)]))
        refine Go.by (fun _ => XS.l2i XJ122.here hx rfl (hb hby at_135) rfl) ?_
        show Go p e below P (TJ122.setTop (mkF m 136 #[.val (.long q0), .second, .val (.long q2), .second, .val (.long q4), .second, .val (.int p6), .val (.int p7), .val (.int p8), .val (.int p9), .val (.int w10), .val (.int t11), .val (.int j12), .val (.int p9), .val (.int ws), .val (.int pr), .val (.int cl), .val (.int tr), .val (.int nn), .val (.ref b1), .unset, .unset, .unset, .unset, .unset, .unset, .unset, .unset, .unset, .unset, .unset, .unset, .unset, .unset] [(.int (((((q0).toUInt64 >>> ((24 : Int32) &&& 0x3f).toInt64.toUInt64).toInt64)).toInt32)), (.int (2 : Int32)), (.ref b1)]))
        refine Go.by (fun _ => XS.i2b XJ122.here hx rfl (hb hby at_136) rfl) ?_
        show Go p e below P (TJ122.setTop (mkF m 137 #[.val (.long q0), .second, .val (.long q2), .second, .val (.long q4), .second, .val (.int p6), .val (.int p7), .val (.int p8), .val (.int p9), .val (.int w10), .val (.int t11), .val (.int j12), .val (.int p9), .val (.int ws), .val (.int pr), .val (.int cl), .val (.int tr), .val (.int nn), .val (.ref b1), .unset, .unset, .unset, .unset, .unset, .unset, .unset, .unset, .unset, .unset, .unset, .unset, .unset, .unset] [(.int (((((((q0).toUInt64 >>> ((24 : Int32) &&& 0x3f).toInt64.toUInt64).toInt64)).toInt32)).toInt8.toInt32)), (.int (2 : Int32)), (.ref b1)]))
        have hj39 : ((2 : Int32)).toInt = ((2 : Nat) : Int) := (by decide)
        have hi39 : 2 < (bs2).length := (by rw [hl_bs2]; omega)
        obtain ⟨hx39, hy39, hz39⟩ := own_ix hj39 (by rw [hl_bs2]; exact hNB) hi39
        obtain ⟨cl39, Ar39, qc39, Sz39, Ng39, Hs39, Gf39⟩ := id (FJ122_0)
        have hin39 : ¬ ((2 : Int32) < 0 ∨ cl39.slots.size ≤ ((2 : Int32)).toNatClampNeg) := inb_of Sz39 ⟨hx39, hy39⟩
        obtain ⟨T39, h39, X39, e39, W39, st39⟩ := stB XJ122 hx hZ eJ122 Ar39 (j := (2 : Int32)) hin39 (g := (mkF m 137 #[.val (.long q0), .second, .val (.long q2), .second, .val (.long q4), .second, .val (.int p6), .val (.int p7), .val (.int p8), .val (.int p9), .val (.int w10), .val (.int t11), .val (.int j12), .val (.int p9), .val (.int ws), .val (.int pr), .val (.int cl), .val (.int tr), .val (.int nn), .val (.ref b1), .unset, .unset, .unset, .unset, .unset, .unset, .unset, .unset, .unset, .unset, .unset, .unset, .unset, .unset] [(.int (((((((q0).toUInt64 >>> ((24 : Int32) &&& 0x3f).toInt64.toUInt64).toInt64)).toInt32)).toInt8.toInt32)), (.int (2 : Int32)), (.ref b1)])) rfl rfl (hb hby at_137)
        refine Go.by (fun _ => st39 _) ?_
        have O39 := OJ122.wr W39 g_b1
        have Z39 : n0 ≤ h39.size := Nat.le_trans ZJ122 (Keep.of_wr W39).1
        have F40 : Arv Z h39 b1 k1 .byte NB ((bs2.set (2) (nar .byte (((((((q0).toUInt64 >>> ((24 : Int32) &&& 0x3f).toInt64.toUInt64).toInt64)).toInt32)).toInt8.toInt32))).map Value.int) (.int (0 : Int32)) := own_arvB Ar39 qc39 Sz39 Ng39 Hs39 Gf39 W39 rfl (2) hz39 (by rw [List.length_map]; exact hi39)
        have N39 := Fr.snoc X39 NJ122 g_b1
        show Go p e below P (T39.setTop (mkF m 138 #[.val (.long q0), .second, .val (.long q2), .second, .val (.long q4), .second, .val (.int p6), .val (.int p7), .val (.int p8), .val (.int p9), .val (.int w10), .val (.int t11), .val (.int j12), .val (.int p9), .val (.int ws), .val (.int pr), .val (.int cl), .val (.int tr), .val (.int nn), .val (.ref b1), .unset, .unset, .unset, .unset, .unset, .unset, .unset, .unset, .unset, .unset, .unset, .unset, .unset, .unset] []))
        exact J138 T39 _ h39 X39 e39 N39 ((bs2.set (2) (nar .byte (((((((q0).toUInt64 >>> ((24 : Int32) &&& 0x3f).toInt64.toUInt64).toInt64)).toInt32)).toInt8.toInt32)))) O39 Z39 F40 (by rw [List.length_set]; exact hl_bs2)
      · refine Go.by (fun _ => XS.icmpYes XJ122.here hx rfl (pc0 := 125) (pc' := 138) rfl (hb hby at_125) rfl (flt hc125).2.2.2 (by decide) (by decide)) ?_
        show Go p e below P (TJ122.setTop (mkF m 138 #[.val (.long q0), .second, .val (.long q2), .second, .val (.long q4), .second, .val (.int p6), .val (.int p7), .val (.int p8), .val (.int p9), .val (.int w10), .val (.int t11), .val (.int j12), .val (.int p9), .val (.int ws), .val (.int pr), .val (.int cl), .val (.int tr), .val (.int nn), .val (.ref b1), .unset, .unset, .unset, .unset, .unset, .unset, .unset, .unset, .unset, .unset, .unset, .unset, .unset, .unset] []))
        exact J138 TJ122 _ hJ122 XJ122 eJ122 NJ122 (bs2) OJ122 ZJ122 FJ122_0 hl_bs2
    by_cases hc109 : (1 : Int32) < p9
    · refine Go.by (fun _ => XS.icmpNo XJ106.here hx rfl (hb hby at_109) rfl (tlt hc109).2.2.2) ?_
      show Go p e below P (TJ106.setTop (mkF m 112 #[.val (.long q0), .second, .val (.long q2), .second, .val (.long q4), .second, .val (.int p6), .val (.int p7), .val (.int p8), .val (.int p9), .val (.int w10), .val (.int t11), .val (.int j12), .val (.int p9), .val (.int ws), .val (.int pr), .val (.int cl), .val (.int tr), .val (.int nn), .val (.ref b1), .unset, .unset, .unset, .unset, .unset, .unset, .unset, .unset, .unset, .unset, .unset, .unset, .unset, .unset] []))
      refine Go.by (fun _ => XS.aload XJ106.here hx rfl (hb hby at_112) rfl rfl) ?_
      show Go p e below P (TJ106.setTop (mkF m 114 #[.val (.long q0), .second, .val (.long q2), .second, .val (.long q4), .second, .val (.int p6), .val (.int p7), .val (.int p8), .val (.int p9), .val (.int w10), .val (.int t11), .val (.int j12), .val (.int p9), .val (.int ws), .val (.int pr), .val (.int cl), .val (.int tr), .val (.int nn), .val (.ref b1), .unset, .unset, .unset, .unset, .unset, .unset, .unset, .unset, .unset, .unset, .unset, .unset, .unset, .unset] [(.ref b1)]))
      refine Go.by (fun _ => XS.iconst XJ106.here hx rfl (hb hby at_114)) ?_
      show Go p e below P (TJ106.setTop (mkF m 115 #[.val (.long q0), .second, .val (.long q2), .second, .val (.long q4), .second, .val (.int p6), .val (.int p7), .val (.int p8), .val (.int p9), .val (.int w10), .val (.int t11), .val (.int j12), .val (.int p9), .val (.int ws), .val (.int pr), .val (.int cl), .val (.int tr), .val (.int nn), .val (.ref b1), .unset, .unset, .unset, .unset, .unset, .unset, .unset, .unset, .unset, .unset, .unset, .unset, .unset, .unset] [(.int (1 : Int32)), (.ref b1)]))
      refine Go.by (fun _ => XS.lloadN XJ106.here hx rfl (hb hby at_115) rfl) ?_
      show Go p e below P (TJ106.setTop (mkF m 116 #[.val (.long q0), .second, .val (.long q2), .second, .val (.long q4), .second, .val (.int p6), .val (.int p7), .val (.int p8), .val (.int p9), .val (.int w10), .val (.int t11), .val (.int j12), .val (.int p9), .val (.int ws), .val (.int pr), .val (.int cl), .val (.int tr), .val (.int nn), .val (.ref b1), .unset, .unset, .unset, .unset, .unset, .unset, .unset, .unset, .unset, .unset, .unset, .unset, .unset, .unset] [(.long q0), (.int (1 : Int32)), (.ref b1)]))
      refine Go.by (fun _ => XS.bipush XJ106.here hx rfl (hb hby at_116)) ?_
      show Go p e below P (TJ106.setTop (mkF m 118 #[.val (.long q0), .second, .val (.long q2), .second, .val (.long q4), .second, .val (.int p6), .val (.int p7), .val (.int p8), .val (.int p9), .val (.int w10), .val (.int t11), .val (.int j12), .val (.int p9), .val (.int ws), .val (.int pr), .val (.int cl), .val (.int tr), .val (.int nn), .val (.ref b1), .unset, .unset, .unset, .unset, .unset, .unset, .unset, .unset, .unset, .unset, .unset, .unset, .unset, .unset] [(.int (16 : Int32)), (.long q0), (.int (1 : Int32)), (.ref b1)]))
      refine Go.by (fun _ => XS.lushr XJ106.here hx rfl (hb hby at_118) rfl) ?_
      show Go p e below P (TJ106.setTop (mkF m 119 #[.val (.long q0), .second, .val (.long q2), .second, .val (.long q4), .second, .val (.int p6), .val (.int p7), .val (.int p8), .val (.int p9), .val (.int w10), .val (.int t11), .val (.int j12), .val (.int p9), .val (.int ws), .val (.int pr), .val (.int cl), .val (.int tr), .val (.int nn), .val (.ref b1), .unset, .unset, .unset, .unset, .unset, .unset, .unset, .unset, .unset, .unset, .unset, .unset, .unset, .unset] [(.long (((q0).toUInt64 >>> ((16 : Int32) &&& 0x3f).toInt64.toUInt64).toInt64)), (.int (1 : Int32)), (.ref b1)]))
      refine Go.by (fun _ => XS.l2i XJ106.here hx rfl (hb hby at_119) rfl) ?_
      show Go p e below P (TJ106.setTop (mkF m 120 #[.val (.long q0), .second, .val (.long q2), .second, .val (.long q4), .second, .val (.int p6), .val (.int p7), .val (.int p8), .val (.int p9), .val (.int w10), .val (.int t11), .val (.int j12), .val (.int p9), .val (.int ws), .val (.int pr), .val (.int cl), .val (.int tr), .val (.int nn), .val (.ref b1), .unset, .unset, .unset, .unset, .unset, .unset, .unset, .unset, .unset, .unset, .unset, .unset, .unset, .unset] [(.int (((((q0).toUInt64 >>> ((16 : Int32) &&& 0x3f).toInt64.toUInt64).toInt64)).toInt32)), (.int (1 : Int32)), (.ref b1)]))
      refine Go.by (fun _ => XS.i2b XJ106.here hx rfl (hb hby at_120) rfl) ?_
      show Go p e below P (TJ106.setTop (mkF m 121 #[.val (.long q0), .second, .val (.long q2), .second, .val (.long q4), .second, .val (.int p6), .val (.int p7), .val (.int p8), .val (.int p9), .val (.int w10), .val (.int t11), .val (.int j12), .val (.int p9), .val (.int ws), .val (.int pr), .val (.int cl), .val (.int tr), .val (.int nn), .val (.ref b1), .unset, .unset, .unset, .unset, .unset, .unset, .unset, .unset, .unset, .unset, .unset, .unset, .unset, .unset] [(.int (((((((q0).toUInt64 >>> ((16 : Int32) &&& 0x3f).toInt64.toUInt64).toInt64)).toInt32)).toInt8.toInt32)), (.int (1 : Int32)), (.ref b1)]))
      have hj41 : ((1 : Int32)).toInt = ((1 : Nat) : Int) := (by decide)
      have hi41 : 1 < (bs1).length := (by rw [hl_bs1]; omega)
      obtain ⟨hx41, hy41, hz41⟩ := own_ix hj41 (by rw [hl_bs1]; exact hNB) hi41
      obtain ⟨cl41, Ar41, qc41, Sz41, Ng41, Hs41, Gf41⟩ := id (FJ106_0)
      have hin41 : ¬ ((1 : Int32) < 0 ∨ cl41.slots.size ≤ ((1 : Int32)).toNatClampNeg) := inb_of Sz41 ⟨hx41, hy41⟩
      obtain ⟨T41, h41, X41, e41, W41, st41⟩ := stB XJ106 hx hZ eJ106 Ar41 (j := (1 : Int32)) hin41 (g := (mkF m 121 #[.val (.long q0), .second, .val (.long q2), .second, .val (.long q4), .second, .val (.int p6), .val (.int p7), .val (.int p8), .val (.int p9), .val (.int w10), .val (.int t11), .val (.int j12), .val (.int p9), .val (.int ws), .val (.int pr), .val (.int cl), .val (.int tr), .val (.int nn), .val (.ref b1), .unset, .unset, .unset, .unset, .unset, .unset, .unset, .unset, .unset, .unset, .unset, .unset, .unset, .unset] [(.int (((((((q0).toUInt64 >>> ((16 : Int32) &&& 0x3f).toInt64.toUInt64).toInt64)).toInt32)).toInt8.toInt32)), (.int (1 : Int32)), (.ref b1)])) rfl rfl (hb hby at_121)
      refine Go.by (fun _ => st41 _) ?_
      have O41 := OJ106.wr W41 g_b1
      have Z41 : n0 ≤ h41.size := Nat.le_trans ZJ106 (Keep.of_wr W41).1
      have F42 : Arv Z h41 b1 k1 .byte NB ((bs1.set (1) (nar .byte (((((((q0).toUInt64 >>> ((16 : Int32) &&& 0x3f).toInt64.toUInt64).toInt64)).toInt32)).toInt8.toInt32))).map Value.int) (.int (0 : Int32)) := own_arvB Ar41 qc41 Sz41 Ng41 Hs41 Gf41 W41 rfl (1) hz41 (by rw [List.length_map]; exact hi41)
      have N41 := Fr.snoc X41 NJ106 g_b1
      show Go p e below P (T41.setTop (mkF m 122 #[.val (.long q0), .second, .val (.long q2), .second, .val (.long q4), .second, .val (.int p6), .val (.int p7), .val (.int p8), .val (.int p9), .val (.int w10), .val (.int t11), .val (.int j12), .val (.int p9), .val (.int ws), .val (.int pr), .val (.int cl), .val (.int tr), .val (.int nn), .val (.ref b1), .unset, .unset, .unset, .unset, .unset, .unset, .unset, .unset, .unset, .unset, .unset, .unset, .unset, .unset] []))
      exact J122 T41 _ h41 X41 e41 N41 ((bs1.set (1) (nar .byte (((((((q0).toUInt64 >>> ((16 : Int32) &&& 0x3f).toInt64.toUInt64).toInt64)).toInt32)).toInt8.toInt32)))) O41 Z41 F42 (by rw [List.length_set]; exact hl_bs1)
    · refine Go.by (fun _ => XS.icmpYes XJ106.here hx rfl (pc0 := 109) (pc' := 122) rfl (hb hby at_109) rfl (flt hc109).2.2.2 (by decide) (by decide)) ?_
      show Go p e below P (TJ106.setTop (mkF m 122 #[.val (.long q0), .second, .val (.long q2), .second, .val (.long q4), .second, .val (.int p6), .val (.int p7), .val (.int p8), .val (.int p9), .val (.int w10), .val (.int t11), .val (.int j12), .val (.int p9), .val (.int ws), .val (.int pr), .val (.int cl), .val (.int tr), .val (.int nn), .val (.ref b1), .unset, .unset, .unset, .unset, .unset, .unset, .unset, .unset, .unset, .unset, .unset, .unset, .unset, .unset] []))
      exact J122 TJ106 _ hJ106 XJ106 eJ106 NJ106 (bs1) OJ106 ZJ106 FJ106_0 hl_bs1
  by_cases hc93 : (0 : Int32) < p9
  · refine Go.by (fun _ => XS.ifNo X1.here hx rfl (hb hby at_93) rfl ((if0 _ _).trans (tlt hc93).2.2.2)) ?_
    show Go p e below P (T1.setTop (mkF m 96 #[.val (.long q0), .second, .val (.long q2), .second, .val (.long q4), .second, .val (.int p6), .val (.int p7), .val (.int p8), .val (.int p9), .val (.int w10), .val (.int t11), .val (.int j12), .val (.int p9), .val (.int ws), .val (.int pr), .val (.int cl), .val (.int tr), .val (.int nn), .val (.ref b1), .unset, .unset, .unset, .unset, .unset, .unset, .unset, .unset, .unset, .unset, .unset, .unset, .unset, .unset] []))
    refine Go.by (fun _ => XS.aload X1.here hx rfl (hb hby at_96) rfl rfl) ?_
    show Go p e below P (T1.setTop (mkF m 98 #[.val (.long q0), .second, .val (.long q2), .second, .val (.long q4), .second, .val (.int p6), .val (.int p7), .val (.int p8), .val (.int p9), .val (.int w10), .val (.int t11), .val (.int j12), .val (.int p9), .val (.int ws), .val (.int pr), .val (.int cl), .val (.int tr), .val (.int nn), .val (.ref b1), .unset, .unset, .unset, .unset, .unset, .unset, .unset, .unset, .unset, .unset, .unset, .unset, .unset, .unset] [(.ref b1)]))
    refine Go.by (fun _ => XS.iconst X1.here hx rfl (hb hby at_98)) ?_
    show Go p e below P (T1.setTop (mkF m 99 #[.val (.long q0), .second, .val (.long q2), .second, .val (.long q4), .second, .val (.int p6), .val (.int p7), .val (.int p8), .val (.int p9), .val (.int w10), .val (.int t11), .val (.int j12), .val (.int p9), .val (.int ws), .val (.int pr), .val (.int cl), .val (.int tr), .val (.int nn), .val (.ref b1), .unset, .unset, .unset, .unset, .unset, .unset, .unset, .unset, .unset, .unset, .unset, .unset, .unset, .unset] [(.int (0 : Int32)), (.ref b1)]))
    refine Go.by (fun _ => XS.lloadN X1.here hx rfl (hb hby at_99) rfl) ?_
    show Go p e below P (T1.setTop (mkF m 100 #[.val (.long q0), .second, .val (.long q2), .second, .val (.long q4), .second, .val (.int p6), .val (.int p7), .val (.int p8), .val (.int p9), .val (.int w10), .val (.int t11), .val (.int j12), .val (.int p9), .val (.int ws), .val (.int pr), .val (.int cl), .val (.int tr), .val (.int nn), .val (.ref b1), .unset, .unset, .unset, .unset, .unset, .unset, .unset, .unset, .unset, .unset, .unset, .unset, .unset, .unset] [(.long q0), (.int (0 : Int32)), (.ref b1)]))
    refine Go.by (fun _ => XS.bipush X1.here hx rfl (hb hby at_100)) ?_
    show Go p e below P (T1.setTop (mkF m 102 #[.val (.long q0), .second, .val (.long q2), .second, .val (.long q4), .second, .val (.int p6), .val (.int p7), .val (.int p8), .val (.int p9), .val (.int w10), .val (.int t11), .val (.int j12), .val (.int p9), .val (.int ws), .val (.int pr), .val (.int cl), .val (.int tr), .val (.int nn), .val (.ref b1), .unset, .unset, .unset, .unset, .unset, .unset, .unset, .unset, .unset, .unset, .unset, .unset, .unset, .unset] [(.int (8 : Int32)), (.long q0), (.int (0 : Int32)), (.ref b1)]))
    refine Go.by (fun _ => XS.lushr X1.here hx rfl (hb hby at_102) rfl) ?_
    show Go p e below P (T1.setTop (mkF m 103 #[.val (.long q0), .second, .val (.long q2), .second, .val (.long q4), .second, .val (.int p6), .val (.int p7), .val (.int p8), .val (.int p9), .val (.int w10), .val (.int t11), .val (.int j12), .val (.int p9), .val (.int ws), .val (.int pr), .val (.int cl), .val (.int tr), .val (.int nn), .val (.ref b1), .unset, .unset, .unset, .unset, .unset, .unset, .unset, .unset, .unset, .unset, .unset, .unset, .unset, .unset] [(.long (((q0).toUInt64 >>> ((8 : Int32) &&& 0x3f).toInt64.toUInt64).toInt64)), (.int (0 : Int32)), (.ref b1)]))
    refine Go.by (fun _ => XS.l2i X1.here hx rfl (hb hby at_103) rfl) ?_
    show Go p e below P (T1.setTop (mkF m 104 #[.val (.long q0), .second, .val (.long q2), .second, .val (.long q4), .second, .val (.int p6), .val (.int p7), .val (.int p8), .val (.int p9), .val (.int w10), .val (.int t11), .val (.int j12), .val (.int p9), .val (.int ws), .val (.int pr), .val (.int cl), .val (.int tr), .val (.int nn), .val (.ref b1), .unset, .unset, .unset, .unset, .unset, .unset, .unset, .unset, .unset, .unset, .unset, .unset, .unset, .unset] [(.int (((((q0).toUInt64 >>> ((8 : Int32) &&& 0x3f).toInt64.toUInt64).toInt64)).toInt32)), (.int (0 : Int32)), (.ref b1)]))
    refine Go.by (fun _ => XS.i2b X1.here hx rfl (hb hby at_104) rfl) ?_
    show Go p e below P (T1.setTop (mkF m 105 #[.val (.long q0), .second, .val (.long q2), .second, .val (.long q4), .second, .val (.int p6), .val (.int p7), .val (.int p8), .val (.int p9), .val (.int w10), .val (.int t11), .val (.int j12), .val (.int p9), .val (.int ws), .val (.int pr), .val (.int cl), .val (.int tr), .val (.int nn), .val (.ref b1), .unset, .unset, .unset, .unset, .unset, .unset, .unset, .unset, .unset, .unset, .unset, .unset, .unset, .unset] [(.int (((((((q0).toUInt64 >>> ((8 : Int32) &&& 0x3f).toInt64.toUInt64).toInt64)).toInt32)).toInt8.toInt32)), (.int (0 : Int32)), (.ref b1)]))
    have hj43 : ((0 : Int32)).toInt = ((0 : Nat) : Int) := (by decide)
    have hi43 : 0 < (bs0).length := (by rw [hl0]; omega)
    obtain ⟨hx43, hy43, hz43⟩ := own_ix hj43 (by rw [hl0]; exact hNB) hi43
    obtain ⟨cl43, Ar43, qc43, Sz43, Ng43, Hs43, Gf43⟩ := id (Fb_bs0)
    have hin43 : ¬ ((0 : Int32) < 0 ∨ cl43.slots.size ≤ ((0 : Int32)).toNatClampNeg) := inb_of Sz43 ⟨hx43, hy43⟩
    obtain ⟨T43, h43, X43, e43, W43, st43⟩ := stB X1 hx hZ e1 Ar43 (j := (0 : Int32)) hin43 (g := (mkF m 105 #[.val (.long q0), .second, .val (.long q2), .second, .val (.long q4), .second, .val (.int p6), .val (.int p7), .val (.int p8), .val (.int p9), .val (.int w10), .val (.int t11), .val (.int j12), .val (.int p9), .val (.int ws), .val (.int pr), .val (.int cl), .val (.int tr), .val (.int nn), .val (.ref b1), .unset, .unset, .unset, .unset, .unset, .unset, .unset, .unset, .unset, .unset, .unset, .unset, .unset, .unset] [(.int (((((((q0).toUInt64 >>> ((8 : Int32) &&& 0x3f).toInt64.toUInt64).toInt64)).toInt32)).toInt8.toInt32)), (.int (0 : Int32)), (.ref b1)])) rfl rfl (hb hby at_105)
    refine Go.by (fun _ => st43 _) ?_
    have O43 := O1.wr W43 g_b1
    have Z43 : n0 ≤ h43.size := Nat.le_trans Z1 (Keep.of_wr W43).1
    have F44 : Arv Z h43 b1 k1 .byte NB ((bs0.set (0) (nar .byte (((((((q0).toUInt64 >>> ((8 : Int32) &&& 0x3f).toInt64.toUInt64).toInt64)).toInt32)).toInt8.toInt32))).map Value.int) (.int (0 : Int32)) := own_arvB Ar43 qc43 Sz43 Ng43 Hs43 Gf43 W43 rfl (0) hz43 (by rw [List.length_map]; exact hi43)
    have N43 := Fr.snoc X43 N0 g_b1
    show Go p e below P (T43.setTop (mkF m 106 #[.val (.long q0), .second, .val (.long q2), .second, .val (.long q4), .second, .val (.int p6), .val (.int p7), .val (.int p8), .val (.int p9), .val (.int w10), .val (.int t11), .val (.int j12), .val (.int p9), .val (.int ws), .val (.int pr), .val (.int cl), .val (.int tr), .val (.int nn), .val (.ref b1), .unset, .unset, .unset, .unset, .unset, .unset, .unset, .unset, .unset, .unset, .unset, .unset, .unset, .unset] []))
    exact J106 T43 _ h43 X43 e43 N43 ((bs0.set (0) (nar .byte (((((((q0).toUInt64 >>> ((8 : Int32) &&& 0x3f).toInt64.toUInt64).toInt64)).toInt32)).toInt8.toInt32)))) O43 Z43 F44 (by rw [List.length_set]; exact hl0)
  · refine Go.by (fun _ => XS.ifYes X1.here hx rfl (pc0 := 93) (pc' := 106) rfl (hb hby at_93) rfl ((if0 _ _).trans (flt hc93).2.2.2) (by decide) (by decide)) ?_
    show Go p e below P (T1.setTop (mkF m 106 #[.val (.long q0), .second, .val (.long q2), .second, .val (.long q4), .second, .val (.int p6), .val (.int p7), .val (.int p8), .val (.int p9), .val (.int w10), .val (.int t11), .val (.int j12), .val (.int p9), .val (.int ws), .val (.int pr), .val (.int cl), .val (.int tr), .val (.int nn), .val (.ref b1), .unset, .unset, .unset, .unset, .unset, .unset, .unset, .unset, .unset, .unset, .unset, .unset, .unset, .unset] []))
    exact J106 T1 _ h1 X1 e1 N0 (bs0) O1 Z1 Fb_bs0 hl0
set_option maxRecDepth 65536 in
set_option maxHeartbeats 40000000 in
theorem comes_1 {Post : Tables → Env → Array Value → State → Outcome → State → Prop} (hpost : ∀ tb e args s v u, (limb_1_1.after args s (.returned v) u = true ∧ limb_1_2.after args s (.returned v) u = true ∧ True) → FrameEnd s (.returned v) u (Jvm.fieldLocs frame_1_writes args s ++ Jvm.arrayLocs frame_1_arrays args s ++ Jvm.staticLocs frame_1_statics s) 16 192 → Post tb e args s (.returned v) u) :
    ArmFor flags0 classFile x code maxLocals ret World_1 tables_1 room_1 Calls_1 rest_1 Pre_1 Post := by
  intro l hfl _ _ p e ha hc hk s m args below hf hA hF happ hP
  obtain ⟨hcalls, hrest, hpre⟩ := hP
  obtain ⟨-, -, -, hnamed, -, -, -, hat⟩ := (Spec.applies_iff hf).mp happ
  obtain ⟨hg, hn⟩ := and_e (Cond.before_iff.mp (show (Jvm.Cond.and given_1 narrow_1).before args s = true from hpre))
  obtain ⟨hg0, hr0⟩ := and_e hg
  obtain ⟨hg1, hr1⟩ := and_e hr0
  obtain ⟨hg2, hr2⟩ := and_e hr1
  obtain ⟨hg3, hr3⟩ := and_e hr2
  obtain ⟨hg4, hr4⟩ := and_e hr3
  obtain ⟨hg5, hr5⟩ := and_e hr4
  obtain ⟨w0, w1, w2, w3, w4, w5, rfl⟩ : ∃ w0 w1 w2 w3 w4 w5 : Value, args = #[w0, w1, w2, w3, w4, w5] := by
    have hs : args.size = 6 := by simpa [Cond.value, given_1] using hg0
    obtain ⟨L⟩ := args
    match L, hs with
    | [w0, w1, w2, w3, w4, w5], _ => exact ⟨w0, w1, w2, w3, w4, w5, rfl⟩
  have hw := fun d (hd : d ∈ tables_1) => atoms_spec (ws := Jvm.Cond.code x code maxLocals ret :: tables_1) hat d (List.mem_cons_of_mem _ hd)
  have hfit : Fit s := fun {y c} hc i hi => by
    obtain ⟨ha, rfl⟩ := Array.getElem?_eq_some_iff.mp hc
    have q := List.all_eq_true.mp ((Array.all_eq_true_iff_forall_mem.mp hF) _ (Array.getElem_mem ha)) i (List.mem_range.mpr hi)
    simpa [Array.getElem?_eq_getElem hi] using q
  obtain ⟨i0, ei0⟩ := isL_v hg1
  obtain rfl : w0 = (.long i0) := Option.some.inj ei0
  obtain ⟨i1, ei1⟩ := isL_v hg2
  obtain rfl : w1 = (.long i1) := Option.some.inj ei1
  obtain ⟨i2, ei2⟩ := isL_v hg3
  obtain rfl : w2 = (.long i2) := Option.some.inj ei2
  obtain ⟨i3, ei3⟩ := is_v hg4
  obtain rfl : w3 = (.int i3) := Option.some.inj ei3
  obtain ⟨i4, ei4⟩ := is_v hg5
  obtain rfl : w4 = (.int i4) := Option.some.inj ei4
  obtain ⟨i5, ei5⟩ := is_v hr5
  obtain rfl : w5 = (.int i5) := Option.some.inj ei5
  obtain ⟨nn0, nn_r0⟩ := and_e hn
  obtain ⟨nn1, nn_r1⟩ := and_e nn_r0
  obtain ⟨nn2, nn_r2⟩ := and_e nn_r1
  obtain ⟨nn3, nn_r3⟩ := and_e nn_r2
  obtain ⟨nn4, nn_r4⟩ := and_e nn_r3
  obtain ⟨nn5, nn_r5⟩ := and_e nn_r4
  obtain ⟨nn6, nn_r6⟩ := and_e nn_r5
  obtain ⟨nn7, nn_r7⟩ := and_e nn_r6
  obtain ⟨nn8, nn_r8⟩ := and_e nn_r7
  obtain ⟨nn9, nn_r9⟩ := and_e nn_r8
  obtain ⟨nn10, nn_r10⟩ := and_e nn_r9
  obtain ⟨nn11, nn_r11⟩ := and_e nn_r10
  obtain ⟨nn12, nn_r12⟩ := and_e nn_r11
  obtain ⟨nn13, nn_r13⟩ := and_e nn_r12
  obtain ⟨nn14, nn_r14⟩ := and_e nn_r13
  obtain ⟨nn15, nn_r15⟩ := and_e nn_r14
  obtain ⟨nn16, nn_r16⟩ := and_e nn_r15
  obtain ⟨nn17, nn_r17⟩ := and_e nn_r16
  obtain ⟨nn18, nn_r18⟩ := and_e nn_r17
  obtain ⟨nn19, nn_r19⟩ := and_e nn_r18
  obtain ⟨nn20, nn_r20⟩ := and_e nn_r19
  obtain ⟨nn21, nn_r21⟩ := and_e nn_r20
  obtain ⟨nn22, nn_r22⟩ := and_e nn_r21
  obtain ⟨nn23, nn_r23⟩ := and_e nn_r22
  obtain ⟨nn24, nn_r24⟩ := and_e nn_r23
  obtain ⟨nn25, nn_r25⟩ := and_e nn_r24
  obtain ⟨nn26, nn_r26⟩ := and_e nn_r25
  obtain ⟨nn27, nn_r27⟩ := and_e nn_r26
  obtain ⟨nn28, nn_r28⟩ := and_e nn_r27
  obtain ⟨nn29, nn_r29⟩ := and_e nn_r28
  obtain ⟨nn30, nn_r30⟩ := and_e nn_r29
  obtain ⟨nn31, nn_r31⟩ := and_e nn_r30
  obtain ⟨nn32, nn_r32⟩ := and_e nn_r31
  obtain ⟨nn33, nn_r33⟩ := and_e nn_r32
  obtain ⟨nn34, nn_r34⟩ := and_e nn_r33
  obtain ⟨nn35, nn_r35⟩ := and_e nn_r34
  obtain ⟨nn36, nn_r36⟩ := and_e nn_r35
  obtain ⟨nn37, nn_r37⟩ := and_e nn_r36
  obtain ⟨nn38, nn_r38⟩ := and_e nn_r37
  obtain ⟨nn39, nn_r39⟩ := and_e nn_r38
  obtain ⟨nn40, nn_r40⟩ := and_e nn_r39
  obtain ⟨nn41, nn_r41⟩ := and_e nn_r40
  obtain ⟨nn42, nn_r42⟩ := and_e nn_r41
  obtain ⟨nn43, nn_r43⟩ := and_e nn_r42
  obtain ⟨nn44, nn_r44⟩ := and_e nn_r43
  obtain ⟨nn45, nn_r45⟩ := and_e nn_r44
  obtain ⟨wOPEN, eOPEN⟩ := arr_v nn0
  obtain ⟨kOPEN, AOPEN⟩ := own_arvS (ws := OPN) eOPEN nn0 nn1 rfl (fun k hk => by
      match k, hk with
      | 0, _ => exact nn6
      | 1, _ => exact nn7
      | 2, _ => exact nn8
      | 3, _ => exact nn9
      | 4, _ => exact nn10
      | 5, _ => exact nn11
      | 6, _ => exact nn12
      | 7, _ => exact nn13
      | 8, _ => exact nn14
      | 9, _ => exact nn15
      | 10, _ => exact nn16
      | 11, _ => exact nn17
      | 12, _ => exact nn18
      | 13, _ => exact nn19
      | 14, _ => exact nn20
      | 15, _ => exact nn21
      | q + 16, hk => exact absurd hk (by have : OPN.length = 16 := rfl; omega)) (by decide)
  obtain ⟨wCLOSE, eCLOSE⟩ := arr_v nn2
  obtain ⟨kCLOSE, ACLOSE⟩ := own_arvS (ws := CLO) eCLOSE nn2 nn3 rfl (fun k hk => by
      match k, hk with
      | 0, _ => exact nn22
      | 1, _ => exact nn23
      | 2, _ => exact nn24
      | 3, _ => exact nn25
      | 4, _ => exact nn26
      | 5, _ => exact nn27
      | 6, _ => exact nn28
      | 7, _ => exact nn29
      | 8, _ => exact nn30
      | 9, _ => exact nn31
      | 10, _ => exact nn32
      | 11, _ => exact nn33
      | 12, _ => exact nn34
      | 13, _ => exact nn35
      | 14, _ => exact nn36
      | 15, _ => exact nn37
      | 16, _ => exact nn38
      | q + 17, hk => exact absurd hk (by have : CLO.length = 17 := rfl; omega)) (by decide)
  obtain ⟨wPARAMS, ePARAMS⟩ := arr_v nn4
  obtain ⟨kPARAMS, APARAMS⟩ := own_arvS (ws := PRM) ePARAMS nn4 nn5 rfl (fun k hk => by
      match k, hk with
      | 0, _ => exact nn39
      | 1, _ => exact nn40
      | 2, _ => exact nn41
      | 3, _ => exact nn42
      | 4, _ => exact nn43
      | 5, _ => exact nn44
      | 6, _ => exact nn45
      | 7, _ => exact nn_r45
      | q + 8, hk => exact absurd hk (by have : PRM.length = 8 := rfl; omega)) (by decide)
  have hG : Glob s wOPEN kOPEN wCLOSE kCLOSE wPARAMS kPARAMS := ⟨Sta.start eOPEN (Or.inr ⟨(hw _ (List.mem_of_getElem? (i := 21) rfl)), (hw _ (List.mem_of_getElem? (i := 24) rfl))⟩), AOPEN, Sta.start eCLOSE (Or.inr ⟨(hw _ (List.mem_of_getElem? (i := 21) rfl)), (hw _ (List.mem_of_getElem? (i := 35) rfl))⟩), ACLOSE, Sta.start ePARAMS (Or.inr ⟨(hw _ (List.mem_of_getElem? (i := 21) rfl)), (hw _ (List.mem_of_getElem? (i := 37) rfl))⟩), APARAMS⟩
  obtain ⟨n, o, h1, h2, h3, _, L, rfl, ⟨rfl, N⟩, hq⟩ := rm_law l s _ hw tables_1 wOPEN kOPEN wCLOSE kCLOSE wPARAMS kPARAMS hG i0 i1 i2 i3 i4 i5  s.heap s.heap.size (Nat.le_refl _) (Old.start s)  p e ha hc hk s m _ below hf ((Spec.applies_iff_loose hf).mp happ).1 ⟨rfl, State.Warmed39.refl s, rfl⟩ trivial
  refine ⟨n, _, h1, h2, h3, hpost _ _ _ _ _ _ ⟨Cond.after_iff.mpr rfl, Cond.after_iff.mpr (eq_i res_at (Term.int_eval (1)) rfl), trivial⟩ ⟨hq.1, hq.2.1, (hq.2.2.sift fun y hy => Or.inr (N y hy)).mono (Nat.le_of_ble_eq_true rfl) (Nat.le_of_ble_eq_true rfl)⟩⟩
theorem main_1_1 : Claimed_1_1 := comes_1 fun _ _ _ _ _ _ h hF => ⟨h.1, hF⟩
theorem main_1_2 : Claimed_1_2 := comes_1 fun _ _ _ _ _ _ h hF => ⟨h.2.1, hF⟩
end Jvm.Pilot.@@N@@
namespace Jvm.Pilot.@@N@@
open Jvm Jvm.ClassFile Sem Op Lib Jvm.Free Jvm.Stand Jvm.Pilot.@@N@@.Jvm.D
/-! MADE BY PROGRAM (witnessworld.py) out of the Statement's table words and the real class files: 9 classes; the members and pool entries that the words name. The judged class is class 1, her method 6. -/
namespace start1
open Jvm.ClassFile
def u (s : String) : CpInfo := .utf8 (stringToUtf16 s)
/-- a pool by its gaps: so many unusable entries, then the entry; so many at the end -/
def gap : Nat → List CpInfo → List CpInfo
  | 0, r => r
  | n + 1, r => .unusable :: gap n r
def poolList (es : List (Nat × CpInfo)) (last : Nat) : List CpInfo := es.foldr (fun e r => gap e.1 (e.2 :: r)) (gap last [])
def pool (es : List (Nat × CpInfo)) (last : Nat) : Array CpInfo := ⟨poolList es last⟩
def fileOf (pool : Array CpInfo) (this : Nat) (attrs : Array Attribute := #[]) (ms : Array MethodInfo := #[]) (fl : Nat := 33) (sup : Nat := 0) (ifs : Array Nat := #[]) (fds : Array FieldInfo := #[]) : ClassFile where
  minorVersion := 0
  majorVersion := 65
  constantPool := pool
  accessFlags := fl
  thisClass := this
  superClass := sup
  interfaces := ifs
  fields := fds
  methods := ms
  attributes := attrs
def plain (name : String) (sup : Option ClassId) : Class where
  name := name
  kind := .ordinary
  loader := none
  accessFlags := 33
  super := sup
  interfaces := #[]
  cf := none
  fields := #[]
  methods := #[]
  instanceTypes := #[]
  staticTypes := #[]
  resolved := #[]
  callSites := []
  init := .initialized
  statics := none
  mirror := none

def pool0 : Array CpInfo := pool [(5, u "<init>"), (0, u "()V"), (1, .class_ 10), (1, u "java/lang/Object")] 113

def k0m0 : Method := { name := "<init>", desc := "()V", sig := { parameters := [], returnType := none }, accessFlags := 1, code := none }
/-- java/lang/Object -/
def k0 : Class := { plain "java/lang/Object" none with
  accessFlags := 33
  interfaces := #[]
  cf := some (fileOf pool0 8 #[] #[{ accessFlags := 1, nameIndex := 5, descriptorIndex := 6, attributes := #[] }] 33 0 #[] #[])
  fields := #[]
  methods := #[k0m0]
  instanceTypes := #[]
  staticTypes := #[]
  resolved := Array.replicate 124 none
  statics := none }

def pool1 : Array CpInfo := pool [(2, .class_ 4), (1, u "java/lang/Object"), (0, u "<init>"), (0, u "()V"), (0, .long 3), (1, .long 255), (1, .methodref 12 13), (0, .class_ 14), (0, .nameAndType 15 16), (0, u "com/example/wirecall/wirecall/bench/AnswersIsResultPinLaw"), (0, u "putOpen"), (0, u "([BI)V"), (0, .methodref 12 18), (0, .nameAndType 19 20), (0, u "pick"), (0, u "(I)B"), (0, .methodref 12 22), (0, .nameAndType 23 16), (0, u "putParams"), (0, .methodref 12 25), (0, .nameAndType 26 16), (0, u "putClose"), (0, .methodref 12 28), (0, .nameAndType 29 30), (0, u "sp"), (0, u "(B)Z"), (0, .methodref 32 33), (0, .class_ 34), (0, .nameAndType 35 36), (0, u "com/example/wirecall/wirecall/bench/Answers"), (0, u "isResult"), (0, u "([BI)Z"), (3, u "law"), (0, u "(JJJIII)Z")] 4

def k1m0 : Method := { name := "<init>", desc := "()V", sig := { parameters := [], returnType := none }, accessFlags := 2, code := none }
def k1c1 : Code := { maxStack := 2, maxLocals := 1, code := method_2_code, exceptionTable := #[], attributes := #[] }
def k1m1 : Method := { name := "sp", desc := "(B)Z", sig := { parameters := [.byte], returnType := some .boolean }, accessFlags := 10, code := some k1c1 }
def k1c2 : Code := { maxStack := 2, maxLocals := 2, code := method_3_code, exceptionTable := #[], attributes := #[] }
def k1m2 : Method := { name := "pick", desc := "(I)B", sig := { parameters := [.int], returnType := some .byte }, accessFlags := 10, code := some k1c2 }
def k1c3 : Code := { maxStack := 3, maxLocals := 2, code := method_4_code, exceptionTable := #[], attributes := #[] }
def k1m3 : Method := { name := "putOpen", desc := "([BI)V", sig := { parameters := [(.array .byte), .int], returnType := none }, accessFlags := 10, code := some k1c3 }
def k1c4 : Code := { maxStack := 3, maxLocals := 2, code := method_5_code, exceptionTable := #[], attributes := #[] }
def k1m4 : Method := { name := "putParams", desc := "([BI)V", sig := { parameters := [(.array .byte), .int], returnType := none }, accessFlags := 10, code := some k1c4 }
def k1c5 : Code := { maxStack := 3, maxLocals := 2, code := method_6_code, exceptionTable := #[], attributes := #[] }
def k1m5 : Method := { name := "putClose", desc := "([BI)V", sig := { parameters := [(.array .byte), .int], returnType := none }, accessFlags := 10, code := some k1c5 }
def k1c6 : Code := { maxStack := 5, maxLocals := 34, code := code, exceptionTable := #[], attributes := #[] }
def k1m6 : Method := { name := "law", desc := "(JJJIII)Z", sig := { parameters := [.long, .long, .long, .int, .int, .int], returnType := some .boolean }, accessFlags := 9, code := some k1c6 }
/-- com/example/wirecall/wirecall/bench/AnswersIsResultPinLaw -/
def k1 : Class := { plain "com/example/wirecall/wirecall/bench/AnswersIsResultPinLaw" (some 0) with
  accessFlags := 49
  interfaces := #[]
  cf := some (fileOf pool1 12 #[] #[{ accessFlags := 2, nameIndex := 5, descriptorIndex := 6, attributes := #[] }, { accessFlags := 10, nameIndex := 29, descriptorIndex := 30, attributes := #[] }, { accessFlags := 10, nameIndex := 19, descriptorIndex := 20, attributes := #[] }, { accessFlags := 10, nameIndex := 15, descriptorIndex := 16, attributes := #[] }, { accessFlags := 10, nameIndex := 23, descriptorIndex := 16, attributes := #[] }, { accessFlags := 10, nameIndex := 26, descriptorIndex := 16, attributes := #[] }, { accessFlags := 9, nameIndex := 40, descriptorIndex := 41, attributes := #[] }] 49 2 #[] #[])
  fields := #[]
  methods := #[k1m0, k1m1, k1m2, k1m3, k1m4, k1m5, k1m6]
  instanceTypes := #[]
  staticTypes := #[]
  resolved := Array.replicate 46 none
  statics := none }

def pool2 : Array CpInfo := pool [(2, .class_ 4), (1, u "java/lang/Object"), (0, u "<init>"), (0, u "()V"), (12, .fieldref 20 21), (0, .class_ 22), (0, .nameAndType 23 24), (0, u "com/example/wirecall/wirecall/bench/Answers"), (0, u "OPEN"), (0, u "[B"), (0, .methodref 20 26), (0, .nameAndType 27 28), (0, u "indexOf"), (0, u "([BI[B)I"), (0, .methodref 20 30), (0, .nameAndType 31 32), (0, u "isSpace"), (0, u "(B)Z"), (0, .fieldref 20 34), (0, .nameAndType 35 24), (0, u "CLOSE"), (0, .methodref 20 37), (0, .nameAndType 38 39), (0, u "startsAt"), (0, u "([BII[B)Z"), (0, .fieldref 20 41), (0, .nameAndType 42 24), (0, u "PARAMS"), (12, u "isResult"), (0, u "([BI)Z")] 4

def k2m0 : Method := { name := "<init>", desc := "()V", sig := { parameters := [], returnType := none }, accessFlags := 2, code := none }
def k2c1 : Code := { maxStack := 4, maxLocals := 6, code := prog_39_method_3_code, exceptionTable := #[], attributes := #[] }
def k2m1 : Method := { name := "isResult", desc := "([BI)Z", sig := { parameters := [(.array .byte), .int], returnType := some .boolean }, accessFlags := 8, code := some k2c1 }
def k2c2 : Code := { maxStack := 4, maxLocals := 5, code := prog_39_method_4_code, exceptionTable := #[], attributes := #[] }
def k2m2 : Method := { name := "indexOf", desc := "([BI[B)I", sig := { parameters := [(.array .byte), .int, (.array .byte)], returnType := some .int }, accessFlags := 10, code := some k2c2 }
def k2c3 : Code := { maxStack := 3, maxLocals := 6, code := prog_39_method_5_code, exceptionTable := #[], attributes := #[] }
def k2m3 : Method := { name := "startsAt", desc := "([BII[B)Z", sig := { parameters := [(.array .byte), .int, .int, (.array .byte)], returnType := some .boolean }, accessFlags := 10, code := some k2c3 }
def k2c4 : Code := { maxStack := 2, maxLocals := 1, code := prog_39_method_6_code, exceptionTable := #[], attributes := #[] }
def k2m4 : Method := { name := "isSpace", desc := "(B)Z", sig := { parameters := [.byte], returnType := some .boolean }, accessFlags := 10, code := some k2c4 }
/-- com/example/wirecall/wirecall/bench/Answers -/
def k2 : Class := { plain "com/example/wirecall/wirecall/bench/Answers" (some 0) with
  accessFlags := 48
  interfaces := #[]
  cf := some (fileOf pool2 20 #[] #[{ accessFlags := 2, nameIndex := 5, descriptorIndex := 6, attributes := #[] }, { accessFlags := 8, nameIndex := 55, descriptorIndex := 56, attributes := #[] }, { accessFlags := 10, nameIndex := 27, descriptorIndex := 28, attributes := #[] }, { accessFlags := 10, nameIndex := 38, descriptorIndex := 39, attributes := #[] }, { accessFlags := 10, nameIndex := 31, descriptorIndex := 32, attributes := #[] }] 48 2 #[] #[{ accessFlags := 26, nameIndex := 23, descriptorIndex := 24, attributes := #[] }, { accessFlags := 26, nameIndex := 42, descriptorIndex := 24, attributes := #[] }, { accessFlags := 26, nameIndex := 35, descriptorIndex := 24, attributes := #[] }])
  fields := #[{ name := "OPEN", type := (.array .byte), accessFlags := 26, slot := 0, constantValue := 0 }, { name := "PARAMS", type := (.array .byte), accessFlags := 26, slot := 1, constantValue := 0 }, { name := "CLOSE", type := (.array .byte), accessFlags := 26, slot := 2, constantValue := 0 }]
  methods := #[k2m0, k2m1, k2m2, k2m3, k2m4]
  instanceTypes := #[]
  staticTypes := #[(.array .byte), (.array .byte), (.array .byte)]
  resolved := Array.replicate 61 none
  statics := some 0 }

def pool3 : Array CpInfo := pool [(1, u "java/lang/Cloneable"), (0, .class_ 1), (0, u "java/lang/Object"), (0, .class_ 3)] 3

/-- java/lang/Cloneable -/
def k3 : Class := { plain "java/lang/Cloneable" (some 0) with
  accessFlags := 1537
  interfaces := #[]
  cf := some (fileOf pool3 2 #[] #[] 1537 4 #[] #[])
  fields := #[]
  methods := #[]
  instanceTypes := #[]
  staticTypes := #[]
  resolved := Array.replicate 8 none
  statics := none }

def pool4 : Array CpInfo := pool [(1, u "java/io/Serializable"), (0, .class_ 1), (0, u "java/lang/Object"), (0, .class_ 3)] 3

/-- java/io/Serializable -/
def k4 : Class := { plain "java/io/Serializable" (some 0) with
  accessFlags := 1537
  interfaces := #[]
  cf := some (fileOf pool4 2 #[] #[] 1537 4 #[] #[])
  fields := #[]
  methods := #[]
  instanceTypes := #[]
  staticTypes := #[]
  resolved := Array.replicate 8 none
  statics := none }

/-- the primitive byte -/
def k5 : Class := { plain "byte" none with kind := .primitive 'B', accessFlags := 0x411 }
/-- [B -/
def k6 : Class := { plain "[B" (some 0) with kind := .array 5 .byte, interfaces := #[3, 4], accessFlags := 1041 }

/-- the primitive int -/
def k7 : Class := { plain "int" none with kind := .primitive 'I', accessFlags := 0x411 }
/-- [I -/
def k8 : Class := { plain "[I" (some 0) with kind := .array 7 .int, interfaces := #[3, 4], accessFlags := 1041 }

def heap : Heap := #[{ cls := 2, slots := #[.ref 1, .ref 3, .ref 2], vm := .statics 2 },
  { cls := 6, slots := #[.int 60, .int 109, .int 101, .int 116, .int 104, .int 111, .int 100, .int 82, .int 101, .int 115, .int 112, .int 111, .int 110, .int 115, .int 101, .int 62], vm := .none },
  { cls := 6, slots := #[.int 60, .int 47, .int 109, .int 101, .int 116, .int 104, .int 111, .int 100, .int 82, .int 101, .int 115, .int 112, .int 111, .int 110, .int 115, .int 101, .int 62], vm := .none },
  { cls := 6, slots := #[.int 60, .int 112, .int 97, .int 114, .int 97, .int 109, .int 115, .int 62], vm := .none }]
def classes : Array Class := #[k0, k1, k2, k3, k4, k5, k6, k7, k8]
def interned : List (Array UInt16 × Addr) := []
def slotsUsed : Nat := 44
def theMethod : MethodId := ⟨1, 6⟩
def args0 : Array Value := #[.long 5, .long 5, .long 5, .int 5, .int 5, .int 5]
def aboutOver (below : List Frame) : State where
  vm := { classes := classes, interned := interned.toArray }
  heap := heap
  slotsUsed := slotsUsed
  threads := #[{ frames := .invoking theMethod args0 :: below }]
def below0 : List Frame := [.native { method := ⟨0, 0⟩, args := #[] }]
def about1 : State := aboutOver below0
def p0 : Program := .bare "" "" ""
def e0 : Env := launch0.env 0 0 0
theorem w_frames : about1.frames = Frame.invoking theMethod args0 :: below0 := rfl
set_option maxRecDepth 65536 in
theorem w_args : argsFit about1.vm theMethod args0 = true := by decide +kernel
set_option maxRecDepth 65536 in
theorem w_heap : heapFits about1 = true := by decide +kernel
set_option maxRecDepth 65536 in
theorem w_runnable : about1.curStatus? = some .runnable := by decide +kernel
set_option maxRecDepth 65536 in
theorem w_alone : about1.alone = true := by decide +kernel
set_option maxRecDepth 65536 in
theorem w_named : about1.methodNamed? x = some theMethod := by decide +kernel
set_option maxRecDepth 65536 in
theorem w_hears : about1.hears theMethod below0 = true := by decide +kernel
set_option maxRecDepth 65536 in
theorem w_ripe : about1.ripe theMethod args0 below0 = true := by decide +kernel
theorem w_running : about1.status = .running := rfl
set_option maxRecDepth 65536 in
theorem w_room : about1.hasRoom e0.platform room_1 = true :=
  launch0.hasRoom_least _ room_1 (by decide +kernel) (by decide +kernel) (by decide +kernel) (by decide +kernel) (by decide +kernel) (by decide +kernel)
theorem allAtoms_all (ts : List Jvm.Cond) (a : Array Jvm.Value) (st : Jvm.State) : (allAtoms ts).before a st = ts.all (fun c => c.before a st) := by
  induction ts with
  | nil => rfl
  | cons c t ih =>
    show (Jvm.Cond.and c (allAtoms t)).before a st = _
    rw [Jvm.Cond.before_and, ih, List.all_cons]
def words1 : List Jvm.Cond := Jvm.Cond.code x code maxLocals ret :: tables_1
/-- a 'code' word, met by the world's own term for the bytes: nothing is compared byte by byte -/
theorem code_word {y : MethodName} {bytes : ByteArray} {mx : Nat} {rt : Option FieldType} {a : Array Value} {s : State} {m : MethodId} {meth : Method} {c : Code} (h1 : s.methodNamed? y = some m) (h2 : s.vm.method? m = some meth) (h3 : meth.code = some c) (h4 : c.code = bytes)
    (h5 : (c.maxLocals == mx && c.exceptionTable.isEmpty && decide (c.maxStack ≤ mostOperands) && decide (meth.sig.returnType = rt) && !meth.locks && decide (parseMethodDescriptor y.desc = some meth.sig)) = true) : (Jvm.Cond.code y bytes mx rt).before a s = true := by
  simp only [Bool.and_eq_true, beq_iff_eq, Bool.not_eq_true', decide_eq_true_eq] at h5
  obtain ⟨⟨⟨⟨⟨g1, g2⟩, g3⟩, g4⟩, g5⟩, g6⟩ := h5
  simp [Cond.before, Cond.holds, Cond.value, h1, h2, h3, h4, g1, g2, g3, g4, g5, g6]
def isCode : Jvm.Cond → Bool
  | .code _ _ _ _ => true
  | _ => false
theorem all_split {L : List Jvm.Cond} {P : Jvm.Cond → Bool} (h1 : L.all (fun c => isCode c || P c) = true) (h2 : ∀ c ∈ L.filter isCode, P c = true) : L.all P = true := by
  refine List.all_eq_true.mpr fun c hc => ?_
  have h := List.all_eq_true.mp h1 c hc
  rcases Bool.eq_false_or_eq_true (isCode c) with hi | hi
  · exact h2 c (List.mem_filter.mpr ⟨hc, hi⟩)
  · simpa [hi] using h
set_option maxRecDepth 65536 in
theorem w_c0 : (Jvm.Cond.code x code maxLocals ret).before args0 about1 = true := code_word (m := ⟨1, 6⟩) (meth := k1m6) (c := k1c6) (by decide +kernel) rfl rfl rfl (by decide +kernel)
set_option maxRecDepth 65536 in
theorem w_c1 : (Jvm.Cond.code ({ cls := "com/example/wirecall/wirecall/bench/AnswersIsResultPinLaw", name := "putOpen", desc := "([BI)V" } : Jvm.MethodName) method_4_code (2 : Nat) (Option.none : Option Jvm.ClassFile.FieldType)).before args0 about1 = true := code_word (m := ⟨1, 3⟩) (meth := k1m3) (c := k1c3) (by decide +kernel) rfl rfl rfl (by decide +kernel)
set_option maxRecDepth 65536 in
theorem w_c2 : (Jvm.Cond.code ({ cls := "com/example/wirecall/wirecall/bench/AnswersIsResultPinLaw", name := "pick", desc := "(I)B" } : Jvm.MethodName) method_3_code (2 : Nat) (Option.some Jvm.ClassFile.FieldType.byte)).before args0 about1 = true := code_word (m := ⟨1, 2⟩) (meth := k1m2) (c := k1c2) (by decide +kernel) rfl rfl rfl (by decide +kernel)
set_option maxRecDepth 65536 in
theorem w_c3 : (Jvm.Cond.code ({ cls := "com/example/wirecall/wirecall/bench/AnswersIsResultPinLaw", name := "putParams", desc := "([BI)V" } : Jvm.MethodName) method_5_code (2 : Nat) (Option.none : Option Jvm.ClassFile.FieldType)).before args0 about1 = true := code_word (m := ⟨1, 4⟩) (meth := k1m4) (c := k1c4) (by decide +kernel) rfl rfl rfl (by decide +kernel)
set_option maxRecDepth 65536 in
theorem w_c4 : (Jvm.Cond.code ({ cls := "com/example/wirecall/wirecall/bench/AnswersIsResultPinLaw", name := "putClose", desc := "([BI)V" } : Jvm.MethodName) method_6_code (2 : Nat) (Option.none : Option Jvm.ClassFile.FieldType)).before args0 about1 = true := code_word (m := ⟨1, 5⟩) (meth := k1m5) (c := k1c5) (by decide +kernel) rfl rfl rfl (by decide +kernel)
set_option maxRecDepth 65536 in
theorem w_c5 : (Jvm.Cond.code ({ cls := "com/example/wirecall/wirecall/bench/AnswersIsResultPinLaw", name := "sp", desc := "(B)Z" } : Jvm.MethodName) method_2_code (1 : Nat) (Option.some Jvm.ClassFile.FieldType.boolean)).before args0 about1 = true := code_word (m := ⟨1, 1⟩) (meth := k1m1) (c := k1c1) (by decide +kernel) rfl rfl rfl (by decide +kernel)
set_option maxRecDepth 65536 in
theorem w_c6 : (Jvm.Cond.code ({ cls := "com/example/wirecall/wirecall/bench/Answers", name := "isResult", desc := "([BI)Z" } : Jvm.MethodName) prog_39_method_3_code (6 : Nat) (Option.some Jvm.ClassFile.FieldType.boolean)).before args0 about1 = true := code_word (m := ⟨2, 1⟩) (meth := k2m1) (c := k2c1) (by decide +kernel) rfl rfl rfl (by decide +kernel)
set_option maxRecDepth 65536 in
theorem w_c7 : (Jvm.Cond.code ({ cls := "com/example/wirecall/wirecall/bench/Answers", name := "indexOf", desc := "([BI[B)I" } : Jvm.MethodName) prog_39_method_4_code (5 : Nat) (Option.some Jvm.ClassFile.FieldType.int)).before args0 about1 = true := code_word (m := ⟨2, 2⟩) (meth := k2m2) (c := k2c2) (by decide +kernel) rfl rfl rfl (by decide +kernel)
set_option maxRecDepth 65536 in
theorem w_c8 : (Jvm.Cond.code ({ cls := "com/example/wirecall/wirecall/bench/Answers", name := "startsAt", desc := "([BII[B)Z" } : Jvm.MethodName) prog_39_method_5_code (6 : Nat) (Option.some Jvm.ClassFile.FieldType.boolean)).before args0 about1 = true := code_word (m := ⟨2, 3⟩) (meth := k2m3) (c := k2c3) (by decide +kernel) rfl rfl rfl (by decide +kernel)
set_option maxRecDepth 65536 in
theorem w_c9 : (Jvm.Cond.code ({ cls := "com/example/wirecall/wirecall/bench/Answers", name := "isSpace", desc := "(B)Z" } : Jvm.MethodName) prog_39_method_6_code (1 : Nat) (Option.some Jvm.ClassFile.FieldType.boolean)).before args0 about1 = true := code_word (m := ⟨2, 4⟩) (meth := k2m4) (c := k2c4) (by decide +kernel) rfl rfl rfl (by decide +kernel)
def codes1 : List Jvm.Cond := [Jvm.Cond.code x code maxLocals ret, Jvm.Cond.code ({ cls := "com/example/wirecall/wirecall/bench/AnswersIsResultPinLaw", name := "putOpen", desc := "([BI)V" } : Jvm.MethodName) method_4_code (2 : Nat) (Option.none : Option Jvm.ClassFile.FieldType), Jvm.Cond.code ({ cls := "com/example/wirecall/wirecall/bench/AnswersIsResultPinLaw", name := "pick", desc := "(I)B" } : Jvm.MethodName) method_3_code (2 : Nat) (Option.some Jvm.ClassFile.FieldType.byte), Jvm.Cond.code ({ cls := "com/example/wirecall/wirecall/bench/AnswersIsResultPinLaw", name := "putParams", desc := "([BI)V" } : Jvm.MethodName) method_5_code (2 : Nat) (Option.none : Option Jvm.ClassFile.FieldType), Jvm.Cond.code ({ cls := "com/example/wirecall/wirecall/bench/AnswersIsResultPinLaw", name := "putClose", desc := "([BI)V" } : Jvm.MethodName) method_6_code (2 : Nat) (Option.none : Option Jvm.ClassFile.FieldType), Jvm.Cond.code ({ cls := "com/example/wirecall/wirecall/bench/AnswersIsResultPinLaw", name := "sp", desc := "(B)Z" } : Jvm.MethodName) method_2_code (1 : Nat) (Option.some Jvm.ClassFile.FieldType.boolean), Jvm.Cond.code ({ cls := "com/example/wirecall/wirecall/bench/Answers", name := "isResult", desc := "([BI)Z" } : Jvm.MethodName) prog_39_method_3_code (6 : Nat) (Option.some Jvm.ClassFile.FieldType.boolean), Jvm.Cond.code ({ cls := "com/example/wirecall/wirecall/bench/Answers", name := "indexOf", desc := "([BI[B)I" } : Jvm.MethodName) prog_39_method_4_code (5 : Nat) (Option.some Jvm.ClassFile.FieldType.int), Jvm.Cond.code ({ cls := "com/example/wirecall/wirecall/bench/Answers", name := "startsAt", desc := "([BII[B)Z" } : Jvm.MethodName) prog_39_method_5_code (6 : Nat) (Option.some Jvm.ClassFile.FieldType.boolean), Jvm.Cond.code ({ cls := "com/example/wirecall/wirecall/bench/Answers", name := "isSpace", desc := "(B)Z" } : Jvm.MethodName) prog_39_method_6_code (1 : Nat) (Option.some Jvm.ClassFile.FieldType.boolean)]
set_option maxRecDepth 65536 in
theorem codes_eq : words1.filter isCode = codes1 := rfl
theorem w_codes : ∀ c ∈ words1.filter isCode, c.before args0 about1 = true := by
  rw [codes_eq]
  intro c hc
  simp only [codes1, List.mem_cons, List.not_mem_nil, or_false] at hc
  rcases hc with rfl | rfl | rfl | rfl | rfl | rfl | rfl | rfl | rfl | rfl
  · exact w_c0
  · exact w_c1
  · exact w_c2
  · exact w_c3
  · exact w_c4
  · exact w_c5
  · exact w_c6
  · exact w_c7
  · exact w_c8
  · exact w_c9
set_option maxRecDepth 65536 in
theorem w_t1 : (words1.take 24).all (fun c => isCode c || c.before args0 about1) = true := by decide +kernel
set_option maxRecDepth 65536 in
theorem w_t2 : (words1.drop 24).all (fun c => isCode c || c.before args0 about1) = true := by decide +kernel
theorem w_tables : (allAtoms (Jvm.Cond.code x code maxLocals ret :: tables_1)).before args0 about1 = true := by
  rw [allAtoms_all]
  show words1.all (fun c => c.before args0 about1) = true
  refine all_split ?_ w_codes
  rw [← List.take_append_drop 24 words1, List.all_append, w_t1, w_t2]
  rfl
set_option maxRecDepth 65536 in
theorem w_case : (Jvm.Cond.and given_1 narrow_1).before args0 about1 = true := by decide +kernel
theorem w_applies : (headSpec (Jvm.Cond.code x code maxLocals ret :: tables_1) room_1).applies x e0.platform about1 = true :=
  (Spec.applies_iff w_frames).mpr ⟨w_running, w_runnable, w_alone, w_named, w_hears, w_ripe, w_room, w_tables⟩
theorem atStart : AtStart classFile x code maxLocals ret World_1 tables_1 room_1 Calls_1 rest_1 Pre_1 launch0 p0 e0 about1 theMethod args0 below0 :=
  ⟨lists_1, trivial, launch0.admits_env _ _ _, launch0.least_env, fairChoices_fair.cas, fairChoices_fair.clock, w_frames, w_args, w_heap, w_applies, trivial, trivial, w_case⟩
end start1
theorem witness_1 : WitnessClaimed_1 := ⟨start1.p0, start1.e0, start1.about1, start1.theMethod, start1.args0, start1.below0, start1.atStart⟩
end Jvm.Pilot.@@N@@

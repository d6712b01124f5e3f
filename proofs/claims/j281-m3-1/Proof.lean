import JvmDerived
import JvmDerived.Pilot.@@N@@Statement
import JvmDerived.Pilot.@@N@@Code
set_option linter.unusedVariables false
set_option linter.unusedSimpArgs false
/- laws to paste: Road.backV, Road.eqW, Road.codOf (cut by pick.py; bodies as the Statement names them) -/
namespace Jvm.Pilot.@@N@@
namespace StrChars
open Jvm Sem ClassFile Op Lib Jvm.Stand Jvm.Free.XT Jvm.Free.ALB Jvm.Free.JM Jvm.Free
open Jvm.Lib.Cold (StaticIs)
/-- a char array whose places are chars -/
def Ch (a : Addr) (A : Cell) (U : State) : Prop := Arr .char a A U ∧ Typed .char A
theorem Ch.mv {a : Addr} {A : Cell} {U U' : State} (h : Ch a A U) (hal : U.vm.Alike U'.vm) (hh : U'.heap = U.heap) : Ch a A U' := ⟨h.1.mv hal hh, h.2⟩
theorem Ch.keep {a : Addr} {A : Cell} {U U' : State} (h : Ch a A U) (hal : U.vm.Alike U'.vm) (hk : U'.heap[a]? = some A) : Ch a A U' := ⟨h.1.keep hal hk, h.2⟩
/-- what place i of a char[]'s cell holds -/
def cv (A : Cell) (i : Nat) : Int32 := match A.slots[i]? with | some (.int x) => x | _ => 0
theorem Ch.get {a : Addr} {A : Cell} {U : State} (h : Ch a A U) {i : Nat} (hi : i < A.slots.size) : A.slots[i]? = some (.int (cv A i)) := by
  have e := Array.getElem?_eq_getElem hi
  have f := h.2 i _ e
  unfold cv; rw [e]
  generalize A.slots[i] = v at f
  cases v <;> simp [fits] at f ⊢
/-- the byte that i2b leaves of a char -/
def lo8 (x : Int32) : Int32 := x.toInt8.toInt32
theorem fits_lo8 (y : Int32) : fits .byte (.int (lo8 y)) = true := by
  have h1 := y.toInt8.le_toInt
  have h2 := y.toInt8.toInt_lt
  simp only [lo8, fits, Bool.and_eq_true, decide_eq_true_eq, Int32.le_iff_toInt_le, Int8.toInt_toInt32, show (-128 : Int32).toInt = -128 from by decide, show (127 : Int32).toInt = 127 from by decide]
  omega
/-- A' is A but that each place j of lo .. hi - 1 holds f j -/
def Laid (A A' : Cell) (lo hi : Nat) (f : Nat → Value) : Prop := A'.cls = A.cls ∧ A'.vm = A.vm ∧ A'.slots.size = A.slots.size ∧ ∀ i, A'.slots[i]? = if lo ≤ i ∧ i < hi then some (f i) else A.slots[i]?
theorem Laid.zero (A : Cell) (lo : Nat) (f : Nat → Value) : Laid A A lo (lo + 0) f := ⟨rfl, rfl, rfl, fun i => by rw [if_neg (by omega)]⟩
theorem Laid.step {A Ak : Cell} {lo k : Nat} {f : Nat → Value} {v : Value} (h : Laid A Ak lo k f) (hlo : lo ≤ k) (hk : k < Ak.slots.size) (hv : v = f k) : Laid A (Ak.setSlot k v) lo (k + 1) f := by
  refine ⟨h.1, h.2.1, by simpa [Cell.setSlot] using h.2.2.1, fun i => ?_⟩
  by_cases e : k = i
  · subst e; rw [Cell.slots_setSlot_self v hk, if_pos (by omega), hv]
  · rw [Cell.slots_setSlot_ne v e, h.2.2.2 i]
    by_cases q : lo ≤ i ∧ i < k
    · rw [if_pos q, if_pos (by omega)]
    · rw [if_neg q, if_neg (by omega)]
def U16 : String := "java/lang/StringUTF16"
namespace Cmp5
def yN : MethodName := ⟨"java/lang/StringUTF16", "compress", "([CI[BII)I"⟩
abbrev yB : ByteArray := jdk_52_method_21_code
theorem d0 : decode yB 0 = .ok (.iconst 0, 1) := by decide +kernel
theorem d1 : decode yB 1 = .ok (.istore 5, 2) := by decide +kernel
theorem d3 : decode yB 3 = .ok (.iload 5, 2) := by decide +kernel
theorem d5 : decode yB 5 = .ok (.iload 4, 2) := by decide +kernel
theorem d7 : decode yB 7 = .ok (.if_icmp (.ge) 37, 3) := by decide +kernel
theorem d10 : decode yB 10 = .ok (.aload_n 0, 1) := by decide +kernel
theorem d11 : decode yB 11 = .ok (.iload_n 1, 1) := by decide +kernel
theorem d12 : decode yB 12 = .ok (.caload, 1) := by decide +kernel
theorem d13 : decode yB 13 = .ok (.istore 6, 2) := by decide +kernel
theorem d15 : decode yB 15 = .ok (.iload 6, 2) := by decide +kernel
theorem d17 : decode yB 17 = .ok (.sipush 255, 3) := by decide +kernel
theorem d20 : decode yB 20 = .ok (.if_icmp (.le) 6, 3) := by decide +kernel
theorem d26 : decode yB 26 = .ok (.aload_n 2, 1) := by decide +kernel
theorem d27 : decode yB 27 = .ok (.iload_n 3, 1) := by decide +kernel
theorem d28 : decode yB 28 = .ok (.iload 6, 2) := by decide +kernel
theorem d30 : decode yB 30 = .ok (.i2b, 1) := by decide +kernel
theorem d31 : decode yB 31 = .ok (.bastore, 1) := by decide +kernel
theorem d32 : decode yB 32 = .ok (.iinc 1 1, 3) := by decide +kernel
theorem d35 : decode yB 35 = .ok (.iinc 3 1, 3) := by decide +kernel
theorem d38 : decode yB 38 = .ok (.iinc 5 1, 3) := by decide +kernel
theorem d41 : decode yB 41 = .ok (.goto (-38), 3) := by decide +kernel
theorem d44 : decode yB 44 = .ok (.iload 4, 2) := by decide +kernel
theorem d46 : decode yB 46 = .ok (.ireturn, 1) := by decide +kernel
def site : List Cond := []
def tab : Cond := tabOf yN yB 7 (some .int) site
def P (b : Addr) (A : Cell) (d : Addr) (B : Cell) (o q len : Nat) (args : Array Value) (s : State) : Prop := args = #[.ref b, .int (Int32.ofNat o), .ref d, .int (Int32.ofNat q), .int (Int32.ofNat len)] ∧ Ch b A s ∧ Arr .byte d B s ∧ b ≠ d ∧ o + len ≤ A.slots.size ∧ q + len ≤ B.slots.size ∧ ∀ i, i < len → ¬ 255 < cv A (o + i)
def E (b : Addr) (A : Cell) (d : Addr) (B : Cell) (o q len : Nat) (r : Option Value) (s u : State) : Prop := r = some (.int (Int32.ofNat len)) ∧ ∃ B', Put d B' s u ∧ Laid B B' q (q + len) (fun j => Value.int (lo8 (cv A (o + (j - q)))))
/-- no char of the range above 255: len; the places written hold each char's low byte -/
theorem law (l : Launch) (b : Addr) (A : Cell) (d : Addr) (B : Cell) (o q len : Nat) : Law l yN 5 5 0 0 yB 7 (some .int) site (P b A d B o q len) (E b A d B o q len) (copyLocs d q len) 0 0 := by
  refine Law.of_walk (plainFor_of_name (by decide +kernel)) (by decide +kernel) (by decide +kernel) (by decide) (fun _ _ h => by rw [h.1]; rfl) (fun _ U U' hal hh h => ⟨h.1, h.2.1.mv hal hh, h.2.2.1.mv hal hh, h.2.2.2⟩) (fun r U U' V V' h1 hal h2 h => ⟨h.1, h.2.elim fun B' q => ⟨B', q.1.mv h1 h2, q.2⟩⟩) ?_
  intro p e s m args below meth c s₁ X0 hexec hbytes hml hret hlk hnm hown hh0 W hP
  obtain ⟨rfl, hA, hB, hne, l1, l2, hp⟩ := hP
  have c1 : Steps p.tables e below (s₁.setTop (entryFrame m #[.ref b, .int (Int32.ofNat o), .ref d, .int (Int32.ofNat q), .int (Int32.ofNat len)] 7)) (s₁.setTop (mkF m 0 #[.val (.ref b), .val (.int (Int32.ofNat o)), .val (.ref d), .val (.int (Int32.ofNat q)), .val (.int (Int32.ofNat len)), .unset, .unset] [])) := entry rfl
  have hA0 := hA.1.mv X0.warmed.alike hh0
  have hB0 := hB.mv X0.warmed.alike hh0
  have a31 := hA.1.2.2.2
  have c2 : Steps p.tables e below (s₁.setTop (entryFrame m #[.ref b, .int (Int32.ofNat o), .ref d, .int (Int32.ofNat q), .int (Int32.ofNat len)] 7)) (s₁.setTop (mkF m 3 #[.val (.ref b), .val (.int (Int32.ofNat o)), .val (.ref d), .val (.int (Int32.ofNat q)), .val (.int (Int32.ofNat len)), .val (.int 0), .unset] [])) := c1.trans (by
    refine iconstV X0.here hexec rfl 0 (hb hbytes d0) (by decide) ?_
    refine XS.istore X0.here hexec rfl (hb hbytes d1) rfl rfl ?_
    exact Steps.refl _)
  have loop : ∀ (r i : Nat), i + r = len → ∀ (z : Slot), (z = .unset ∨ ∃ w, z = .val w ∧ w.category = 1) → ∀ (Tl : State) (Bk : Cell), Stand p l e { frames := 0, locals := 0, cells := 0, slots := 0 } s m #[.ref b, .int (Int32.ofNat o), .ref d, .int (Int32.ofNat q), .int (Int32.ofNat len)] below meth c Tl ([] ++ copyLocs d q i) 0 0 → Put d Bk s₁ Tl → Laid B Bk q (q + i) (fun j => Value.int (lo8 (cv A (o + (j - q))))) →
      Steps p.tables e below (s₁.setTop (entryFrame m #[.ref b, .int (Int32.ofNat o), .ref d, .int (Int32.ofNat q), .int (Int32.ofNat len)] 7)) (Tl.setTop (mkF m 3 #[.val (.ref b), .val (.int (Int32.ofNat (o + i))), .val (.ref d), .val (.int (Int32.ofNat (q + i))), .val (.int (Int32.ofNat len)), .val (.int (Int32.ofNat i)), z] [])) → ∃ (T' : State) (B' : Cell) (z' : Slot), Stand p l e { frames := 0, locals := 0, cells := 0, slots := 0 } s m #[.ref b, .int (Int32.ofNat o), .ref d, .int (Int32.ofNat q), .int (Int32.ofNat len)] below meth c T' ([] ++ copyLocs d q len) 0 0 ∧ Put d B' s₁ T' ∧ Laid B B' q (q + len) (fun j => Value.int (lo8 (cv A (o + (j - q))))) ∧
      Steps p.tables e below (s₁.setTop (entryFrame m #[.ref b, .int (Int32.ofNat o), .ref d, .int (Int32.ofNat q), .int (Int32.ofNat len)] 7)) (T'.setTop (mkF m 3 #[.val (.ref b), .val (.int (Int32.ofNat (o + len))), .val (.ref d), .val (.int (Int32.ofNat (q + len))), .val (.int (Int32.ofNat len)), .val (.int (Int32.ofNat len)), z'] [])) := by
    intro r
    induction r with
    | zero =>
      intro i hi z hz Tl Bk Xl pl fl cl
      have hil : i = len := by omega
      rw [hil] at Xl fl cl
      exact ⟨Tl, Bk, z, Xl, pl, fl, cl⟩
    | succ r ih =>
      intro i hi z hz Tl Bk Xl pl fl cl
      have all := X0.warmed.alike.symm.trans Xl.warmed.alike
      have hAl := hA0.keep all (pl.other hne hA0.1)
      have hBk := hB0.like all pl.1 fl.1 fl.2.1 fl.2.2.1
      have hlt : q + i < Bk.slots.size := by rw [fl.2.2.1]; omega
      have c3 : Steps p.tables e below (s₁.setTop (entryFrame m #[.ref b, .int (Int32.ofNat o), .ref d, .int (Int32.ofNat q), .int (Int32.ofNat len)] 7)) (Tl.setTop (mkF m 12 #[.val (.ref b), .val (.int (Int32.ofNat (o + i))), .val (.ref d), .val (.int (Int32.ofNat (q + i))), .val (.int (Int32.ofNat len)), .val (.int (Int32.ofNat i)), z] [.int (Int32.ofNat (o + i)), .ref b])) := cl.trans (by
        refine XS.iload Xl.here hexec rfl (hb hbytes d3) rfl ?_
        refine XS.iload Xl.here hexec rfl (hb hbytes d5) rfl ?_
        refine XS.icmpNo Xl.here hexec rfl (hb hbytes d7) rfl (ii_ge_f (lt32 (by omega) (by omega))) ?_
        refine XS.aloadN Xl.here hexec rfl (hb hbytes d10) rfl rfl ?_
        refine XS.iloadN Xl.here hexec rfl (hb hbytes d11) rfl ?_
        exact Steps.refl _)
      have c4 : Steps p.tables e below (s₁.setTop (entryFrame m #[.ref b, .int (Int32.ofNat o), .ref d, .int (Int32.ofNat q), .int (Int32.ofNat len)] 7)) (Tl.setTop (mkF m 13 #[.val (.ref b), .val (.int (Int32.ofNat (o + i))), .val (.ref d), .val (.int (Int32.ofNat (q + i))), .val (.int (Int32.ofNat len)), .val (.int (Int32.ofNat i)), z] [.int (cv A (o + i))])) := c3.trans (by
        refine Xl.aget hexec hAl rfl (hA.get (i := o + i) (by omega)) rfl rfl (hb hbytes d12) ?_
        exact Steps.refl _)
      have c5 : Steps p.tables e below (s₁.setTop (entryFrame m #[.ref b, .int (Int32.ofNat o), .ref d, .int (Int32.ofNat q), .int (Int32.ofNat len)] 7)) (Tl.setTop (mkF m 15 #[.val (.ref b), .val (.int (Int32.ofNat (o + i))), .val (.ref d), .val (.int (Int32.ofNat (q + i))), .val (.int (Int32.ofNat len)), .val (.int (Int32.ofNat i)), .val (.int (cv A (o + i)))] [])) := c4.trans (by
        refine XS.istoreS Xl.here hexec rfl (hb hbytes d13) rfl rfl hz ?_
        exact Steps.refl _)
      have c6 : Steps p.tables e below (s₁.setTop (entryFrame m #[.ref b, .int (Int32.ofNat o), .ref d, .int (Int32.ofNat q), .int (Int32.ofNat len)] 7)) (Tl.setTop (mkF m 31 #[.val (.ref b), .val (.int (Int32.ofNat (o + i))), .val (.ref d), .val (.int (Int32.ofNat (q + i))), .val (.int (Int32.ofNat len)), .val (.int (Int32.ofNat i)), .val (.int (cv A (o + i)))] [.int (lo8 (cv A (o + i))), .int (Int32.ofNat (q + i)), .ref d])) := c5.trans (by
        refine XS.iload Xl.here hexec rfl (hb hbytes d15) rfl ?_
        refine sipushV Xl.here hexec rfl 255 (hb hbytes d17) (by decide) ?_
        refine XS.icmpYes Xl.here hexec rfl (pc0 := 20) rfl (hb hbytes d20) rfl (ii_le_t (hp i (by omega))) (by decide) rfl ?_
        refine XS.aloadN Xl.here hexec rfl (hb hbytes d26) rfl rfl ?_
        refine XS.iloadN Xl.here hexec rfl (hb hbytes d27) rfl ?_
        refine XS.iload Xl.here hexec rfl (hb hbytes d28) rfl ?_
        refine i2b Xl.here hexec rfl (hb hbytes d30) rfl ?_
        exact Steps.refl _)
      obtain ⟨T7, X7, p7, st7⟩ := Xl.aput hexec hBk rfl hlt rfl (fits_lo8 (cv A (o + i))) (g := (mkF m 31 #[.val (.ref b), .val (.int (Int32.ofNat (o + i))), .val (.ref d), .val (.int (Int32.ofNat (q + i))), .val (.int (Int32.ofNat len)), .val (.int (Int32.ofNat i)), .val (.int (cv A (o + i)))] [.int (lo8 (cv A (o + i))), .int (Int32.ofNat (q + i)), .ref d])) rfl (rest := []) rfl (hb hbytes d31)
      have c8 : Steps p.tables e below (s₁.setTop (entryFrame m #[.ref b, .int (Int32.ofNat o), .ref d, .int (Int32.ofNat q), .int (Int32.ofNat len)] 7)) (T7.setTop (mkF m 32 #[.val (.ref b), .val (.int (Int32.ofNat (o + i))), .val (.ref d), .val (.int (Int32.ofNat (q + i))), .val (.int (Int32.ofNat len)), .val (.int (Int32.ofNat i)), .val (.int (cv A (o + i)))] [])) := c6.trans (st7 _ (Steps.refl _))
      have c9 : Steps p.tables e below (s₁.setTop (entryFrame m #[.ref b, .int (Int32.ofNat o), .ref d, .int (Int32.ofNat q), .int (Int32.ofNat len)] 7)) (T7.setTop (mkF m 3 #[.val (.ref b), .val (.int (Int32.ofNat (o + i) + 1)), .val (.ref d), .val (.int (Int32.ofNat (q + i) + 1)), .val (.int (Int32.ofNat len)), .val (.int (Int32.ofNat i + 1)), .val (.int (cv A (o + i)))] [])) := c8.trans (by
        refine iincV X7.here hexec rfl 1 (hb hbytes d32) (by decide) rfl rfl ?_
        refine iincV X7.here hexec rfl 1 (hb hbytes d35) (by decide) rfl rfl ?_
        refine iincV X7.here hexec rfl 1 (hb hbytes d38) (by decide) rfl rfl ?_
        refine XS.goto X7.here hexec rfl (pc0 := 41) rfl (hb hbytes d41) (by decide) rfl ?_
        exact Steps.refl _)
      have c10 : Steps p.tables e below (s₁.setTop (entryFrame m #[.ref b, .int (Int32.ofNat o), .ref d, .int (Int32.ofNat q), .int (Int32.ofNat len)] 7)) (T7.setTop (mkF m 3 #[.val (.ref b), .val (.int (Int32.ofNat (o + (i + 1)))), .val (.ref d), .val (.int (Int32.ofNat (q + (i + 1)))), .val (.int (Int32.ofNat len)), .val (.int (Int32.ofNat (i + 1))), .val (.int (cv A (o + i)))] [])) := by
        have := c9
        rw [succ32, succ32, succ32] at this
        exact this
      exact ih (i + 1) (by omega) _ (Or.inr ⟨_, rfl, rfl⟩) T7 _ (by rw [copyLocs_step, ← List.append_assoc]; exact X7) (pl.trans p7) (fl.step (by omega) hlt (by simp)) c10
  obtain ⟨T9, B9, z9, X9, p9, f9, g9⟩ := loop len 0 (by omega) .unset (Or.inl rfl) s₁ B (by simpa [copyLocs] using X0) ⟨hB0.1, fun _ _ => rfl, rfl⟩ (Laid.zero _ _ _) c2
  have c11 : Steps p.tables e below (s₁.setTop (entryFrame m #[.ref b, .int (Int32.ofNat o), .ref d, .int (Int32.ofNat q), .int (Int32.ofNat len)] 7)) (T9.setTop (mkF m 46 #[.val (.ref b), .val (.int (Int32.ofNat (o + len))), .val (.ref d), .val (.int (Int32.ofNat (q + len))), .val (.int (Int32.ofNat len)), .val (.int (Int32.ofNat len)), z9] [.int (Int32.ofNat len)])) := g9.trans (by
    refine XS.iload X9.here hexec rfl (hb hbytes d3) rfl ?_
    refine XS.iload X9.here hexec rfl (hb hbytes d5) rfl ?_
    refine XS.icmpYes X9.here hexec rfl (pc0 := 7) rfl (hb hbytes d7) rfl (ii_ge_t (nlt32 (by omega) (Nat.le_refl _))) (by decide) rfl ?_
    refine XS.iload X9.here hexec rfl (hb hbytes d44) rfl ?_
    exact Steps.refl _)
  exact ⟨T9, some (.int (Int32.ofNat len)), _, _, _, X9, by simp, rfl, rfl, (fun h => by cases h), ⟨rfl, B9, p9.from hh0, f9⟩, fun fs hl => c11.trans (X9.ireturnOut hexec hret rfl (Or.inl rfl) (hb hbytes d46) hl)⟩
end Cmp5
namespace Cmp3
def yN : MethodName := ⟨"java/lang/StringUTF16", "compress", "([CII)[B"⟩
abbrev yB : ByteArray := jdk_52_method_16_code
theorem d0 : decode yB 0 = .ok (.iload_n 2, 1) := by decide +kernel
theorem d1 : decode yB 1 = .ok (.newarray .byte, 2) := by decide +kernel
theorem d3 : decode yB 3 = .ok (.astore_n 3, 1) := by decide +kernel
theorem d4 : decode yB 4 = .ok (.aload_n 0, 1) := by decide +kernel
theorem d5 : decode yB 5 = .ok (.iload_n 1, 1) := by decide +kernel
theorem d6 : decode yB 6 = .ok (.aload_n 3, 1) := by decide +kernel
theorem d7 : decode yB 7 = .ok (.iconst 0, 1) := by decide +kernel
theorem d8 : decode yB 8 = .ok (.iload_n 2, 1) := by decide +kernel
theorem d9 : decode yB 9 = .ok (.invokestatic 115, 3) := by decide +kernel
theorem d12 : decode yB 12 = .ok (.istore 4, 2) := by decide +kernel
theorem d14 : decode yB 14 = .ok (.iload 4, 2) := by decide +kernel
theorem d16 : decode yB 16 = .ok (.iload_n 2, 1) := by decide +kernel
theorem d17 : decode yB 17 = .ok (.if_icmp (.eq) 40, 3) := by decide +kernel
theorem d57 : decode yB 57 = .ok (.aload_n 3, 1) := by decide +kernel
theorem d58 : decode yB 58 = .ok (.areturn, 1) := by decide +kernel
def site : List Cond := [.arrayClass .byte, Cmp5.tab] ++ staticW U16 115 Cmp5.yN
def tab : Cond := tabOf yN yB 6 (some (.array .byte)) site
def P (b : Addr) (A : Cell) (o len : Nat) (args : Array Value) (s : State) : Prop := args = #[.ref b, .int (Int32.ofNat o), .int (Int32.ofNat len)] ∧ Ch b A s ∧ o + len ≤ A.slots.size ∧ len ≤ 536870912 ∧ ∀ i, i < len → ¬ 255 < cv A (o + i)
def E (b : Addr) (A : Cell) (o len : Nat) (r : Option Value) (s u : State) : Prop := NewArr .byte "[B" len (fun j => .int (lo8 (cv A (o + j)))) r s u ∧ u.heap.size = s.heap.size + 1
/-- no char of the range above 255: a new byte[] of their low bytes -/
theorem law (l : Launch) (b : Addr) (A : Cell) (o len : Nat) : Law l yN 3 3 1 18 yB 6 (some (.array .byte)) site (P b A o len) (E b A o len) [] 1 len := by
  refine Law.of_walk (plainFor_of_name (by decide +kernel)) (by decide +kernel) (by decide +kernel) (by decide) (fun _ _ h => by rw [h.1]; rfl) (fun _ U U' hal hh h => ⟨h.1, h.2.1.mv hal hh, h.2.2⟩) (fun r U U' V V' h1 hal h2 h => ⟨NewArr.mv r U U' V V' h1 hal h2 h.1, by rw [h1, h2]; exact h.2⟩) ?_
  intro p e s m args below meth c s₁ X0 hexec hbytes hml hret hlk hnm hown hh0 W hP
  obtain ⟨rfl, hA, l1, l2, hp⟩ := hP
  have a31 := hA.1.2.2.2
  have c1 : Steps p.tables e below (s₁.setTop (entryFrame m #[.ref b, .int (Int32.ofNat o), .int (Int32.ofNat len)] 6)) (s₁.setTop (mkF m 0 #[.val (.ref b), .val (.int (Int32.ofNat o)), .val (.int (Int32.ofNat len)), .unset, .unset, .unset] [])) := entry rfl
  have c2 : Steps p.tables e below (s₁.setTop (entryFrame m #[.ref b, .int (Int32.ofNat o), .int (Int32.ofNat len)] 6)) (s₁.setTop (mkF m 1 #[.val (.ref b), .val (.int (Int32.ofNat o)), .val (.int (Int32.ofNat len)), .unset, .unset, .unset] [.int (Int32.ofNat len)])) := c1.trans (by
    refine XS.iloadN X0.here hexec rfl (hb hbytes d0) rfl ?_
    exact Steps.refl _)
  obtain ⟨T3, B3, X3, ba3, bs3, bv3, bh3, bf3, st3⟩ := X0.anew hexec (atype := .byte) (wk W (.arrayClass .byte)) rfl (by show len * 1 ≤ _; omega) (by omega) (g := (mkF m 1 #[.val (.ref b), .val (.int (Int32.ofNat o)), .val (.int (Int32.ofNat len)), .unset, .unset, .unset] [.int (Int32.ofNat len)])) rfl (hb hbytes d1) (rest := []) rfl (Nat.le_refl _) (by show 0 + len ≤ len; omega)
  rw [hh0] at ba3 st3
  have kp3 : XT.Kept s T3 := (XT.Kept.of_eq hh0).push bh3
  have hA3 := hA.keep X3.warmed.alike (kp3 _ _ hA.1.1)
  have hne : b ≠ s.heap.size := hA.1.ne
  have c4 : Steps p.tables e below (s₁.setTop (entryFrame m #[.ref b, .int (Int32.ofNat o), .int (Int32.ofNat len)] 6)) (T3.setTop (mkF m 3 #[.val (.ref b), .val (.int (Int32.ofNat o)), .val (.int (Int32.ofNat len)), .unset, .unset, .unset] [.ref s.heap.size])) := c2.trans (st3 _ (Steps.refl _))
  have c5 : Steps p.tables e below (s₁.setTop (entryFrame m #[.ref b, .int (Int32.ofNat o), .int (Int32.ofNat len)] 6)) (T3.setTop (mkF m 9 #[.val (.ref b), .val (.int (Int32.ofNat o)), .val (.int (Int32.ofNat len)), .val (.ref s.heap.size), .unset, .unset] [.int (Int32.ofNat len), .int 0, .ref s.heap.size, .int (Int32.ofNat o), .ref b])) := c4.trans (by
    refine XS.astoreN X3.here hexec rfl (hb hbytes d3) rfl rfl rfl ?_
    refine XS.aloadN X3.here hexec rfl (hb hbytes d4) rfl rfl ?_
    refine XS.iloadN X3.here hexec rfl (hb hbytes d5) rfl ?_
    refine XS.aloadN X3.here hexec rfl (hb hbytes d6) rfl rfl ?_
    refine iconstV X3.here hexec rfl 0 (hb hbytes d7) (by decide) ?_
    refine XS.iloadN X3.here hexec rfl (hb hbytes d8) rfl ?_
    exact Steps.refl _)
  obtain ⟨v6, T6, X6, E6, g6⟩ := X3.callS hexec (Cmp5.law l b A s.heap.size B3 o 0 len) hown (wks W (staticW U16 115 Cmp5.yN)) (wk W Cmp5.tab) (W := 0) (Nat.le_of_ble_eq_true rfl) (Nat.le_of_ble_eq_true rfl) (Nat.le_refl _) (by show 0 + len + 0 ≤ len; omega) (g := (mkF m 9 #[.val (.ref b), .val (.int (Int32.ofNat o)), .val (.int (Int32.ofNat len)), .val (.ref s.heap.size), .unset, .unset] [.int (Int32.ofNat len), .int (Int32.ofNat 0), .ref s.heap.size, .int (Int32.ofNat o), .ref b])) rfl (by rw [hml]; rfl) c5 (argsL := [.ref b, .int (Int32.ofNat o), .ref s.heap.size, .int (Int32.ofNat 0), .int (Int32.ofNat len)]) (rest := []) rfl rfl (by show 2 * 0 + 0 ≤ _; decide) (hb hbytes d9) (⟨rfl, hA3, ba3, hne, l1, by rw [bs3]; simp, hp⟩)
  obtain ⟨rfl, B6, p6, f6⟩ := E6
  have c7 : Steps p.tables e below (s₁.setTop (entryFrame m #[.ref b, .int (Int32.ofNat o), .int (Int32.ofNat len)] 6)) (T6.setTop (mkF m 12 #[.val (.ref b), .val (.int (Int32.ofNat o)), .val (.int (Int32.ofNat len)), .val (.ref s.heap.size), .unset, .unset] [.int (Int32.ofNat len)])) := g6
  have c8 : Steps p.tables e below (s₁.setTop (entryFrame m #[.ref b, .int (Int32.ofNat o), .int (Int32.ofNat len)] 6)) (T6.setTop (mkF m 58 #[.val (.ref b), .val (.int (Int32.ofNat o)), .val (.int (Int32.ofNat len)), .val (.ref s.heap.size), .val (.int (Int32.ofNat len)), .unset] [.ref s.heap.size])) := c7.trans (by
    refine XS.istore X6.here hexec rfl (hb hbytes d12) rfl rfl ?_
    refine XS.iload X6.here hexec rfl (hb hbytes d14) rfl ?_
    refine XS.iloadN X6.here hexec rfl (hb hbytes d16) rfl ?_
    refine XS.icmpYes X6.here hexec rfl (pc0 := 17) rfl (hb hbytes d17) rfl (ii_eq_t rfl) (by decide) rfl ?_
    refine XS.aloadN X6.here hexec rfl (hb hbytes d57) rfl rfl ?_
    exact Steps.refl _)
  have X8 := X6.wide (L' := []) (cells' := 1) (slots' := len) (fun x hx hlt => by
    simp only [List.nil_append, copyLocs, List.mem_map, List.mem_range] at hx
    obtain ⟨i, -, rfl⟩ := hx
    exact absurd hlt (Nat.lt_irrefl _)) (Nat.le_refl _) (by omega)
  exact ⟨T6, some (.ref s.heap.size), _, _, _, X8, rfl, rfl, rfl, (fun h => by cases h), ⟨⟨rfl, B6, ba3.like (X3.warmed.alike.symm.trans X6.warmed.alike) p6.1 f6.1 f6.2.1 f6.2.2.1, f6.2.1.trans bv3, by rw [X6.warmed.alike.findClass, f6.1]; exact bf3, by rw [f6.2.2.1, bs3]; simp, fun j hj => by rw [f6.2.2.2 j, if_pos (by omega)]; rfl, kp3.put p6 (Nat.le_refl _)⟩, by rw [p6.2.2, bh3, hh0]; simp⟩, fun fs hl => c8.trans (X8.areturnOut hexec rfl hret rfl (hb hbytes d58) hl)⟩
end Cmp3
namespace CodL
def yN : MethodName := ⟨"java/lang/StringUTF16", "coderFromArrayLen", "([BI)B"⟩
abbrev yB : ByteArray := jdk_52_method_15_code
theorem d0 : decode yB 0 = .ok (.iload_n 1, 1) := by decide +kernel
theorem d1 : decode yB 1 = .ok (.aload_n 0, 1) := by decide +kernel
theorem d2 : decode yB 2 = .ok (.arraylength, 1) := by decide +kernel
theorem d3 : decode yB 3 = .ok (.isub, 1) := by decide +kernel
theorem d4 : decode yB 4 = .ok (.bipush 31, 2) := by decide +kernel
theorem d6 : decode yB 6 = .ok (.iushr, 1) := by decide +kernel
theorem d7 : decode yB 7 = .ok (.i2b, 1) := by decide +kernel
theorem d8 : decode yB 8 = .ok (.ireturn, 1) := by decide +kernel
def site : List Cond := []
def tab : Cond := tabOf yN yB 2 (some .byte) site
def P (d : Addr) (B : Cell) (args : Array Value) (s : State) : Prop := args = #[.ref d, .int (Int32.ofNat B.slots.size)] ∧ Arr .byte d B s
def E (r : Option Value) (s u : State) : Prop := XT.PureE (some (.int 0)) r s u
/-- an array as long as the number of chars: LATIN1 -/
theorem law (l : Launch) (d : Addr) (B : Cell) : Law l yN 2 2 0 0 yB 2 (some .byte) site (P d B) E [] 0 0 := by
  refine Law.of_walk (plainFor_of_name (by decide +kernel)) (by decide +kernel) (by decide +kernel) (by decide) (fun _ _ h => by rw [h.1]; rfl) (fun _ U U' hal hh h => ⟨h.1, h.2.mv hal hh⟩) (fun r U U' V V' h1 hal h2 h => XT.PureE.mv r U U' V V' h1 hal h2 h) ?_
  intro p e s m args below meth c s₁ X0 hexec hbytes hml hret hlk hnm hown hh0 W hP
  obtain ⟨rfl, hB⟩ := hP
  have hB0 := hB.mv X0.warmed.alike hh0
  have c1 : Steps p.tables e below (s₁.setTop (entryFrame m #[.ref d, .int (Int32.ofNat B.slots.size)] 2)) (s₁.setTop (mkF m 0 #[.val (.ref d), .val (.int (Int32.ofNat B.slots.size))] [])) := entry rfl
  have c2 : Steps p.tables e below (s₁.setTop (entryFrame m #[.ref d, .int (Int32.ofNat B.slots.size)] 2)) (s₁.setTop (mkF m 2 #[.val (.ref d), .val (.int (Int32.ofNat B.slots.size))] [.ref d, .int (Int32.ofNat B.slots.size)])) := c1.trans (by
    refine XS.iloadN X0.here hexec rfl (hb hbytes d0) rfl ?_
    refine XS.aloadN X0.here hexec rfl (hb hbytes d1) rfl rfl ?_
    exact Steps.refl _)
  have c3 : Steps p.tables e below (s₁.setTop (entryFrame m #[.ref d, .int (Int32.ofNat B.slots.size)] 2)) (s₁.setTop (mkF m 8 #[.val (.ref d), .val (.int (Int32.ofNat B.slots.size))] [.int (lo8 (ushr (Int32.ofNat B.slots.size - Int32.ofNat B.slots.size) 31))])) := c2.trans (by
    refine X0.alen hexec hB0 rfl rfl (hb hbytes d2) ?_
    refine XS.isub X0.here hexec rfl (hb hbytes d3) rfl ?_
    refine bipushV X0.here hexec rfl 31 (hb hbytes d4) (by decide) ?_
    refine iushr X0.here hexec rfl (hb hbytes d6) rfl ?_
    refine i2b X0.here hexec rfl (hb hbytes d7) rfl ?_
    exact Steps.refl _)
  have e0 : lo8 (ushr (Int32.ofNat B.slots.size - Int32.ofNat B.slots.size) 31) = 0 := by rw [Int32.sub_self]; decide
  rw [e0] at c3
  exact ⟨s₁, some (.int 0), _, _, _, X0, rfl, rfl, rfl, (fun h => by cases h), ⟨rfl, hh0⟩, fun fs hl => c3.trans (X0.ireturnOut hexec hret rfl (Or.inr (Or.inr (Or.inl rfl))) (hb hbytes d8) hl)⟩
end CodL
/-- the String at a is Latin-1 over a new byte[] (the heap's one new cell): the low bytes of the len chars of A from o on; every cell but a is kept -/
def Got (a : Addr) (D : Cell) (fV fC : Field) (A : Cell) (o len : Nat) (r : Option Value) (s u : State) : Prop := r = none ∧ ∃ D' V : Cell, Blank "java/lang/String" a D' u ∧ Same D D' [fV.slot, fC.slot] ∧ D'.slots[fV.slot]? = some (.ref s.heap.size) ∧ D'.slots[fC.slot]? = some (.int 0) ∧ Arr .byte s.heap.size V u ∧ V.vm = .none ∧ u.vm.findClass "[B" = some V.cls ∧ V.slots.size = len ∧ (∀ j, j < len → V.slots[j]? = some (.int (lo8 (cv A (o + j))))) ∧ (∀ (y : Addr) (c : Cell), y ≠ a → s.heap[y]? = some c → u.heap[y]? = some c) ∧ u.heap.size = s.heap.size + 1
theorem Got.mv {a : Addr} {D A : Cell} {fV fC : Field} {o len : Nat} : ∀ r (U U' V V' : State), U'.heap = U.heap → V.vm.Alike V'.vm → V'.heap = V.heap → Got a D fV fC A o len r U V → Got a D fV fC A o len r U' V' :=
  fun r U U' V V' h1 hal h2 ⟨e0, D', X, a1, a2, a3, a4, a5, a6, a7, a8, a9, a10, a11⟩ => ⟨e0, D', X, a1.mv hal h2, a2, by rw [h1]; exact a3, a4, by rw [h1]; exact a5.mv hal h2, a6, by rw [hal.findClass]; exact a7, a8, a9, by rw [h1, h2]; exact a10, by rw [h1, h2]; exact a11⟩
namespace New4
def yN : MethodName := ⟨"java/lang/String", "<init>", "([CIILjava/lang/Void;)V"⟩
abbrev yB : ByteArray := jdk_42_method_149_code
theorem d0 : decode yB 0 = .ok (.aload_n 0, 1) := by decide +kernel
theorem d1 : decode yB 1 = .ok (.invokespecial 1, 3) := by decide +kernel
theorem d4 : decode yB 4 = .ok (.iload_n 3, 1) := by decide +kernel
theorem d5 : decode yB 5 = .ok (.ifCond (.ne) 22, 3) := by decide +kernel
theorem d27 : decode yB 27 = .ok (.getstatic 38, 3) := by decide +kernel
theorem d30 : decode yB 30 = .ok (.ifCond (.eq) 28, 3) := by decide +kernel
theorem d33 : decode yB 33 = .ok (.aload_n 1, 1) := by decide +kernel
theorem d34 : decode yB 34 = .ok (.iload_n 2, 1) := by decide +kernel
theorem d35 : decode yB 35 = .ok (.iload_n 3, 1) := by decide +kernel
theorem d36 : decode yB 36 = .ok (.invokestatic 177, 3) := by decide +kernel
theorem d39 : decode yB 39 = .ok (.astore 5, 2) := by decide +kernel
theorem d41 : decode yB 41 = .ok (.aload_n 0, 1) := by decide +kernel
theorem d42 : decode yB 42 = .ok (.aload 5, 2) := by decide +kernel
theorem d44 : decode yB 44 = .ok (.iload_n 3, 1) := by decide +kernel
theorem d45 : decode yB 45 = .ok (.invokestatic 47, 3) := by decide +kernel
theorem d48 : decode yB 48 = .ok (.putfield 15, 3) := by decide +kernel
theorem d51 : decode yB 51 = .ok (.aload_n 0, 1) := by decide +kernel
theorem d52 : decode yB 52 = .ok (.aload 5, 2) := by decide +kernel
theorem d54 : decode yB 54 = .ok (.putfield 9, 3) := by decide +kernel
theorem d57 : decode yB 57 = .ok (.return_, 1) := by decide +kernel
def site : List Cond := [.fieldLink "java/lang/String" 38 "java/lang/String" "COMPACT_STRINGS" "Z", Cmp3.tab, CodL.tab, .laysFinal "java/lang/String" "java/lang/String" "value" "[B", .fieldLink "java/lang/String" 9 "java/lang/String" "value" "[B", .laysFinal "java/lang/String" "java/lang/String" "coder" "B", .fieldLink "java/lang/String" 15 "java/lang/String" "coder" "B"] ++ objW "java/lang/String" 1 ++ staticW "java/lang/String" 177 Cmp3.yN ++ staticW "java/lang/String" 47 CodL.yN
def tab : Cond := tabOf yN yB 6 none site
def P (a : Addr) (D : Cell) (fV fC : Field) (b : Addr) (A : Cell) (z : Int32) (o len : Nat) (args : Array Value) (s : State) : Prop := args = #[.ref a, .ref b, .int (Int32.ofNat o), .int (Int32.ofNat len), .null] ∧ Blank "java/lang/String" a D s ∧ Found "java/lang/String" "value" "[B" fV s ∧ Found "java/lang/String" "coder" "B" fC s ∧ Ch b A s ∧ StaticIs s "java/lang/String" "COMPACT_STRINGS" "Z" (.int z) ∧ ¬ z = 0 ∧ 0 < len ∧ o + len ≤ A.slots.size ∧ len ≤ 536870912 ∧ ∀ i, i < len → ¬ 255 < cv A (o + i)
def E (a : Addr) (D : Cell) (fV fC : Field) (A : Cell) (o len : Nat) (r : Option Value) (s u : State) : Prop := Got a D fV fC A o len r s u
/-- len > 0, no char of the range above 255: a Latin-1 String of their low bytes -/
theorem law (l : Launch) (a : Addr) (D : Cell) (fV fC : Field) (b : Addr) (A : Cell) (z : Int32) (o len : Nat) : Law l yN 5 4 2 35 yB 6 none site (P a D fV fC b A z o len) (E a D fV fC A o len) [⟨a, fC.slot⟩, ⟨a, fV.slot⟩] 1 len := by
  refine Law.of_walk (plainFor_of_name (by decide +kernel)) (by decide +kernel) (by decide +kernel) (by decide) (fun _ _ h => by rw [h.1]; rfl) (fun _ U U' hal hh h => ⟨h.1, h.2.1.mv hal hh, h.2.2.1.al hal, h.2.2.2.1.al hal, h.2.2.2.2.1.mv hal hh, h.2.2.2.2.2.1.there hal hh, h.2.2.2.2.2.2⟩) (fun r U U' V V' h1 hal h2 h => Got.mv r U U' V V' h1 hal h2 h) ?_
  intro p e s m args below meth c s₁ X0 hexec hbytes hml hret hlk hnm hown hh0 W hP
  obtain ⟨rfl, hB, f1, f2, hA, s1, hz, l0, l1, l2, hp⟩ := hP
  have a31 := hA.1.2.2.2
  have c1 : Steps p.tables e below (s₁.setTop (entryFrame m #[.ref a, .ref b, .int (Int32.ofNat o), .int (Int32.ofNat len), .null] 6)) (s₁.setTop (mkF m 0 #[.val (.ref a), .val (.ref b), .val (.int (Int32.ofNat o)), .val (.int (Int32.ofNat len)), .val .null, .unset] [])) := entry rfl
  have c2 : Steps p.tables e below (s₁.setTop (entryFrame m #[.ref a, .ref b, .int (Int32.ofNat o), .int (Int32.ofNat len), .null] 6)) (s₁.setTop (mkF m 1 #[.val (.ref a), .val (.ref b), .val (.int (Int32.ofNat o)), .val (.int (Int32.ofNat len)), .val .null, .unset] [.ref a])) := c1.trans (by
    refine XS.aloadN X0.here hexec rfl (hb hbytes d0) rfl rfl ?_
    exact Steps.refl _)
  obtain ⟨T3, X3, q3, st3⟩ := X0.oinit hexec hown (wks W (objW "java/lang/String" 1)) (g := (mkF m 1 #[.val (.ref a), .val (.ref b), .val (.int (Int32.ofNat o)), .val (.int (Int32.ofNat len)), .val .null, .unset] [.ref a])) rfl (by rw [hml]; rfl) (rest := []) rfl (hb hbytes d1) (W := 0) (by show 2 * 0 + 0 ≤ _; decide) (Nat.le_of_ble_eq_true rfl) (Nat.le_of_ble_eq_true rfl)
  have hh3 := q3.trans hh0
  have c4 : Steps p.tables e below (s₁.setTop (entryFrame m #[.ref a, .ref b, .int (Int32.ofNat o), .int (Int32.ofNat len), .null] 6)) (T3.setTop (mkF m 27 #[.val (.ref a), .val (.ref b), .val (.int (Int32.ofNat o)), .val (.int (Int32.ofNat len)), .val .null, .unset] [])) := (c2.trans (st3 _ (Steps.refl _))).trans (by
    refine XS.iloadN X3.here hexec rfl (hb hbytes d4) rfl ?_
    refine XS.ifYes X3.here hexec rfl (pc0 := 5) rfl (hb hbytes d5) rfl (i0_ne_t (nz32 (by omega) l0)) (by decide) rfl ?_
    exact Steps.refl _)
  obtain ⟨T5, X5, q5, st5⟩ := X3.sget hexec hown (wk W (.fieldLink "java/lang/String" 38 "java/lang/String" "COMPACT_STRINGS" "Z")) s1 (fun _ _ h => by rw [hh3]; exact h) (g := (mkF m 27 #[.val (.ref a), .val (.ref b), .val (.int (Int32.ofNat o)), .val (.int (Int32.ofNat len)), .val .null, .unset] [])) rfl (hb hbytes d27)
  have hh5 := q5.trans hh3
  have c6 : Steps p.tables e below (s₁.setTop (entryFrame m #[.ref a, .ref b, .int (Int32.ofNat o), .int (Int32.ofNat len), .null] 6)) (T5.setTop (mkF m 30 #[.val (.ref a), .val (.ref b), .val (.int (Int32.ofNat o)), .val (.int (Int32.ofNat len)), .val .null, .unset] [.int z])) := c4.trans (st5 _ (Steps.refl _))
  have c7 : Steps p.tables e below (s₁.setTop (entryFrame m #[.ref a, .ref b, .int (Int32.ofNat o), .int (Int32.ofNat len), .null] 6)) (T5.setTop (mkF m 36 #[.val (.ref a), .val (.ref b), .val (.int (Int32.ofNat o)), .val (.int (Int32.ofNat len)), .val .null, .unset] [.int (Int32.ofNat len), .int (Int32.ofNat o), .ref b])) := c6.trans (by
    refine XS.ifNo X5.here hexec rfl (hb hbytes d30) rfl (i0_eq_f hz) ?_
    refine XS.aloadN X5.here hexec rfl (hb hbytes d33) rfl rfl ?_
    refine XS.iloadN X5.here hexec rfl (hb hbytes d34) rfl ?_
    refine XS.iloadN X5.here hexec rfl (hb hbytes d35) rfl ?_
    exact Steps.refl _)
  obtain ⟨v8, T8, X8, E8, g8⟩ := X5.callS hexec (Cmp3.law l b A o len) hown (wks W (staticW "java/lang/String" 177 Cmp3.yN)) (wk W Cmp3.tab) (W := 0) (Nat.le_of_ble_eq_true rfl) (Nat.le_of_ble_eq_true rfl) (Nat.le_refl _) (by show 0 + len ≤ len; omega) (g := (mkF m 36 #[.val (.ref a), .val (.ref b), .val (.int (Int32.ofNat o)), .val (.int (Int32.ofNat len)), .val .null, .unset] [.int (Int32.ofNat len), .int (Int32.ofNat o), .ref b])) rfl (by rw [hml]; rfl) c7 (argsL := [.ref b, .int (Int32.ofNat o), .int (Int32.ofNat len)]) (rest := []) rfl rfl (by show 2 * 0 + 0 ≤ _; decide) (hb hbytes d36) (⟨rfl, hA.mv X5.warmed.alike hh5, l1, l2, hp⟩)
  obtain ⟨e8, z8⟩ := E8
  obtain ⟨rfl, N, n1, n2, n3, n4, n5, n6⟩ := NewArr.mv _ T5 s _ _ hh5.symm (Vm.Alike.refl _) rfl e8
  rw [hh5] at z8
  have hB1 := hB.keep X8.warmed.alike (n6 _ _ hB.1)
  have hne : s.heap.size ≠ a := (Nat.ne_of_lt (Array.getElem?_eq_some_iff.mp hB.1).1).symm
  have c9 : Steps p.tables e below (s₁.setTop (entryFrame m #[.ref a, .ref b, .int (Int32.ofNat o), .int (Int32.ofNat len), .null] 6)) (T8.setTop (mkF m 39 #[.val (.ref a), .val (.ref b), .val (.int (Int32.ofNat o)), .val (.int (Int32.ofNat len)), .val .null, .unset] [.ref s.heap.size])) := g8
  have c10 : Steps p.tables e below (s₁.setTop (entryFrame m #[.ref a, .ref b, .int (Int32.ofNat o), .int (Int32.ofNat len), .null] 6)) (T8.setTop (mkF m 45 #[.val (.ref a), .val (.ref b), .val (.int (Int32.ofNat o)), .val (.int (Int32.ofNat len)), .val .null, .val (.ref s.heap.size)] [.int (Int32.ofNat N.slots.size), .ref s.heap.size, .ref a])) := by
    have hc : Steps p.tables e below (s₁.setTop (entryFrame m #[.ref a, .ref b, .int (Int32.ofNat o), .int (Int32.ofNat len), .null] 6)) (T8.setTop (mkF m 45 #[.val (.ref a), .val (.ref b), .val (.int (Int32.ofNat o)), .val (.int (Int32.ofNat len)), .val .null, .val (.ref s.heap.size)] [.int (Int32.ofNat len), .ref s.heap.size, .ref a])) := c9.trans (by
      refine XS.astore X8.here hexec rfl (hb hbytes d39) rfl rfl rfl ?_
      refine XS.aloadN X8.here hexec rfl (hb hbytes d41) rfl rfl ?_
      refine XS.aload X8.here hexec rfl (hb hbytes d42) rfl rfl ?_
      refine XS.iloadN X8.here hexec rfl (hb hbytes d44) rfl ?_
      exact Steps.refl _)
    rw [n4]; exact hc
  obtain ⟨v11, T11, X11, E11, g11⟩ := X8.callS hexec (CodL.law l s.heap.size N) hown (wks W (staticW "java/lang/String" 47 CodL.yN)) (wk W CodL.tab) (W := 1) (Nat.le_of_ble_eq_true rfl) (Nat.le_of_ble_eq_true rfl) (Nat.le_refl _) (by show 0 + len + 0 ≤ len; omega) (g := (mkF m 45 #[.val (.ref a), .val (.ref b), .val (.int (Int32.ofNat o)), .val (.int (Int32.ofNat len)), .val .null, .val (.ref s.heap.size)] [.int (Int32.ofNat N.slots.size), .ref s.heap.size, .ref a])) rfl (by rw [hml]; rfl) c10 (argsL := [.ref s.heap.size, .int (Int32.ofNat N.slots.size)]) (rest := [.ref a]) rfl rfl (by show 2 * 0 + (1 + 0) ≤ _; decide) (hb hbytes d45) (⟨rfl, n1⟩)
  obtain ⟨rfl, q11⟩ := E11
  have hB11 := hB1.mv (X8.warmed.alike.symm.trans X11.warmed.alike) q11
  have c12 : Steps p.tables e below (s₁.setTop (entryFrame m #[.ref a, .ref b, .int (Int32.ofNat o), .int (Int32.ofNat len), .null] 6)) (T11.setTop (mkF m 48 #[.val (.ref a), .val (.ref b), .val (.int (Int32.ofNat o)), .val (.int (Int32.ofNat len)), .val .null, .val (.ref s.heap.size)] [.int 0, .ref a])) := g11
  obtain ⟨T13, X13, p13, bl13, sl13, st13⟩ := X11.finit hexec hown (wk W (.fieldLink "java/lang/String" 15 "java/lang/String" "coder" "B")) (Or.inr ⟨_, (wk W (.laysFinal "java/lang/String" "java/lang/String" "coder" "B"))⟩) (Or.inl ⟨rfl, hnm⟩) f2 (Or.inl rfl) hB11 (t := .byte) (by decide +kernel) rfl (g := (mkF m 48 #[.val (.ref a), .val (.ref b), .val (.int (Int32.ofNat o)), .val (.int (Int32.ofNat len)), .val .null, .val (.ref s.heap.size)] [.int 0, .ref a])) rfl (rest := []) rfl (hb hbytes d48)
  have c14 : Steps p.tables e below (s₁.setTop (entryFrame m #[.ref a, .ref b, .int (Int32.ofNat o), .int (Int32.ofNat len), .null] 6)) (T13.setTop (mkF m 54 #[.val (.ref a), .val (.ref b), .val (.int (Int32.ofNat o)), .val (.int (Int32.ofNat len)), .val .null, .val (.ref s.heap.size)] [.ref s.heap.size, .ref a])) := (c12.trans (st13 _ (Steps.refl _))).trans (by
    refine XS.aloadN X13.here hexec rfl (hb hbytes d51) rfl rfl ?_
    refine XS.aload X13.here hexec rfl (hb hbytes d52) rfl rfl ?_
    exact Steps.refl _)
  obtain ⟨T15, X15, p15, bl15, sl15, st15⟩ := X13.finit hexec hown (wk W (.fieldLink "java/lang/String" 9 "java/lang/String" "value" "[B")) (Or.inr ⟨_, (wk W (.laysFinal "java/lang/String" "java/lang/String" "value" "[B"))⟩) (Or.inl ⟨rfl, hnm⟩) f1 (Or.inl rfl) bl13 (t := (.array .byte)) (by decide +kernel) rfl (g := (mkF m 54 #[.val (.ref a), .val (.ref b), .val (.int (Int32.ofNat o)), .val (.int (Int32.ofNat len)), .val .null, .val (.ref s.heap.size)] [.ref s.heap.size, .ref a])) rfl (rest := []) rfl (hb hbytes d54)
  have c16 : Steps p.tables e below (s₁.setTop (entryFrame m #[.ref a, .ref b, .int (Int32.ofNat o), .int (Int32.ofNat len), .null] 6)) (T15.setTop (mkF m 57 #[.val (.ref a), .val (.ref b), .val (.int (Int32.ofNat o)), .val (.int (Int32.ofNat len)), .val .null, .val (.ref s.heap.size)] [])) := c14.trans (st15 _ (Steps.refl _))
  have ap := apart (Or.inr ⟨_, (wk W (.laysFinal "java/lang/String" "java/lang/String" "value" "[B"))⟩) (Or.inr ⟨_, (wk W (.laysFinal "java/lang/String" "java/lang/String" "coder" "B"))⟩) f1 f2 (t₁ := .array .byte) (t₂ := .byte) (by decide +kernel) (by decide +kernel) (by decide)
  have al := X8.warmed.alike.symm.trans X15.warmed.alike
  have n7 : T11.heap[s.heap.size]? = some N := by rw [q11]; exact n1.1
  exact ⟨T15, none, _, _, _, X15, by simp, rfl, by omega, (fun _ => rfl), ⟨rfl, _, N, bl15, ((Same.refl D _).set _ (by simp)).set _ (by simp), sl15, (Cell.slots_setSlot_ne _ ap).trans sl13, n1.keep al (p15.other hne (p13.other hne n7)), n2, by rw [al.findClass]; exact n3, n4, n5, fun y c h1 h2 => p15.other h1 (p13.other h1 (by rw [q11]; exact n6 y c h2)), by rw [p15.2.2, p13.2.2, q11]; exact z8⟩, fun fs hl => c16.trans (X15.returnOut hexec hret (hb hbytes d57) hl)⟩
end New4
namespace New1
def yN : MethodName := ⟨"java/lang/String", "<init>", "([C)V"⟩
abbrev yB : ByteArray := jdk_42_method_3_code
theorem d0 : decode yB 0 = .ok (.aload_n 0, 1) := by decide +kernel
theorem d1 : decode yB 1 = .ok (.aload_n 1, 1) := by decide +kernel
theorem d2 : decode yB 2 = .ok (.iconst 0, 1) := by decide +kernel
theorem d3 : decode yB 3 = .ok (.aload_n 1, 1) := by decide +kernel
theorem d4 : decode yB 4 = .ok (.arraylength, 1) := by decide +kernel
theorem d5 : decode yB 5 = .ok (.aconst_null, 1) := by decide +kernel
theorem d6 : decode yB 6 = .ok (.invokespecial 27, 3) := by decide +kernel
theorem d9 : decode yB 9 = .ok (.return_, 1) := by decide +kernel
def site : List Cond := [New4.tab] ++ initW "java/lang/String" 27 New4.yN
def tab : Cond := tabOf yN yB 2 none site
def P (a : Addr) (D : Cell) (fV fC : Field) (b : Addr) (A : Cell) (z : Int32) (args : Array Value) (s : State) : Prop := args = #[.ref a, .ref b] ∧ Blank "java/lang/String" a D s ∧ Found "java/lang/String" "value" "[B" fV s ∧ Found "java/lang/String" "coder" "B" fC s ∧ Ch b A s ∧ StaticIs s "java/lang/String" "COMPACT_STRINGS" "Z" (.int z) ∧ ¬ z = 0 ∧ 0 < A.slots.size ∧ A.slots.size ≤ 536870912 ∧ ∀ i, i < A.slots.size → ¬ 255 < cv A i
def E (a : Addr) (D : Cell) (fV fC : Field) (A : Cell) (r : Option Value) (s u : State) : Prop := Got a D fV fC A 0 A.slots.size r s u
/-- new String(chars), not empty, no char above 255: a Latin-1 String of their low bytes -/
theorem law (l : Launch) (a : Addr) (D : Cell) (fV fC : Field) (b : Addr) (A : Cell) (z : Int32) : Law l yN 2 1 3 52 yB 2 none site (P a D fV fC b A z) (E a D fV fC A) [⟨a, fC.slot⟩, ⟨a, fV.slot⟩] 1 A.slots.size := by
  refine Law.of_walk (plainFor_of_name (by decide +kernel)) (by decide +kernel) (by decide +kernel) (by decide) (fun _ _ h => by rw [h.1]; rfl) (fun _ U U' hal hh h => ⟨h.1, h.2.1.mv hal hh, h.2.2.1.al hal, h.2.2.2.1.al hal, h.2.2.2.2.1.mv hal hh, h.2.2.2.2.2.1.there hal hh, h.2.2.2.2.2.2⟩) (fun r U U' V V' h1 hal h2 h => Got.mv r U U' V V' h1 hal h2 h) ?_
  intro p e s m args below meth c s₁ X0 hexec hbytes hml hret hlk hnm hown hh0 W hP
  obtain ⟨rfl, hB, f1, f2, hA, s1, hz, l0, l2, hp⟩ := hP
  have c1 : Steps p.tables e below (s₁.setTop (entryFrame m #[.ref a, .ref b] 2)) (s₁.setTop (mkF m 0 #[.val (.ref a), .val (.ref b)] [])) := entry rfl
  have c2 : Steps p.tables e below (s₁.setTop (entryFrame m #[.ref a, .ref b] 2)) (s₁.setTop (mkF m 6 #[.val (.ref a), .val (.ref b)] [.null, .int (Int32.ofNat A.slots.size), .int 0, .ref b, .ref a])) := c1.trans (by
    refine XS.aloadN X0.here hexec rfl (hb hbytes d0) rfl rfl ?_
    refine XS.aloadN X0.here hexec rfl (hb hbytes d1) rfl rfl ?_
    refine iconstV X0.here hexec rfl 0 (hb hbytes d2) (by decide) ?_
    refine XS.aloadN X0.here hexec rfl (hb hbytes d3) rfl rfl ?_
    refine X0.alen hexec (hA.1.mv X0.warmed.alike hh0) rfl rfl (hb hbytes d4) ?_
    refine XS.aconstNull X0.here hexec rfl (hb hbytes d5) ?_
    exact Steps.refl _)
  obtain ⟨v3, T3, X3, E3, g3⟩ := X0.callN hexec (New4.law l a D fV fC b A z 0 A.slots.size) rfl hown (wks W (initW "java/lang/String" 27 New4.yN)) (W New4.tab (by simp only [site, List.mem_cons, List.mem_append, true_or, or_true])) (W := 0) (Nat.le_of_ble_eq_true rfl) (Nat.le_of_ble_eq_true rfl) (Nat.le_refl _) (by show 0 + A.slots.size ≤ A.slots.size; omega) (g := (mkF m 6 #[.val (.ref a), .val (.ref b)] [.null, .int (Int32.ofNat A.slots.size), .int (Int32.ofNat 0), .ref b, .ref a])) rfl (by rw [hml]; rfl) c2 (argsL := [.ref b, .int (Int32.ofNat 0), .int (Int32.ofNat A.slots.size), .null]) (rest := []) rfl rfl (by show 2 * 0 + 0 ≤ _; decide) (hb hbytes d6) (⟨rfl, hB.mv X0.warmed.alike hh0, f1.al X0.warmed.alike, f2.al X0.warmed.alike, hA.mv X0.warmed.alike hh0, s1.there X0.warmed.alike hh0, hz, l0, by omega, l2, fun i hi => by rw [Nat.zero_add]; exact hp i hi⟩)
  have e0 := Got.mv _ s₁ s _ _ hh0.symm (Vm.Alike.refl _) rfl E3
  obtain rfl := e0.1
  have c4 : Steps p.tables e below (s₁.setTop (entryFrame m #[.ref a, .ref b] 2)) (T3.setTop (mkF m 9 #[.val (.ref a), .val (.ref b)] [])) := g3
  exact ⟨T3, none, _, _, _, X3, by simp, rfl, by omega, (fun _ => rfl), e0, fun fs hl => c4.trans (X3.returnOut hexec hret (hb hbytes d9) hl)⟩
theorem pays {l : Launch} {R : Room} {p : Program} {e : Env} {below : List Frame} {s : State} {sargs : Array Value} {len W : Nat} (a : Addr) (D : Cell) (fV fC : Field) (b : Addr) (A : Cell) (z : Int32) (htab : tab.before sargs s = true) (hfr : 4 ≤ R.frames) (hlo : W + 65 ≤ R.locals) :
    Back l R p e below s sargs yN len W (fun A₁ a₁ => A₁.cells + 1 ≤ R.cells ∧ A₁.slots + A.slots.size ≤ R.slots ∧ P a D fV fC b A z a₁ A₁.U) (fun A₁ _ v₁ B₁ => E a D fV fC A v₁ A₁.U B₁.U ∧ B₁.locs = A₁.locs ++ [⟨a, fC.slot⟩, ⟨a, fV.slot⟩] ∧ B₁.cells = A₁.cells + 1 ∧ B₁.slots = A₁.slots + A.slots.size) :=
  (law l a D fV fC b A z).pays htab hfr (by omega)
end New1
/-- the byte, read back as charAt reads it, is the char -/
theorem lo8_mask {x : Int32} (h0 : ¬ x < 0) (h1 : ¬ 255 < x) : lo8 x &&& 255 = x := by
  have t : ∀ k : Fin 256, lo8 (Int32.ofNat k.val) &&& 255 = Int32.ofNat k.val := by decide +kernel
  rw [Int32.lt_iff_toInt_lt] at h0 h1
  have e0 : (0 : Int32).toInt = 0 := rfl
  have e1 : (255 : Int32).toInt = 255 := rfl
  obtain ⟨k, hk⟩ : ∃ k : Nat, x.toInt = k := ⟨x.toInt.toNat, by omega⟩
  have hx : x = Int32.ofNat k := Int32.toInt_inj.mp (by rw [hk, Int32.toInt_ofNat_small (by omega)])
  rw [hx]
  exact t ⟨k, by omega⟩
end StrChars
namespace StrChars.Road
open Jvm Sem ClassFile Op Lib Jvm.Stand Jvm.Free Jvm.Free.XT
open Jvm.Lib.Cold (StaticIs)
abbrev ST : String := "java/lang/String"
/-- every table word that New1's law asks, flat -/
abbrev words : List Jvm.Cond := [.code New1.yN New1.yB 2 none, .initialized ST, .methodLink ST 27 New4.yN, .instanceMethod New4.yN,
  .code New4.yN New4.yB 6 none, .fieldLink ST 38 ST "COMPACT_STRINGS" "Z", .laysFinal ST ST "value" "[B", .fieldLink ST 9 ST "value" "[B", .laysFinal ST ST "coder" "B", .fieldLink ST 15 ST "coder" "B",
  .methodLink ST 1 Lib.objectInit, .instanceMethod Lib.objectInit, .code Lib.objectInit ⟨#[0xb1]⟩ 1 none, .methodLink ST 177 Cmp3.yN, .static Cmp3.yN, .methodLink ST 47 CodL.yN, .static CodL.yN,
  .code Cmp3.yN Cmp3.yB 6 (some (.array .byte)), .initialized U16, .arrayClass .byte, .methodLink U16 115 Cmp5.yN, .static Cmp5.yN, .code Cmp5.yN Cmp5.yB 7 (some .int), .code CodL.yN CodL.yB 2 (some .byte)]
theorem tab_of {a : Array Value} {s : State} (h : ∀ w ∈ words, w.before a s = true) : New1.tab.before a s = true := by
  have h5 : Cmp5.tab.before a s = true := unparts (wk h (.code Cmp5.yN Cmp5.yB 7 (some .int))) (wks h (.initialized Cmp5.yN.cls :: Cmp5.site))
  have hc : CodL.tab.before a s = true := unparts (wk h (.code CodL.yN CodL.yB 2 (some .byte))) (wks h (.initialized CodL.yN.cls :: CodL.site))
  have q5 : ∀ w ∈ Cmp5.tab :: words, w.before a s = true := fun w hw => (List.mem_cons.mp hw).elim (fun e => e ▸ h5) (h w)
  have h3 : Cmp3.tab.before a s = true := unparts (wk q5 (.code Cmp3.yN Cmp3.yB 6 (some (.array .byte)))) (wks q5 (.initialized Cmp3.yN.cls :: Cmp3.site))
  have q3 : ∀ w ∈ Cmp3.tab :: CodL.tab :: words, w.before a s = true := fun w hw => (List.mem_cons.mp hw).elim (fun e => e ▸ h3) fun hw => (List.mem_cons.mp hw).elim (fun e => e ▸ hc) (h w)
  have h4 : New4.tab.before a s = true := unparts (wk q3 (.code New4.yN New4.yB 6 none)) (wks q3 (.initialized New4.yN.cls :: New4.site))
  have q4 : ∀ w ∈ New4.tab :: words, w.before a s = true := fun w hw => (List.mem_cons.mp hw).elim (fun e => e ▸ h4) (h w)
  exact unparts (wk q4 (.code New1.yN New1.yB 2 none)) (wks q4 (.initialized New1.yN.cls :: New1.site))
/-- the words ride from the start Z to the walk's own state -/
theorem moved {Z s : State} {a0 args : Array Value} (hZ : Z.Warmed39 s.vm) (hw : ∀ d ∈ words, d.before a0 Z = true) : ∀ d ∈ words, d.before args s = true := fun d hd => by
  have q := hw d hd
  have t : ∀ d ∈ words, d = .arrayClass .byte ∨ (d.onTables && d.keepsFace) = true := by decide +kernel
  rcases t d hd with rfl | t
  · exact RoadKit.mvA hZ q
  · exact RoadKit.mv hZ q t
/-- WHAT COMES BACK, over the tables of the start Z: h the heap at the call, h' behind it -/
def Q (Z : State) (x : Addr) (A : Cell) (h : Heap) (v : Option Value) (h' : Heap) (L : List Loc) : Prop := v = none ∧ (∀ y ∈ L, y.base = x) ∧ RoadKit.Keep h h' [x] ∧ h'.size = h.size + 1 ∧ RoadKit.Exa Z h' x ST ∧ RoadKit.Fld Z h' x ST "value" "[B" (.ref h.size) ∧ RoadKit.Fld Z h' x ST "coder" "B" (.int 0) ∧
  (∃ V : Cell, RoadKit.Arr Z h' h.size V .byte ∧ V.vm = .none ∧ Z.vm.findClass "[B" = some V.cls ∧ V.slots.size = A.slots.size ∧ ∀ j, j < A.slots.size → V.slots[j]? = some (.int (lo8 (cv A j)))) ∧
  ∀ (O n d : String) (w : Value), RoadKit.Fld Z h x O n d w → RoadKit.slotOf Z O n d ≠ RoadKit.slotOf Z ST "value" "[B" → RoadKit.slotOf Z O n d ≠ RoadKit.slotOf Z ST "coder" "B" → RoadKit.Fld Z h' x O n d w
/-- **new String(chars) AT A CALL, IN THE ROAD'S FORM**: for specialBack behind newO: x the fresh String, b the char[] with the cell A -/
theorem back {p : Program} {l : Launch} {e : Env} {R : Room} {s : State} {args : Array Value} {below : List Frame} {len W : Nat} {Z : State} {a0 : Array Value} {h : Heap} (hZ : Z.Warmed39 s.vm) (hw : ∀ d ∈ words, d.before a0 Z = true) {kI : Nat} (wi : (Jvm.Cond.instantiable ST kI).before a0 Z = true)
    {x b : Addr} {A : Cell} {z : Int32} {v0 c0 : Value} (E : RoadKit.Exa Z h x ST) (V : RoadKit.Fld Z h x ST "value" "[B" v0) (C : RoadKit.Fld Z h x ST "coder" "B" c0) (K : RoadKit.Arr Z h b A .char) (hty : Typed .char A) (S : RoadKit.Sta Z h ST "COMPACT_STRINGS" "Z" (.int z)) (hz : ¬ z = 0)
    (l0 : 0 < A.slots.size) (l2 : A.slots.size ≤ 536870912) (hp : ∀ i, i < A.slots.size → ¬ 255 < cv A i) (hfr : 4 ≤ R.frames) (hlo : W + 65 ≤ R.locals) :
    Back l R p e below s args New1.yN len W (fun P a => a = #[.ref x, .ref b] ∧ P.U.heap = h ∧ P.cells + 1 ≤ R.cells ∧ P.slots + A.slots.size ≤ R.slots)
      (fun P _ v B => ∃ L, Q Z x A h v B.U.heap L ∧ B.locs = P.locs ++ L ∧ B.cells = P.cells + 1 ∧ B.slots = P.slots + A.slots.size) := by
  intro m meth c P g ig mk a X hg hsize hdg hW hn hp'
  obtain ⟨rfl, rfl, r1, r2⟩ := hp'
  have al : Z.vm.Alike P.U.vm := hZ.alike.trans X.warmed.alike
  obtain ⟨D, cfV, kV, iV, fV, hD, gV, stV, knV, obV, asV, slV⟩ := id V
  obtain ⟨D', cfC, kC, iC, fC, hD', gC, stC, -, -, asC, slC⟩ := id C
  cases hD.symm.trans hD'
  obtain ⟨D2, kD, e1, e2, e3, e4, e5⟩ := id E
  cases hD.symm.trans e1
  obtain ⟨c2, k2, i1, i2, i3, -⟩ := Cond.instantiable_spec wi
  cases e2.symm.trans i1
  cases e3.symm.trans i2
  obtain ⟨kU, u1, u2⟩ := al.2.2 _ _ e3
  have hB : Blank ST x D P.U := ⟨hD, ⟨knV, fun q hq => by rw [hq] at obV; cases obV⟩, by rw [al.findClass]; exact e2, kU, u1, by rw [u2]; exact i3, by rw [u2]; exact e5 i3⟩
  have F1 : Found ST "value" "[B" fV P.U := ⟨SBG.found_only al ⟨cfV, kV, iV, gV⟩, stV⟩
  have F2 : Found ST "coder" "B" fC P.U := ⟨SBG.found_only al ⟨cfC, kC, iC, gC⟩, stC⟩
  have hA : Ch b A P.U := ⟨⟨K.1, State.isArrayOf_alike al K.2.1, K.2.2, by omega⟩, hty⟩
  have hS : StaticIs P.U ST "COMPACT_STRINGS" "Z" (.int z) := by
    obtain ⟨cfS, iS, kS, fS, st, cS, t1, t2, t3, t4, t5, t6, t7⟩ := S
    exact StaticIs.there (s := { Z with heap := P.U.heap }) ⟨cfS, iS, kS, fS, st, cS, t1, t2, t3, t4, t5, (fun q => by rw [q] at t6; cases t6), t7⟩ al rfl
  obtain ⟨v, B, X', ⟨⟨hv, E', V', q1, q2, q3, q4, q5, q6, q7, q8, q9, q10, q11⟩, hl, hc, hs⟩, st⟩ := New1.pays x D fV fC b A z (tab_of (moved hZ hw)) hfr hlo m meth c P g ig mk _ X hg hsize hdg hW hn ⟨r1, r2, rfl, hB, F1, F2, hA, hS, hz, l0, l2, hp⟩
  have al' : Z.vm.Alike B.U.vm := hZ.alike.trans X'.warmed.alike
  have hsz : E'.slots.size = D.slots.size := by
    obtain ⟨-, -, -, kB, w1, w2, w3⟩ := q1
    obtain ⟨kB', y1, y2⟩ := al'.2.2 _ _ e3
    rw [q2.2.1] at w1
    cases w1.symm.trans y1
    rw [w3, e5 i3, y2]
  refine ⟨v, B, X', ⟨_, ⟨hv, ?_, ⟨by omega, fun y cy hy hn' => q10 y cy (by simpa using hn') hy, fun y cy hy => ?_⟩, q11, ⟨E', _, q1.1, by rw [q2.2.1]; exact e2, by rw [q2.2.1]; exact e3, by rw [q2.1]; exact obV, fun _ => by rw [hsz]; exact e5 i3⟩,
    ⟨E', cfV, kV, iV, fV, q1.1, gV, stV, by rw [q2.1]; exact knV, by rw [q2.1]; exact obV, by rw [q2.2.1]; exact asV, q3⟩, ⟨E', cfC, kC, iC, fC, q1.1, gC, stC, by rw [q2.1]; exact knV, by rw [q2.1]; exact obV, by rw [q2.2.1]; exact asC, q4⟩,
    ⟨V', ⟨q5.1, State.isArrayOf_alike al'.symm q5.2.1, q5.2.2.1⟩, q6, by rw [← al'.findClass]; exact q7, q8, fun j hj => by have := q9 j hj; rwa [Nat.zero_add] at this⟩, fun O n d w F n1 n2 => ?_⟩, hl, hc, hs⟩, st⟩
  · intro y hy
    simp only [List.mem_cons, List.not_mem_nil, or_false] at hy
    rcases hy with rfl | rfl <;> rfl
  · by_cases q : y = x
    · subst q
      cases hD.symm.trans hy
      exact ⟨E', q1.1, q2.2.1, q2.1, hsz⟩
    · exact ⟨cy, q10 y cy q hy, rfl, rfl, rfl⟩
  · obtain ⟨D3, cf, k, i, f, g1, g2, g3, g4, g5, g6, g7⟩ := F
    cases hD.symm.trans g1
    simp only [RoadKit.slotOf, g2, gV, gC, Option.map_some, Option.getD_some] at n1 n2
    exact ⟨E', cf, k, i, f, q1.1, g2, g3, by rw [q2.1]; exact g4, by rw [q2.1]; exact g5, by rw [q2.2.1]; exact g6, by rw [q2.2.2 f.slot (by simp [n1, n2])]; exact g7⟩
end StrChars.Road
namespace StrChars.Road
open Jvm Sem ClassFile Op Lib Jvm.Stand Jvm.Free Jvm.Free.XT
/-- WHAT COMES BACK, the byte[] as a list of values -/
def QA (Z : State) (x : Addr) (zn : Int32) (cs : List Int32) (h : Heap) (v : Option Value) (h' : Heap) (L : List Loc) : Prop := v = none ∧ (∀ y ∈ L, y.base = x) ∧ RoadKit.Keep h h' [x] ∧ h'.size = h.size + 1 ∧ RoadKit.Exa Z h' x ST ∧ RoadKit.Fld Z h' x ST "value" "[B" (.ref h.size) ∧ RoadKit.Fld Z h' x ST "coder" "B" (.int 0) ∧
  (∃ kb, Z.vm.findClass "[B" = some kb ∧ RoadKit.Arv Z h' h.size kb .byte zn (cs.map fun c => .int (lo8 c)) (.int 0)) ∧
  ∀ (O n d : String) (w : Value), RoadKit.Fld Z h x O n d w → RoadKit.slotOf Z O n d ≠ RoadKit.slotOf Z ST "value" "[B" → RoadKit.slotOf Z O n d ≠ RoadKit.slotOf Z ST "coder" "B" → RoadKit.Fld Z h' x O n d w
/-- **new String(chars) AT A CALL, THE ARRAYS AS LISTS**: the char[] at b holds cs, not empty, no char above 255 -/
theorem backArv {p : Program} {l : Launch} {e : Env} {R : Room} {s : State} {args : Array Value} {below : List Frame} {len W : Nat} {Z : State} {a0 : Array Value} {h : Heap} (hZ : Z.Warmed39 s.vm) (hw : ∀ d ∈ words, d.before a0 Z = true) {kI : Nat} (wi : (Jvm.Cond.instantiable ST kI).before a0 Z = true)
    {x b : Addr} {k : ClassId} {zn z : Int32} {cs : List Int32} {dv v0 c0 : Value} (E : RoadKit.Exa Z h x ST) (V : RoadKit.Fld Z h x ST "value" "[B" v0) (C : RoadKit.Fld Z h x ST "coder" "B" c0) (K : RoadKit.Arv Z h b k .char zn (cs.map Value.int) dv) (S : RoadKit.Sta Z h ST "COMPACT_STRINGS" "Z" (.int z)) (hz : ¬ z = 0)
    (hlen : zn.toNatClampNeg = cs.length) (h0 : 0 < cs.length) (hbig : cs.length ≤ 536870912) (hall : ∀ c ∈ cs, ¬ 255 < c) (hfr : 4 ≤ R.frames) (hlo : W + 65 ≤ R.locals) :
    Back l R p e below s args New1.yN len W (fun P a => a = #[.ref x, .ref b] ∧ P.U.heap = h ∧ P.cells + 1 ≤ R.cells ∧ P.slots + cs.length ≤ R.slots)
      (fun P _ v B => ∃ L, QA Z x zn cs h v B.U.heap L ∧ B.locs = P.locs ++ L ∧ B.cells = P.cells + 1 ∧ B.slots = P.slots + cs.length) := by
  obtain ⟨A, K1, K2, K3, K4, K5, K6⟩ := K
  have e : A.slots.size = cs.length := K3.trans hlen
  have hat : ∀ (i : Nat) (hi : i < cs.length), A.slots[i]? = some (.int cs[i]) := fun i hi => by rw [K5 i (by omega)]; simp [List.getD_eq_getElem?_getD, hi]
  have hcv : ∀ (i : Nat) (hi : i < cs.length), cv A i = cs[i] := fun i hi => by unfold cv; rw [hat i hi]
  have hty : Typed .char A := fun i v hv => by
    have hi : i < A.slots.size := (Array.getElem?_eq_some_iff.mp hv).1
    have q := K5 i hi
    rw [hv] at q
    rw [Option.some.inj q]
    exact K6 i hi
  refine Back.mono (back hZ hw wi E V C K1 hty S hz (by omega) (by omega) (fun i hi => by rw [hcv i (by omega)]; exact hall _ (List.getElem_mem _)) hfr hlo) (fun P a hp => ⟨hp.1, hp.2.1, hp.2.2.1, by rw [e]; exact hp.2.2.2⟩) (fun P a v B hp hq => ?_)
  obtain ⟨L, ⟨q1, q2, q3, q4, q5, q6, q7, ⟨V', v1, v2, v3, v4, v5⟩, q9⟩, hl, hc, hs⟩ := hq
  refine ⟨L, ⟨q1, q2, q3, q4, q5, q6, q7, ⟨V'.cls, v3, V', v1, rfl, by rw [v4, e, hlen], K4, fun i hi => ?_, fun i hi => ?_⟩, q9⟩, hl, hc, by rw [hs, e]⟩
  · have hi' : i < cs.length := by omega
    rw [v5 i (by omega), hcv i hi']; simp [List.getD_eq_getElem?_getD, hi']
  · have hi' : i < cs.length := by omega
    simp only [List.getD_eq_getElem?_getD, List.getElem?_map, List.getElem?_eq_getElem hi', Option.map_some, Option.getD_some]
    exact fits_lo8 _
end StrChars.Road
namespace StrChars.Road
open Jvm Sem ClassFile Op Lib Jvm.Stand Jvm.Free Jvm.Free.XT
/-- WHAT COMES BACK, in the writer's own shape -/
def QV (Z : State) (x : Addr) (N : Int32) (bs : List Int32) (h : Heap) (n0 : Nat) (v : Option Value) (h' : Heap) (L : List Loc) : Prop := v = none ∧ RoadKit.Fr n0 L ∧ RoadKit.Keep h h' [x] ∧ RoadKit.Exa Z h' x ST ∧ RoadKit.Fld Z h' x ST "coder" "B" (.int 0) ∧
  ∃ (t : Addr) (kb : ClassId), n0 ≤ t ∧ h.size ≤ t ∧ ¬ t = x ∧ RoadKit.Fld Z h' x ST "value" "[B" (.ref t) ∧ RoadKit.Arv Z h' t kb .byte N (bs.map Value.int) (.int 0)
/-- **new String(chars) AT A CALL, FOR THE WRITER**: a char[] of n known ints, each 0 to 255 -/
theorem backV {p : Program} {l : Launch} {e : Env} {R : Room} {s : State} {args : Array Value} {below : List Frame} {len W : Nat} {Z : State} {a0 : Array Value} {h : Heap} (hZ : Z.Warmed39 s.vm) (hw : ∀ d ∈ words, d.before a0 Z = true) {kI : Nat} (wi : (Jvm.Cond.instantiable ST kI).before a0 Z = true)
    {x b : Addr} {kC : ClassId} {cs bs : List Int32} {d v0 c0 : Value} {z N : Int32} {n n0 : Nat} (hx0 : n0 ≤ x) (hh0 : n0 ≤ h.size) (E : RoadKit.Exa Z h x ST) (V : RoadKit.Fld Z h x ST "value" "[B" v0) (C : RoadKit.Fld Z h x ST "coder" "B" c0) (K : RoadKit.Arv Z h b kC .char N (cs.map Value.int) d) (S : RoadKit.Sta Z h ST "COMPACT_STRINGS" "Z" (.int z)) (hz : ¬ z = 0)
    (hn : cs.length = n) (hN : N = Int32.ofNat n) (l0 : 0 < n) (l2 : n ≤ 4000) (hp : ∀ c ∈ cs, ¬ c < 0 ∧ ¬ (255 : Int32) < c) (hb : bs = cs.map (fun c => c.toInt8.toInt32)) (hfr : 4 ≤ R.frames) (hlo : W + 65 ≤ R.locals) :
    Back l R p e below s args (⟨"java/lang/String", "<init>", "([C)V"⟩ : MethodName) len W (fun P a => a = #[.ref x, .ref b] ∧ P.U.heap = h ∧ P.cells + 1 ≤ R.cells ∧ P.slots + n ≤ R.slots)
      (fun P _ v B => ∃ L, QV Z x N bs h n0 v B.U.heap L ∧ B.locs = P.locs ++ L ∧ B.cells = P.cells + 1 ∧ B.slots = P.slots + n) := by
  subst hn hN hb
  refine Back.mono (backArv hZ hw wi E V C K S hz (n32 (by omega)) l0 (by omega) (fun c hc => (hp c hc).2) hfr hlo) (fun P a hp => hp) (fun P a v B hp hq => ?_)
  obtain ⟨L, ⟨q1, q2, q3, q4, q5, q6, q7, ⟨kb, v1, v2⟩, q9⟩, hl, hc, hs⟩ := hq
  exact ⟨L, ⟨q1, fun y hy => by rw [q2 y hy]; exact hx0, q3, q5, q7, h.size, kb, hh0, Nat.le_refl _, Nat.ne_of_gt E.lt, q6, by rw [List.map_map]; exact v2⟩, hl, hc, hs⟩
end StrChars.Road
namespace StrChars
open Jvm Sem ClassFile Op Lib Jvm.Stand Jvm.Free.XT Jvm.Free.ALB Jvm.Free.JM Jvm.Free
open Jvm.Lib.Cold (StaticIs)
def hi8 (x : Int32) : Int32 := lo8 (x >>> ((8 : Int32) &&& 31))
/-- what StringUTF16.getChar makes of two bytes -/
def pairCh (u v : Int32) : Int32 := (((u &&& 255) <<< ((0 : Int32) &&& 31)) ||| ((v &&& 255) <<< ((8 : Int32) &&& 31))).toUInt32.toUInt16.toUInt32.toInt32
theorem lo8_and (x : Int32) : (lo8 x &&& 255).toBitVec.toNat = x.toBitVec.toNat % 256 := by
  have h : (lo8 x).toBitVec = (x.toBitVec.signExtend 8).signExtend 32 := by rw [lo8, Int8.toBitVec_toInt32, Int32.toBitVec_toInt8]
  rw [Int32.toBitVec_and, BitVec.toNat_and, h]
  have e : ((x.toBitVec.signExtend 8).signExtend 32).toNat % 256 = x.toBitVec.toNat % 256 := by
    rw [BitVec.toNat_signExtend]
    have hlt := x.toBitVec.isLt
    simp only [BitVec.toNat_setWidth, BitVec.toNat_signExtend]
    split <;> split <;> omega
  rw [← e]
  exact Nat.and_two_pow_sub_one_eq_mod _ 8
theorem pair_says {c : Int32} (h0 : ¬ c < 0) (h1 : ¬ 65535 < c) : pairCh (lo8 c) (hi8 c) = c := by
  rw [Int32.lt_iff_toInt_lt] at h0 h1
  have e0 : (0 : Int32).toInt = 0 := rfl
  have e1 : (65535 : Int32).toInt = 65535 := rfl
  have hc : c.toInt = c.toBitVec.toNat := by
    have := c.toBitVec.isLt
    have e : c.toInt = c.toBitVec.toInt := rfl
    rw [e] at h0 h1
    rw [e]
    rw [BitVec.toInt_eq_toNat_cond] at h0 h1 ⊢
    split at h0 <;> split <;> omega
  have hn : c.toBitVec.toNat < 65536 := by omega
  have a1 := lo8_and c
  have a2 : (hi8 c &&& 255).toBitVec.toNat = c.toBitVec.toNat / 256 := by
    rw [hi8, lo8_and]
    have e : ((8 : Int32) &&& 31) = 8 := by decide
    rw [e, Int32.toBitVec_shiftRight]
    have e2 : ((8 : Int32).toBitVec.smod 32) = 8#32 := by decide
    rw [e2, BitVec.sshiftRight_eq', BitVec.toNat_sshiftRight_of_msb_false (by rw [BitVec.msb_eq_false_iff_two_mul_lt]; omega)]
    show c.toBitVec.toNat >>> 8 % 256 = _
    rw [Nat.shiftRight_eq_div_pow]
    omega
  unfold pairCh
  apply Int32.toBitVec_inj.mp
  apply BitVec.eq_of_toNat_eq
  have f0 : ((0 : Int32) &&& 31) = 0 := by decide
  have f8 : ((8 : Int32) &&& 31) = 8 := by decide
  rw [f0, f8]
  have g : (((lo8 c &&& 255) <<< (0 : Int32)) ||| ((hi8 c &&& 255) <<< (8 : Int32))).toBitVec.toNat = c.toBitVec.toNat := by
    rw [Int32.toBitVec_or, Int32.toBitVec_shiftLeft, Int32.toBitVec_shiftLeft]
    have s0 : ((0 : Int32).toBitVec.smod 32) = 0#32 := by decide
    have s8 : ((8 : Int32).toBitVec.smod 32) = 8#32 := by decide
    rw [s0, s8, BitVec.toNat_or]
    simp only [BitVec.shiftLeft_eq', BitVec.toNat_shiftLeft, a1, a2]
    show (c.toBitVec.toNat % 256) <<< 0 % 2 ^ 32 ||| (c.toBitVec.toNat / 256) <<< 8 % 2 ^ 32 = _
    rw [Nat.shiftLeft_zero, Nat.mod_eq_of_lt (show c.toBitVec.toNat % 256 < 2 ^ 32 by omega), Nat.mod_eq_of_lt (show (c.toBitVec.toNat / 256) <<< 8 < 2 ^ 32 by rw [Nat.shiftLeft_eq]; omega), Nat.or_comm, ← Nat.shiftLeft_add_eq_or_of_lt (by omega), Nat.shiftLeft_eq]
    omega
  show BitVec.toNat (((((lo8 c &&& 255) <<< (0 : Int32)) ||| ((hi8 c &&& 255) <<< (8 : Int32))).toBitVec.setWidth 16).setWidth 32) = _
  rw [BitVec.toNat_setWidth, BitVec.toNat_setWidth, g]
  omega
end StrChars
namespace StrChars
open Jvm Sem ClassFile Op Lib Jvm.Stand Jvm.Free.XT Jvm.Free.ALB Jvm.Free.JM Jvm.Free
open Jvm.Lib.Cold (StaticIs)
/-- the array's cell V codes the n chars f 0 .. f (n - 1) by the coder cd, as the JDK does: coder 1 just where some char is above 255 -/
def Cod (cd : Int32) (n : Nat) (f : Nat → Int32) (V : Cell) : Prop := (cd = 0 ∧ V.slots.size = n ∧ ∀ j, j < n → V.slots[j]? = some (.int (lo8 (f j))) ∧ ¬ 255 < f j) ∨ (cd = 1 ∧ V.slots.size = 2 * n ∧ (∀ j, j < n → V.slots[2 * j]? = some (.int (lo8 (f j))) ∧ V.slots[2 * j + 1]? = some (.int (hi8 (f j)))) ∧ ∃ j, j < n ∧ 255 < f j)
/-- **x is a String of the n chars f 0 .. f (n - 1)**, Latin-1 or UTF-16; its array at t has the cell V -/
def Txt (x t : Addr) (V : Cell) (cd : Int32) (n : Nat) (f : Nat → Int32) (U : State) : Prop := Exact "java/lang/String" x U ∧ Has x "java/lang/String" "value" "[B" (.ref t) U ∧ Has x "java/lang/String" "coder" "B" (.int cd) U ∧ XT.Arr .byte t V U ∧ Cod cd n f V ∧ ∀ j, j < n → ¬ f j < 0 ∧ ¬ 65535 < f j
theorem Txt.mv {x t : Addr} {V : Cell} {cd : Int32} {n : Nat} {f : Nat → Int32} {U U' : State} (h : Txt x t V cd n f U) (hal : U.vm.Alike U'.vm) (hh : U'.heap = U.heap) : Txt x t V cd n f U' := ⟨h.1.mv hal hh, h.2.1.mv hal hh, h.2.2.1.mv hal hh, h.2.2.2.1.mv hal hh, h.2.2.2.2⟩
end StrChars
namespace StrChars.Road
open Jvm Sem ClassFile Op Lib Jvm.Stand Jvm.Free Jvm.Free.XT
open Jvm.Lib.Cold (StaticIs)
theorem consq {a : Array Value} {s : State} {c : Jvm.Cond} {L : List Jvm.Cond} (h0 : c.before a s = true) (h : ∀ w ∈ L, w.before a s = true) : ∀ w ∈ c :: L, w.before a s = true := fun w hw => (List.mem_cons.mp hw).elim (fun e => e ▸ h0) (h w)
/-- the bytes of the chars cs, low before high -/
def wideBytes : List Int32 → List Value
  | [] => []
  | c :: cs => .int (lo8 c) :: .int (hi8 c) :: wideBytes cs
theorem wide_lo (d : Value) : ∀ (cs : List Int32) (j : Nat), j < cs.length → (wideBytes cs).getD (2 * j) d = .int (lo8 (cs.getD j 0))
  | [], j, h => absurd h (Nat.not_lt_zero j)
  | c :: cs, 0, _ => rfl
  | c :: cs, j + 1, h => by
    have q := wide_lo d cs j (by simpa using h)
    rw [show 2 * (j + 1) = 2 * j + 1 + 1 from by omega]
    simpa [wideBytes] using q
theorem wide_hi (d : Value) : ∀ (cs : List Int32) (j : Nat), j < cs.length → (wideBytes cs).getD (2 * j + 1) d = .int (hi8 (cs.getD j 0))
  | [], j, h => absurd h (Nat.not_lt_zero j)
  | c :: cs, 0, _ => rfl
  | c :: cs, j + 1, h => by
    have q := wide_hi d cs j (by simpa using h)
    rw [show 2 * (j + 1) + 1 = 2 * j + 1 + 1 + 1 from by omega]
    simpa [wideBytes] using q
theorem low_at (d : Value) (cs : List Int32) (j : Nat) (h : j < cs.length) : (cs.map fun c => Value.int (lo8 c)).getD j d = .int (lo8 (cs.getD j 0)) := by
  simp [List.getD_eq_getElem?_getD, h]
/-- an array of N2 bytes vs codes the chars cs by the coder cd -/
def CodA (cs : List Int32) (cd N2 : Int32) (vs : List Value) : Prop := (cd = 0 ∧ N2 = Int32.ofNat cs.length ∧ vs = (cs.map fun c => Value.int (lo8 c)) ∧ ∀ c ∈ cs, ¬ 255 < c) ∨ (cd = 1 ∧ N2 = Int32.ofNat (2 * cs.length) ∧ vs = wideBytes cs ∧ ∃ c ∈ cs, 255 < c)
theorem CodA.cod {cs : List Int32} {cd N2 : Int32} {vs : List Value} {V : Cell} (h : CodA cs cd N2 vs) (hn : 2 * cs.length < 2 ^ 31) (hs : V.slots.size = N2.toNatClampNeg) (hv : RoadKit.Has V vs (.int 0)) : Cod cd cs.length (fun j => cs.getD j 0) V := by
  rcases h with ⟨rfl, rfl, rfl, h⟩ | ⟨rfl, rfl, rfl, c, hc, hw⟩
  · rw [n32 (by omega)] at hs
    exact Or.inl ⟨rfl, hs, fun j hj => ⟨by rw [hv j (by omega), low_at _ _ _ hj], by
      have e : cs.getD j 0 = cs[j] := by simp [List.getD_eq_getElem?_getD, hj]
      show ¬ 255 < cs.getD j 0
      rw [e]; exact h _ (List.getElem_mem _)⟩⟩
  · rw [n32 (by omega)] at hs
    obtain ⟨j, hj, rfl⟩ := List.getElem_of_mem hc
    exact Or.inr ⟨rfl, hs, fun j hj => ⟨by rw [hv _ (by omega), wide_lo _ _ _ hj], by rw [hv _ (by omega), wide_hi _ _ _ hj]⟩, j, hj, by
      have e : cs.getD j 0 = cs[j] := by simp [List.getD_eq_getElem?_getD, hj]
      show 255 < cs.getD j 0
      rw [e]; exact hw⟩
/-- an object of exactly java/lang/String, its two fields found: as the laws ask it -/
theorem strObj {Z U : State} {a0 : Array Value} {kI : Nat} (wi : (Jvm.Cond.instantiable ST kI).before a0 Z = true) (al : Z.vm.Alike U.vm) {x : Addr} {v0 c0 : Value} (E : RoadKit.Exa Z U.heap x ST) (V : RoadKit.Fld Z U.heap x ST "value" "[B" v0) (C : RoadKit.Fld Z U.heap x ST "coder" "B" c0) :
    ∃ (D : Cell) (fV fC : Field), Blank ST x D U ∧ Found ST "value" "[B" fV U ∧ Found ST "coder" "B" fC U ∧ D.slots[fV.slot]? = some v0 ∧ D.slots[fC.slot]? = some c0 ∧ RoadKit.slotOf Z ST "value" "[B" = fV.slot ∧ RoadKit.slotOf Z ST "coder" "B" = fC.slot := by
  obtain ⟨D, cfV, kV, iV, fV, hD, gV, stV, knV, obV, asV, slV⟩ := V
  obtain ⟨D', cfC, kC, iC, fC, hD', gC, stC, -, -, asC, slC⟩ := C
  cases hD.symm.trans hD'
  obtain ⟨D2, kD, e1, e2, e3, e4, e5⟩ := E
  cases hD.symm.trans e1
  obtain ⟨c2, k2, i1, i2, i3, -⟩ := Cond.instantiable_spec wi
  cases e2.symm.trans i1
  cases e3.symm.trans i2
  obtain ⟨kU, u1, u2⟩ := al.2.2 _ _ e3
  exact ⟨D, fV, fC, ⟨hD, ⟨knV, fun q hq => by rw [hq] at obV; cases obV⟩, by rw [al.findClass]; exact e2, kU, u1, by rw [u2]; exact i3, by rw [u2]; exact e5 i3⟩, ⟨SBG.found_only al ⟨cfV, kV, iV, gV⟩, stV⟩, ⟨SBG.found_only al ⟨cfC, kC, iC, gC⟩, stC⟩, slV, slC, by simp [RoadKit.slotOf, gV], by simp [RoadKit.slotOf, gC]⟩
theorem sta_is {Z U : State} (al : Z.vm.Alike U.vm) {C n d : String} {v : Value} (S : RoadKit.Sta Z U.heap C n d v) : StaticIs U C n d v := by
  obtain ⟨cfS, iS, kS, fS, st, cS, t1, t2, t3, t4, t5, t6, t7⟩ := S
  exact StaticIs.there (s := { Z with heap := U.heap }) ⟨cfS, iS, kS, fS, st, cS, t1, t2, t3, t4, t5, (fun q => by rw [q] at t6; cases t6), t7⟩ al rfl
end StrChars.Road
namespace StrChars
open Jvm Sem ClassFile Op Lib Jvm.Stand Jvm.Free.XT Jvm.Free.ALB Jvm.Free.JM Jvm.Free
open Jvm.Lib.Cold (StaticIs)
/-- what place i of a byte[]'s cell holds -/
def yv (A : Cell) (i : Nat) : Int32 := match A.slots[i]? with | some (.int x) => x | _ => 0
theorem yv_get {a : Addr} {A : Cell} {U : State} (h : XT.Arr .byte a A U) (ht : Typed .byte A) {i : Nat} (hi : i < A.slots.size) : A.slots[i]? = some (.int (yv A i)) := by
  have e := Array.getElem?_eq_getElem hi
  have f := ht i _ e
  unfold yv; rw [e]
  generalize A.slots[i] = v at f
  cases v <;> simp [fits] at f ⊢
/-- the two arrays are equal, place for place -/
def EqC (A B : Cell) : Prop := A.slots.size = B.slots.size ∧ ∀ i, i < A.slots.size → yv A i = yv B i
/-- a boolean that says whether p -/
def Says01 (q : Prop) (r : Option Value) (s u : State) : Prop := ∃ v : Int32, r = some (.int v) ∧ u.heap = s.heap ∧ ((v = 1 ∧ q) ∨ (v = 0 ∧ ¬ q))
theorem Says01.mv {q : Prop} : ∀ r (U U' V V' : State), U'.heap = U.heap → V.vm.Alike V'.vm → V'.heap = V.heap → Says01 q r U V → Says01 q r U' V' :=
  fun r U U' V V' h1 _ h2 ⟨v, a, b, c⟩ => ⟨v, a, by rw [h1, h2]; exact b, c⟩
namespace LEq
def yN : MethodName := ⟨"java/lang/StringLatin1", "equals", "([B[B)Z"⟩
abbrev yB : ByteArray := jdk_43_method_13_code
theorem d0 : decode yB 0 = .ok (.aload_n 0, 1) := by decide +kernel
theorem d1 : decode yB 1 = .ok (.arraylength, 1) := by decide +kernel
theorem d2 : decode yB 2 = .ok (.aload_n 1, 1) := by decide +kernel
theorem d3 : decode yB 3 = .ok (.arraylength, 1) := by decide +kernel
theorem d4 : decode yB 4 = .ok (.if_icmp (.ne) 30, 3) := by decide +kernel
theorem d7 : decode yB 7 = .ok (.iconst 0, 1) := by decide +kernel
theorem d8 : decode yB 8 = .ok (.istore_n 2, 1) := by decide +kernel
theorem d9 : decode yB 9 = .ok (.iload_n 2, 1) := by decide +kernel
theorem d10 : decode yB 10 = .ok (.aload_n 0, 1) := by decide +kernel
theorem d11 : decode yB 11 = .ok (.arraylength, 1) := by decide +kernel
theorem d12 : decode yB 12 = .ok (.if_icmp (.ge) 20, 3) := by decide +kernel
theorem d15 : decode yB 15 = .ok (.aload_n 0, 1) := by decide +kernel
theorem d16 : decode yB 16 = .ok (.iload_n 2, 1) := by decide +kernel
theorem d17 : decode yB 17 = .ok (.baload, 1) := by decide +kernel
theorem d18 : decode yB 18 = .ok (.aload_n 1, 1) := by decide +kernel
theorem d19 : decode yB 19 = .ok (.iload_n 2, 1) := by decide +kernel
theorem d20 : decode yB 20 = .ok (.baload, 1) := by decide +kernel
theorem d21 : decode yB 21 = .ok (.if_icmp (.eq) 5, 3) := by decide +kernel
theorem d24 : decode yB 24 = .ok (.iconst 0, 1) := by decide +kernel
theorem d25 : decode yB 25 = .ok (.ireturn, 1) := by decide +kernel
theorem d26 : decode yB 26 = .ok (.iinc 2 1, 3) := by decide +kernel
theorem d29 : decode yB 29 = .ok (.goto (-20), 3) := by decide +kernel
theorem d32 : decode yB 32 = .ok (.iconst 1, 1) := by decide +kernel
theorem d33 : decode yB 33 = .ok (.ireturn, 1) := by decide +kernel
theorem d34 : decode yB 34 = .ok (.iconst 0, 1) := by decide +kernel
theorem d35 : decode yB 35 = .ok (.ireturn, 1) := by decide +kernel
def site : List Cond := []
def tab : Cond := tabOf yN yB 3 (some .boolean) site
def P (a : Addr) (A : Cell) (b : Addr) (B : Cell) (args : Array Value) (s : State) : Prop := args = #[.ref a, .ref b] ∧ XT.Arr .byte a A s ∧ Typed .byte A ∧ XT.Arr .byte b B s ∧ Typed .byte B
/-- whether two byte[] are equal, place for place -/
theorem law (l : Launch) (a : Addr) (A : Cell) (b : Addr) (B : Cell) : Law l yN 2 2 0 0 yB 3 (some .boolean) site (P a A b B) (Says01 (EqC A B)) [] 0 0 := by
  refine Law.of_walk (plainFor_of_name (by decide +kernel)) (by decide +kernel) (by decide +kernel) (by decide) (fun _ _ h => by rw [h.1]; rfl) (fun _ U U' hal hh h => ⟨h.1, h.2.1.mv hal hh, h.2.2.1, h.2.2.2.1.mv hal hh, h.2.2.2.2⟩) (fun r U U' V V' h1 hal h2 h => Says01.mv r U U' V V' h1 hal h2 h) ?_
  intro p e s m args below meth c s₁ X0 hexec hbytes hml hret hlk hnm hown hh0 W hP
  obtain ⟨rfl, hA, tA, hB, tB⟩ := hP
  have a31 := hA.2.2.2
  have b31 := hB.2.2.2
  have hA0 := hA.mv X0.warmed.alike hh0
  have hB0 := hB.mv X0.warmed.alike hh0
  have c1 : Steps p.tables e below (s₁.setTop (entryFrame m #[.ref a, .ref b] 3)) (s₁.setTop (mkF m 0 #[.val (.ref a), .val (.ref b), .unset] [])) := entry rfl
  have c2 : Steps p.tables e below (s₁.setTop (entryFrame m #[.ref a, .ref b] 3)) (s₁.setTop (mkF m 4 #[.val (.ref a), .val (.ref b), .unset] [.int (Int32.ofNat B.slots.size), .int (Int32.ofNat A.slots.size)])) := c1.trans (by
    refine XS.aloadN X0.here hexec rfl (hb hbytes d0) rfl rfl ?_
    refine X0.alen hexec hA0 rfl rfl (hb hbytes d1) ?_
    refine XS.aloadN X0.here hexec rfl (hb hbytes d2) rfl rfl ?_
    refine X0.alen hexec hB0 rfl rfl (hb hbytes d3) ?_
    exact Steps.refl _)
  by_cases hs : A.slots.size = B.slots.size
  · have c3 : Steps p.tables e below (s₁.setTop (entryFrame m #[.ref a, .ref b] 3)) (s₁.setTop (mkF m 9 #[.val (.ref a), .val (.ref b), .val (.int 0)] [])) := c2.trans (by
      refine XS.icmpNo X0.here hexec rfl (hb hbytes d4) rfl (ii_ne_f (by rw [hs])) ?_
      refine iconstV X0.here hexec rfl 0 (hb hbytes d7) (by decide) ?_
      refine XS.istoreN X0.here hexec rfl (hb hbytes d8) rfl rfl ?_
      exact Steps.refl _)
    have loop : ∀ (r i : Nat), i + r = A.slots.size → (∀ j, j < i → yv A j = yv B j) → Steps p.tables e below (s₁.setTop (entryFrame m #[.ref a, .ref b] 3)) (s₁.setTop (mkF m 9 #[.val (.ref a), .val (.ref b), .val (.int (Int32.ofNat i))] [])) → ∃ (pc : Nat) (Ls : Array Slot) (v : Int32), (pc = 25 ∨ pc = 33) ∧ ((v = 1 ∧ EqC A B) ∨ (v = 0 ∧ ¬ EqC A B)) ∧ Steps p.tables e below (s₁.setTop (entryFrame m #[.ref a, .ref b] 3)) (s₁.setTop (mkF m pc Ls [.int v])) := by
      intro r
      induction r with
      | zero =>
        intro i hi he cl
        exact ⟨33, _, 1, Or.inr rfl, Or.inl ⟨rfl, hs, fun j hj => he j (by omega)⟩, cl.trans (by
          refine XS.iloadN X0.here hexec rfl (hb hbytes d9) rfl ?_
          refine XS.aloadN X0.here hexec rfl (hb hbytes d10) rfl rfl ?_
          refine X0.alen hexec hA0 rfl rfl (hb hbytes d11) ?_
          refine XS.icmpYes X0.here hexec rfl (pc0 := 12) rfl (hb hbytes d12) rfl (ii_ge_t (nlt32 (by omega) (by omega))) (by decide) rfl ?_
          refine iconstV X0.here hexec rfl 1 (hb hbytes d32) (by decide) ?_
          exact Steps.refl _)⟩
      | succ r ih =>
        intro i hi he cl
        have c4 : Steps p.tables e below (s₁.setTop (entryFrame m #[.ref a, .ref b] 3)) (s₁.setTop (mkF m 21 #[.val (.ref a), .val (.ref b), .val (.int (Int32.ofNat i))] [.int (yv B i), .int (yv A i)])) := cl.trans (by
          refine XS.iloadN X0.here hexec rfl (hb hbytes d9) rfl ?_
          refine XS.aloadN X0.here hexec rfl (hb hbytes d10) rfl rfl ?_
          refine X0.alen hexec hA0 rfl rfl (hb hbytes d11) ?_
          refine XS.icmpNo X0.here hexec rfl (hb hbytes d12) rfl (ii_ge_f (lt32 (by omega) (by omega))) ?_
          refine XS.aloadN X0.here hexec rfl (hb hbytes d15) rfl rfl ?_
          refine XS.iloadN X0.here hexec rfl (hb hbytes d16) rfl ?_
          refine X0.aget hexec hA0 rfl (yv_get hA tA (i := i) (by omega)) rfl rfl (hb hbytes d17) ?_
          refine XS.aloadN X0.here hexec rfl (hb hbytes d18) rfl rfl ?_
          refine XS.iloadN X0.here hexec rfl (hb hbytes d19) rfl ?_
          refine X0.aget hexec hB0 rfl (yv_get hB tB (i := i) (by omega)) rfl rfl (hb hbytes d20) ?_
          exact Steps.refl _)
        by_cases hv : yv A i = yv B i
        · have c5 : Steps p.tables e below (s₁.setTop (entryFrame m #[.ref a, .ref b] 3)) (s₁.setTop (mkF m 9 #[.val (.ref a), .val (.ref b), .val (.int (Int32.ofNat i + 1))] [])) := c4.trans (by
            refine XS.icmpYes X0.here hexec rfl (pc0 := 21) rfl (hb hbytes d21) rfl (ii_eq_t hv) (by decide) rfl ?_
            refine iincV X0.here hexec rfl 1 (hb hbytes d26) (by decide) rfl rfl ?_
            refine XS.goto X0.here hexec rfl (pc0 := 29) rfl (hb hbytes d29) (by decide) rfl ?_
            exact Steps.refl _)
          rw [succ32] at c5
          exact ih (i + 1) (by omega) (fun j hj => by
            by_cases e : j = i
            · rw [e]; exact hv
            · exact he j (by omega)) c5
        · exact ⟨25, _, 0, Or.inl rfl, Or.inr ⟨rfl, fun q => hv (q.2 i (by omega))⟩, c4.trans (by
            refine XS.icmpNo X0.here hexec rfl (hb hbytes d21) rfl (ii_eq_f hv) ?_
            refine iconstV X0.here hexec rfl 0 (hb hbytes d24) (by decide) ?_
            exact Steps.refl _)⟩
    obtain ⟨pc, Ls, v, hpc, hv, cz⟩ := loop A.slots.size 0 (by omega) (fun j hj => absurd hj (Nat.not_lt_zero j)) c3
    have nv : narrow .boolean (.int v) = .int v := by rcases hv with ⟨rfl, -⟩ | ⟨rfl, -⟩ <;> rfl
    rcases hpc with rfl | rfl
    · exact ⟨s₁, some (.int v), _, _, _, X0, rfl, rfl, rfl, (fun h => by cases h), ⟨v, rfl, hh0, hv⟩, fun fs hl => cz.trans (X0.ireturnOut hexec hret nv (Or.inr (Or.inl rfl)) (hb hbytes d25) hl)⟩
    · exact ⟨s₁, some (.int v), _, _, _, X0, rfl, rfl, rfl, (fun h => by cases h), ⟨v, rfl, hh0, hv⟩, fun fs hl => cz.trans (X0.ireturnOut hexec hret nv (Or.inr (Or.inl rfl)) (hb hbytes d33) hl)⟩
  · have c3 : Steps p.tables e below (s₁.setTop (entryFrame m #[.ref a, .ref b] 3)) (s₁.setTop (mkF m 35 #[.val (.ref a), .val (.ref b), .unset] [.int 0])) := c2.trans (by
      refine XS.icmpYes X0.here hexec rfl (pc0 := 4) rfl (hb hbytes d4) rfl (ii_ne_t (ne32 a31 b31 hs)) (by decide) rfl ?_
      refine iconstV X0.here hexec rfl 0 (hb hbytes d34) (by decide) ?_
      exact Steps.refl _)
    exact ⟨s₁, some (.int 0), _, _, _, X0, rfl, rfl, rfl, (fun h => by cases h), ⟨0, rfl, hh0, Or.inr ⟨rfl, fun q => hs q.1⟩⟩, fun fs hl => c3.trans (X0.ireturnOut hexec hret rfl (Or.inr (Or.inl rfl)) (hb hbytes d35) hl)⟩
end LEq
theorem Cod.ty {cd : Int32} {n : Nat} {f : Nat → Int32} {V : Cell} (h : Cod cd n f V) : Typed .byte V := fun i v hv => by
  have hi : i < V.slots.size := (Array.getElem?_eq_some_iff.mp hv).1
  rcases h with ⟨-, k1, k2⟩ | ⟨-, k1, k2, -⟩
  · rw [(k2 i (by omega)).1] at hv; cases hv; exact fits_lo8 _
  · rcases Nat.mod_two_eq_zero_or_one i with e | e
    · obtain ⟨j, rfl⟩ : ∃ j, i = 2 * j := ⟨i / 2, by omega⟩
      rw [(k2 j (by omega)).1] at hv; cases hv; exact fits_lo8 _
    · obtain ⟨j, rfl⟩ : ∃ j, i = 2 * j + 1 := ⟨i / 2, by omega⟩
      rw [(k2 j (by omega)).2] at hv; cases hv; exact fits_lo8 _
/-- the same text -/
def SameT (n : Nat) (f : Nat → Int32) (k : Nat) (g : Nat → Int32) : Prop := n = k ∧ ∀ j, j < n → f j = g j
theorem lo8_inj {x y : Int32} (h0 : ¬ x < 0) (h1 : ¬ 255 < x) (k0 : ¬ y < 0) (k1 : ¬ 255 < y) (h : lo8 x = lo8 y) : x = y := by
  rw [← lo8_mask h0 h1, ← lo8_mask k0 k1, h]
/-- arrays coded by one coder are equal just where the texts are -/
theorem Cod.eqv {cd : Int32} {n k : Nat} {f g : Nat → Int32} {V V' : Cell} (h : Cod cd n f V) (h' : Cod cd k g V') (hf : ∀ j, j < n → ¬ f j < 0 ∧ ¬ 65535 < f j) (hg : ∀ j, j < k → ¬ g j < 0 ∧ ¬ 65535 < g j) : EqC V V' ↔ SameT n f k g := by
  have yvv : ∀ {W : Cell} {i : Nat} {x : Int32}, W.slots[i]? = some (.int x) → yv W i = x := fun q => by unfold yv; rw [q]
  rcases h with ⟨rfl, k1, k2⟩ | ⟨rfl, k1, k2, -⟩
  · rcases h' with ⟨-, m1, m2⟩ | ⟨e, -⟩
    · constructor
      · rintro ⟨e1, e2⟩
        refine ⟨by omega, fun j hj => ?_⟩
        have q := e2 j (by omega)
        rw [yvv (k2 j hj).1, yvv (m2 j (by omega)).1] at q
        exact lo8_inj (hf j hj).1 (k2 j hj).2 (hg j (by omega)).1 (m2 j (by omega)).2 q
      · rintro ⟨rfl, e2⟩
        refine ⟨by omega, fun j hj => ?_⟩
        rw [yvv (k2 j (by omega)).1, yvv (m2 j (by omega)).1, e2 j (by omega)]
    · exact absurd e (by decide)
  · rcases h' with ⟨e, -⟩ | ⟨-, m1, m2, -⟩
    · exact absurd e (by decide)
    · constructor
      · rintro ⟨e1, e2⟩
        refine ⟨by omega, fun j hj => ?_⟩
        have q1 := e2 (2 * j) (by omega)
        have q2 := e2 (2 * j + 1) (by omega)
        rw [yvv (k2 j hj).1, yvv (m2 j (by omega)).1] at q1
        rw [yvv (k2 j hj).2, yvv (m2 j (by omega)).2] at q2
        rw [← pair_says (hf j hj).1 (hf j hj).2, ← pair_says (hg j (by omega)).1 (hg j (by omega)).2, q1, q2]
      · rintro ⟨rfl, e2⟩
        refine ⟨by omega, fun i hi => ?_⟩
        rcases Nat.mod_two_eq_zero_or_one i with e | e
        · obtain ⟨j, rfl⟩ : ∃ j, i = 2 * j := ⟨i / 2, by omega⟩
          rw [yvv (k2 j (by omega)).1, yvv (m2 j (by omega)).1, e2 j (by omega)]
        · obtain ⟨j, rfl⟩ : ∃ j, i = 2 * j + 1 := ⟨i / 2, by omega⟩
          rw [yvv (k2 j (by omega)).2, yvv (m2 j (by omega)).2, e2 j (by omega)]
/-- two codings differ: so do the texts -/
theorem Cod.dif {cd cd' : Int32} {n k : Nat} {f g : Nat → Int32} {V V' : Cell} (h : Cod cd n f V) (h' : Cod cd' k g V') (hne : ¬ cd = cd') : ¬ SameT n f k g := by
  rintro ⟨rfl, e⟩
  rcases h with ⟨rfl, -, k2⟩ | ⟨rfl, -, -, j, hj, hw⟩
  · rcases h' with ⟨rfl, -⟩ | ⟨-, -, -, j, hj, hw⟩
    · exact hne rfl
    · exact (k2 j hj).2 (by rw [e j hj]; exact hw)
  · rcases h' with ⟨-, -, m2⟩ | ⟨rfl, -⟩
    · exact (m2 j hj).2 (by rw [← e j hj]; exact hw)
    · exact hne rfl
/-- an object of exactly C is an instance of C -/
theorem cinst {p : Program} {l : Launch} {e : Env} {R : Room} {s : State} {m : MethodId} {args : Array Value} {below : List Frame} {meth : Method} {c : Code} {T : State} {locs : List Loc} {cells slots : Nat} (X : Stand p l e R s m args below meth c T locs cells slots) (hexec : p.tables.exec = Jvm.exec) {own C : String} {index : Nat} (hown : s.vm.findClass own = some m.cls) (hlink : (Cond.classLink own index C).before args s = true) {a : Addr} (hE : Exact C a T)
    {g : JFrame} (hg : g.method = m) {rest : List Value} (hstack : g.stack = .ref a :: rest) (hdg : decode c.code g.pc = .ok (.instanceof index, 3)) :
    ∃ T', Stand p l e R s m args below meth c T' locs cells slots ∧ T'.heap = T.heap ∧ ∀ target, Steps p.tables e below (T'.setTop { g with pc := g.pc + 3, stack := .int 1 :: rest }) target → Steps p.tables e below (T.setTop g) target := by
  obtain ⟨cB, h1, D, h2, h3, h4⟩ := hE
  have h1' : s.vm.findClass C = some cB := by rw [← X.warmed.alike.findClass]; exact h1
  obtain ⟨vm', X', st⟩ := X.instanceofYes hexec hown hlink h2 h4 h1' (by rw [h3]; exact Jvm.Free.SB.assignable_self _ _) hg hstack hdg
  exact ⟨_, X', rfl, st⟩
theorem cself {p : Program} {l : Launch} {e : Env} {R : Room} {s : State} {m : MethodId} {args : Array Value} {below : List Frame} {meth : Method} {c : Code} {T : State} {locs : List Loc} {cells slots : Nat} (X : Stand p l e R s m args below meth c T locs cells slots) (hexec : p.tables.exec = Jvm.exec) {own C : String} {index : Nat} (hown : s.vm.findClass own = some m.cls) (hlink : (Cond.classLink own index C).before args s = true) {a : Addr} (hE : Exact C a T)
    {g : JFrame} (hg : g.method = m) {rest : List Value} (hstack : g.stack = .ref a :: rest) (hdg : decode c.code g.pc = .ok (.checkcast index, 3)) :
    ∃ T', Stand p l e R s m args below meth c T' locs cells slots ∧ T'.heap = T.heap ∧ ∀ target, Steps p.tables e below (T'.setTop { g with pc := g.pc + 3, stack := .ref a :: rest }) target → Steps p.tables e below (T.setTop g) target := by
  obtain ⟨cB, h1, D, h2, h3, h4⟩ := hE
  have h1' : s.vm.findClass C = some cB := by rw [← X.warmed.alike.findClass]; exact h1
  obtain ⟨vm', X', st⟩ := X.checkcastYes hexec hown hlink h2 h4 h1' (by rw [h3]; exact Jvm.Free.SB.assignable_self _ _) hg hstack hdg
  exact ⟨_, X', rfl, fun t h => st t (by rw [← hstack] at h; exact h)⟩
namespace SEq
def yN : MethodName := ⟨"java/lang/String", "equals", "(Ljava/lang/Object;)Z"⟩
abbrev yB : ByteArray := jdk_42_method_66_code
theorem d0 : decode yB 0 = .ok (.aload_n 0, 1) := by decide +kernel
theorem d1 : decode yB 1 = .ok (.aload_n 1, 1) := by decide +kernel
theorem d2 : decode yB 2 = .ok (.if_acmp (.ne) 5, 3) := by decide +kernel
theorem d5 : decode yB 5 = .ok (.iconst 1, 1) := by decide +kernel
theorem d6 : decode yB 6 = .ok (.ireturn, 1) := by decide +kernel
theorem d7 : decode yB 7 = .ok (.aload_n 1, 1) := by decide +kernel
theorem d8 : decode yB 8 = .ok (.instanceof 10, 3) := by decide +kernel
theorem d11 : decode yB 11 = .ok (.ifCond (.eq) 43, 3) := by decide +kernel
theorem d14 : decode yB 14 = .ok (.aload_n 1, 1) := by decide +kernel
theorem d15 : decode yB 15 = .ok (.checkcast 10, 3) := by decide +kernel
theorem d18 : decode yB 18 = .ok (.astore_n 2, 1) := by decide +kernel
theorem d19 : decode yB 19 = .ok (.getstatic 38, 3) := by decide +kernel
theorem d22 : decode yB 22 = .ok (.ifCond (.eq) 14, 3) := by decide +kernel
theorem d25 : decode yB 25 = .ok (.aload_n 0, 1) := by decide +kernel
theorem d26 : decode yB 26 = .ok (.getfield 15, 3) := by decide +kernel
theorem d29 : decode yB 29 = .ok (.aload_n 2, 1) := by decide +kernel
theorem d30 : decode yB 30 = .ok (.getfield 15, 3) := by decide +kernel
theorem d33 : decode yB 33 = .ok (.if_icmp (.ne) 21, 3) := by decide +kernel
theorem d36 : decode yB 36 = .ok (.aload_n 0, 1) := by decide +kernel
theorem d37 : decode yB 37 = .ok (.getfield 9, 3) := by decide +kernel
theorem d40 : decode yB 40 = .ok (.aload_n 2, 1) := by decide +kernel
theorem d41 : decode yB 41 = .ok (.getfield 9, 3) := by decide +kernel
theorem d44 : decode yB 44 = .ok (.invokestatic 541, 3) := by decide +kernel
theorem d47 : decode yB 47 = .ok (.ifCond (.eq) 7, 3) := by decide +kernel
theorem d50 : decode yB 50 = .ok (.iconst 1, 1) := by decide +kernel
theorem d51 : decode yB 51 = .ok (.goto 4, 3) := by decide +kernel
theorem d54 : decode yB 54 = .ok (.iconst 0, 1) := by decide +kernel
theorem d55 : decode yB 55 = .ok (.ireturn, 1) := by decide +kernel
def site : List Cond := [.classLink "java/lang/String" 10 "java/lang/String", .fieldLink "java/lang/String" 38 "java/lang/String" "COMPACT_STRINGS" "Z", .fieldLink "java/lang/String" 15 "java/lang/String" "coder" "B", .fieldLink "java/lang/String" 9 "java/lang/String" "value" "[B", LEq.tab] ++ staticW "java/lang/String" 541 LEq.yN
def tab : Cond := tabOf yN yB 3 (some .boolean) site
def P (x t : Addr) (V : Cell) (cd : Int32) (n : Nat) (f : Nat → Int32) (y t' : Addr) (V' : Cell) (cd' : Int32) (k : Nat) (g : Nat → Int32) (z : Int32) (args : Array Value) (s : State) : Prop := args = #[.ref x, .ref y] ∧ Txt x t V cd n f s ∧ Txt y t' V' cd' k g s ∧ StaticIs s "java/lang/String" "COMPACT_STRINGS" "Z" (.int z) ∧ ¬ z = 0
/-- equals(Object) of two Strings: whether the texts are the same -/
theorem law (l : Launch) (x t : Addr) (V : Cell) (cd : Int32) (n : Nat) (f : Nat → Int32) (y t' : Addr) (V' : Cell) (cd' : Int32) (k : Nat) (g : Nat → Int32) (z : Int32) : Law l yN 2 1 1 14 yB 3 (some .boolean) site (P x t V cd n f y t' V' cd' k g z) (Says01 (SameT n f k g)) [] 0 0 := by
  refine Law.of_walk (plainFor_of_name (by decide +kernel)) (by decide +kernel) (by decide +kernel) (by decide) (fun _ _ h => by rw [h.1]; rfl) (fun _ U U' hal hh h => ⟨h.1, h.2.1.mv hal hh, h.2.2.1.mv hal hh, h.2.2.2.1.there hal hh, h.2.2.2.2⟩) (fun r U U' V V' h1 hal h2 h => Says01.mv r U U' V V' h1 hal h2 h) ?_
  intro p e s m args below meth c s₁ X0 hexec hbytes hml hret hlk hnm hown hh0 W hP
  obtain ⟨rfl, hx, hy, s1, hz⟩ := hP
  have c1 : Steps p.tables e below (s₁.setTop (entryFrame m #[.ref x, .ref y] 3)) (s₁.setTop (mkF m 2 #[.val (.ref x), .val (.ref y), .unset] [.ref y, .ref x])) := Steps.trans (entry rfl) (by
    show Steps p.tables e below (s₁.setTop (mkF m 0 #[.val (.ref x), .val (.ref y), .unset] [])) _
    refine XS.aloadN X0.here hexec rfl (hb hbytes d0) rfl rfl ?_
    refine XS.aloadN X0.here hexec rfl (hb hbytes d1) rfl rfl ?_
    exact Steps.refl _)
  by_cases hxy : x = y
  · have c2 : Steps p.tables e below (s₁.setTop (entryFrame m #[.ref x, .ref y] 3)) (s₁.setTop (mkF m 6 #[.val (.ref x), .val (.ref y), .unset] [.int 1])) := c1.trans (by
      refine acmpNo X0.here hexec rfl (hb hbytes d2) rfl rfl rfl (by simp [acmp, hxy]) ?_
      refine iconstV X0.here hexec rfl 1 (hb hbytes d5) (by decide) ?_
      exact Steps.refl _)
    subst hxy
    have ec : cd = cd' := by
      obtain ⟨D, fd, a1, a2, a3⟩ := hx.2.2.1
      obtain ⟨D', fd', b1, b2, b3⟩ := hy.2.2.1
      cases a1.symm.trans b1
      obtain ⟨q1, q2, q3, q4⟩ := a2.1
      obtain ⟨r1, r2, r3, r4⟩ := b2.1
      cases q4.symm.trans r4
      cases a3.symm.trans b3; rfl
    have et : t = t' := by
      obtain ⟨D, fd, a1, a2, a3⟩ := hx.2.1
      obtain ⟨D', fd', b1, b2, b3⟩ := hy.2.1
      cases a1.symm.trans b1
      obtain ⟨q1, q2, q3, q4⟩ := a2.1
      obtain ⟨r1, r2, r3, r4⟩ := b2.1
      cases q4.symm.trans r4
      cases a3.symm.trans b3; rfl
    subst ec et
    have ev : V = V' := by cases hx.2.2.2.1.1.symm.trans hy.2.2.2.1.1; rfl
    subst ev
    have hs : SameT n f k g := (Cod.eqv hx.2.2.2.2.1 hy.2.2.2.2.1 hx.2.2.2.2.2 hy.2.2.2.2.2).mp ⟨rfl, fun _ _ => rfl⟩
    exact ⟨s₁, some (.int 1), _, _, _, X0, rfl, rfl, rfl, (fun h => by cases h), ⟨1, rfl, hh0, Or.inl ⟨rfl, hs⟩⟩, fun fs hl => c2.trans (X0.ireturnOut hexec hret rfl (Or.inr (Or.inl rfl)) (hb hbytes d6) hl)⟩
  · have c2 : Steps p.tables e below (s₁.setTop (entryFrame m #[.ref x, .ref y] 3)) (s₁.setTop (mkF m 8 #[.val (.ref x), .val (.ref y), .unset] [.ref y])) := c1.trans (by
      refine acmpYes X0.here hexec rfl (pc0 := 2) rfl (hb hbytes d2) rfl rfl rfl (by simp [acmp, hxy]) (by decide) rfl ?_
      refine XS.aloadN X0.here hexec rfl (hb hbytes d7) rfl rfl ?_
      exact Steps.refl _)
    obtain ⟨T3, X3, q3, st3⟩ := cinst X0 hexec hown (wk W (.classLink "java/lang/String" 10 "java/lang/String")) (hy.mv X0.warmed.alike hh0).1 (g := (mkF m 8 #[.val (.ref x), .val (.ref y), .unset] [.ref y])) rfl (rest := []) rfl (hb hbytes d8)
    have hh3 := q3.trans hh0
    have c4 : Steps p.tables e below (s₁.setTop (entryFrame m #[.ref x, .ref y] 3)) (T3.setTop (mkF m 15 #[.val (.ref x), .val (.ref y), .unset] [.ref y])) := (c2.trans (st3 _ (Steps.refl _))).trans (by
      refine XS.ifNo X3.here hexec rfl (hb hbytes d11) rfl (i0_eq_f (by decide)) ?_
      refine XS.aloadN X3.here hexec rfl (hb hbytes d14) rfl rfl ?_
      exact Steps.refl _)
    obtain ⟨T5, X5, q5, st5⟩ := cself X3 hexec hown (wk W (.classLink "java/lang/String" 10 "java/lang/String")) (hy.mv X3.warmed.alike hh3).1 (g := (mkF m 15 #[.val (.ref x), .val (.ref y), .unset] [.ref y])) rfl (rest := []) rfl (hb hbytes d15)
    have hh5 := q5.trans hh3
    have c6 : Steps p.tables e below (s₁.setTop (entryFrame m #[.ref x, .ref y] 3)) (T5.setTop (mkF m 19 #[.val (.ref x), .val (.ref y), .val (.ref y)] [])) := (c4.trans (st5 _ (Steps.refl _))).trans (by
      refine XS.astoreN X5.here hexec rfl (hb hbytes d18) rfl rfl rfl ?_
      exact Steps.refl _)
    obtain ⟨T7, X7, q7, st7⟩ := X5.sget hexec hown (wk W (.fieldLink "java/lang/String" 38 "java/lang/String" "COMPACT_STRINGS" "Z")) s1 (fun _ _ h => by rw [hh5]; exact h) (g := (mkF m 19 #[.val (.ref x), .val (.ref y), .val (.ref y)] [])) rfl (hb hbytes d19)
    have hh7 := q7.trans hh5
    have c8 : Steps p.tables e below (s₁.setTop (entryFrame m #[.ref x, .ref y] 3)) (T7.setTop (mkF m 26 #[.val (.ref x), .val (.ref y), .val (.ref y)] [.ref x])) := (c6.trans (st7 _ (Steps.refl _))).trans (by
      refine XS.ifNo X7.here hexec rfl (hb hbytes d22) rfl (i0_eq_f hz) ?_
      refine XS.aloadN X7.here hexec rfl (hb hbytes d25) rfl rfl ?_
      exact Steps.refl _)
    obtain ⟨T9, X9, q9, st9⟩ := X7.hget hexec hown (wk W (.fieldLink "java/lang/String" 15 "java/lang/String" "coder" "B")) (hx.mv X7.warmed.alike hh7).2.2.1 (g := (mkF m 26 #[.val (.ref x), .val (.ref y), .val (.ref y)] [.ref x])) rfl (rest := []) rfl (hb hbytes d26)
    have hh9 := q9.trans hh7
    have c10 : Steps p.tables e below (s₁.setTop (entryFrame m #[.ref x, .ref y] 3)) (T9.setTop (mkF m 30 #[.val (.ref x), .val (.ref y), .val (.ref y)] [.ref y, .int cd])) := (c8.trans (st9 _ (Steps.refl _))).trans (by
      refine XS.aloadN X9.here hexec rfl (hb hbytes d29) rfl rfl ?_
      exact Steps.refl _)
    obtain ⟨T11, X11, q11, st11⟩ := X9.hget hexec hown (wk W (.fieldLink "java/lang/String" 15 "java/lang/String" "coder" "B")) (hy.mv X9.warmed.alike hh9).2.2.1 (g := (mkF m 30 #[.val (.ref x), .val (.ref y), .val (.ref y)] [.ref y, .int cd])) rfl (rest := [.int cd]) rfl (hb hbytes d30)
    have hh11 := q11.trans hh9
    have c12 : Steps p.tables e below (s₁.setTop (entryFrame m #[.ref x, .ref y] 3)) (T11.setTop (mkF m 33 #[.val (.ref x), .val (.ref y), .val (.ref y)] [.int cd', .int cd])) := c10.trans (st11 _ (Steps.refl _))
    by_cases hcd : cd = cd'
    · subst hcd
      have c13 : Steps p.tables e below (s₁.setTop (entryFrame m #[.ref x, .ref y] 3)) (T11.setTop (mkF m 37 #[.val (.ref x), .val (.ref y), .val (.ref y)] [.ref x])) := c12.trans (by
        refine XS.icmpNo X11.here hexec rfl (hb hbytes d33) rfl (ii_ne_f rfl) ?_
        refine XS.aloadN X11.here hexec rfl (hb hbytes d36) rfl rfl ?_
        exact Steps.refl _)
      obtain ⟨T14, X14, q14, st14⟩ := X11.hget hexec hown (wk W (.fieldLink "java/lang/String" 9 "java/lang/String" "value" "[B")) (hx.mv X11.warmed.alike hh11).2.1 (g := (mkF m 37 #[.val (.ref x), .val (.ref y), .val (.ref y)] [.ref x])) rfl (rest := []) rfl (hb hbytes d37)
      have hh14 := q14.trans hh11
      have c15 : Steps p.tables e below (s₁.setTop (entryFrame m #[.ref x, .ref y] 3)) (T14.setTop (mkF m 41 #[.val (.ref x), .val (.ref y), .val (.ref y)] [.ref y, .ref t])) := (c13.trans (st14 _ (Steps.refl _))).trans (by
        refine XS.aloadN X14.here hexec rfl (hb hbytes d40) rfl rfl ?_
        exact Steps.refl _)
      obtain ⟨T16, X16, q16, st16⟩ := X14.hget hexec hown (wk W (.fieldLink "java/lang/String" 9 "java/lang/String" "value" "[B")) (hy.mv X14.warmed.alike hh14).2.1 (g := (mkF m 41 #[.val (.ref x), .val (.ref y), .val (.ref y)] [.ref y, .ref t])) rfl (rest := [.ref t]) rfl (hb hbytes d41)
      have hh16 := q16.trans hh14
      have c17 : Steps p.tables e below (s₁.setTop (entryFrame m #[.ref x, .ref y] 3)) (T16.setTop (mkF m 44 #[.val (.ref x), .val (.ref y), .val (.ref y)] [.ref t', .ref t])) := c15.trans (st16 _ (Steps.refl _))
      obtain ⟨v18, T18, X18, E18, g18⟩ := X16.callS hexec (LEq.law l t V t' V') hown (wks W (staticW "java/lang/String" 541 LEq.yN)) (wk W LEq.tab) (W := 0) (Nat.le_of_ble_eq_true rfl) (Nat.le_of_ble_eq_true rfl) (Nat.le_refl _) (Nat.le_refl _) (g := (mkF m 44 #[.val (.ref x), .val (.ref y), .val (.ref y)] [.ref t', .ref t])) rfl (by rw [hml]; rfl) c17 (argsL := [.ref t, .ref t']) (rest := []) rfl rfl (by show 2 * 0 + 0 ≤ _; decide) (hb hbytes d44) (⟨rfl, hx.2.2.2.1.mv X16.warmed.alike hh16, hx.2.2.2.2.1.ty, hy.2.2.2.1.mv X16.warmed.alike hh16, hy.2.2.2.2.1.ty⟩)
      obtain ⟨v, rfl, q18, hv⟩ := E18
      have iff := Cod.eqv hx.2.2.2.2.1 hy.2.2.2.2.1 hx.2.2.2.2.2 hy.2.2.2.2.2
      rcases hv with ⟨rfl, he⟩ | ⟨rfl, he⟩
      · have c19 : Steps p.tables e below (s₁.setTop (entryFrame m #[.ref x, .ref y] 3)) (T18.setTop (mkF m 55 #[.val (.ref x), .val (.ref y), .val (.ref y)] [.int 1])) := Steps.trans g18 (by
          refine XS.ifNo X18.here hexec rfl (hb hbytes d47) rfl (i0_eq_f (by decide)) ?_
          refine iconstV X18.here hexec rfl 1 (hb hbytes d50) (by decide) ?_
          refine XS.goto X18.here hexec rfl (pc0 := 51) rfl (hb hbytes d51) (by decide) rfl ?_
          exact Steps.refl _)
        exact ⟨T18, some (.int 1), _, _, _, X18, rfl, rfl, rfl, (fun h => by cases h), ⟨1, rfl, q18.trans hh16, Or.inl ⟨rfl, iff.mp he⟩⟩, fun fs hl => c19.trans (X18.ireturnOut hexec hret rfl (Or.inr (Or.inl rfl)) (hb hbytes d55) hl)⟩
      · have c19 : Steps p.tables e below (s₁.setTop (entryFrame m #[.ref x, .ref y] 3)) (T18.setTop (mkF m 55 #[.val (.ref x), .val (.ref y), .val (.ref y)] [.int 0])) := Steps.trans g18 (by
          refine XS.ifYes X18.here hexec rfl (pc0 := 47) rfl (hb hbytes d47) rfl (i0_eq_t rfl) (by decide) rfl ?_
          refine iconstV X18.here hexec rfl 0 (hb hbytes d54) (by decide) ?_
          exact Steps.refl _)
        exact ⟨T18, some (.int 0), _, _, _, X18, rfl, rfl, rfl, (fun h => by cases h), ⟨0, rfl, q18.trans hh16, Or.inr ⟨rfl, fun q => he (iff.mpr q)⟩⟩, fun fs hl => c19.trans (X18.ireturnOut hexec hret rfl (Or.inr (Or.inl rfl)) (hb hbytes d55) hl)⟩
    · have c13 : Steps p.tables e below (s₁.setTop (entryFrame m #[.ref x, .ref y] 3)) (T11.setTop (mkF m 55 #[.val (.ref x), .val (.ref y), .val (.ref y)] [.int 0])) := c12.trans (by
        refine XS.icmpYes X11.here hexec rfl (pc0 := 33) rfl (hb hbytes d33) rfl (ii_ne_t hcd) (by decide) rfl ?_
        refine iconstV X11.here hexec rfl 0 (hb hbytes d54) (by decide) ?_
        exact Steps.refl _)
      exact ⟨T11, some (.int 0), _, _, _, X11, rfl, rfl, rfl, (fun h => by cases h), ⟨0, rfl, hh11, Or.inr ⟨rfl, Cod.dif hx.2.2.2.2.1 hy.2.2.2.2.1 hcd⟩⟩, fun fs hl => c13.trans (X11.ireturnOut hexec hret rfl (Or.inr (Or.inl rfl)) (hb hbytes d55) hl)⟩
theorem pays {l : Launch} {R : Room} {p : Program} {e : Env} {below : List Frame} {s : State} {sargs : Array Value} {len W : Nat} (x t : Addr) (V : Cell) (cd : Int32) (n : Nat) (f : Nat → Int32) (y t' : Addr) (V' : Cell) (cd' : Int32) (k : Nat) (g : Nat → Int32) (z : Int32) (htab : tab.before sargs s = true) (hfr : 2 ≤ R.frames) (hlo : W + 28 ≤ R.locals) :
    Back l R p e below s sargs yN len W (fun A₁ a₁ => A₁.cells + 0 ≤ R.cells ∧ A₁.slots + 0 ≤ R.slots ∧ P x t V cd n f y t' V' cd' k g z a₁ A₁.U) (fun A₁ _ v₁ B₁ => Says01 (SameT n f k g) v₁ A₁.U B₁.U ∧ B₁.locs = A₁.locs ++ [] ∧ B₁.cells = A₁.cells + 0 ∧ B₁.slots = A₁.slots + 0) :=
  (law l x t V cd n f y t' V' cd' k g z).pays htab hfr (by omega)
end SEq
end StrChars
namespace StrChars.Road
open Jvm Sem ClassFile Op Lib Jvm.Stand Jvm.Free Jvm.Free.XT
open Jvm.Lib.Cold (StaticIs)
/-- the words of String.equals(Object) -/
abbrev wordsEq : List Jvm.Cond := [.code SEq.yN SEq.yB 3 (some .boolean), .initialized ST, .classLink ST 10 ST, .fieldLink ST 38 ST "COMPACT_STRINGS" "Z", .fieldLink ST 15 ST "coder" "B", .fieldLink ST 9 ST "value" "[B", .methodLink ST 541 LEq.yN, .static LEq.yN, .code LEq.yN LEq.yB 3 (some .boolean), .initialized "java/lang/StringLatin1"]
theorem tabEq_of {a : Array Value} {s : State} (h : ∀ w ∈ wordsEq, w.before a s = true) : SEq.tab.before a s = true := by
  have hl : LEq.tab.before a s = true := unparts (wk h (.code LEq.yN LEq.yB 3 (some .boolean))) (wks h (.initialized LEq.yN.cls :: LEq.site))
  have q := consq hl h
  exact unparts (wk q (.code SEq.yN SEq.yB 3 (some .boolean))) (wks q (.initialized SEq.yN.cls :: SEq.site))
theorem movedEq {Z s : State} {a0 args : Array Value} (hZ : Z.Warmed39 s.vm) (hw : ∀ d ∈ wordsEq, d.before a0 Z = true) : ∀ d ∈ wordsEq, d.before args s = true := fun d hd => by
  have t : ∀ d ∈ wordsEq, (d.onTables && d.keepsFace) = true := by decide +kernel
  exact RoadKit.mv hZ (hw d hd) (t d hd)
/-- the road's facts of a String, as the laws ask it -/
theorem txt_of {Z U : State} {a0 : Array Value} {kI : Nat} (wi : (Jvm.Cond.instantiable ST kI).before a0 Z = true) (al : Z.vm.Alike U.vm) {x t : Addr} {kb : ClassId} {cs : List Int32} {cd N2 : Int32} {vs : List Value} (E : RoadKit.Exa Z U.heap x ST) (V : RoadKit.Fld Z U.heap x ST "value" "[B" (.ref t)) (C : RoadKit.Fld Z U.heap x ST "coder" "B" (.int cd)) (K : RoadKit.Arv Z U.heap t kb .byte N2 vs (.int 0)) (hc : CodA cs cd N2 vs) (hb : ∀ c ∈ cs, ¬ c < 0 ∧ ¬ (65535 : Int32) < c) (l2 : cs.length ≤ 4000) :
    ∃ A, Txt x t A cd cs.length (fun j => cs.getD j 0) U := by
  obtain ⟨A, K1, K2, K3, K4, K5, K6⟩ := K
  have hcod := hc.cod (by omega) K3 K5
  obtain ⟨D, fV, fC, hB, F1, F2, g1, g2, -, -⟩ := strObj wi al E V C
  exact ⟨A, ⟨_, hB.2.2.1, D, hB.1, rfl, by cases q : D.vm <;> first | rfl | exact absurd q (hB.2.1.2 _)⟩, Has.of hB F1 g1, Has.of hB F2 g2, ⟨K1.1, State.isArrayOf_alike al K1.2.1, K1.2.2, by rcases hcod with ⟨-, q, -⟩ | ⟨-, q, -⟩ <;> omega⟩, hcod, fun j hj => by
    have e : cs.getD j 0 = cs[j] := by simp [List.getD_eq_getElem?_getD, hj]
    show ¬ cs.getD j 0 < 0 ∧ ¬ 65535 < cs.getD j 0
    rw [e]; exact hb _ (List.getElem_mem _)⟩
theorem same_list (cs ds : List Int32) : SameT cs.length (fun j => cs.getD j 0) ds.length (fun j => ds.getD j 0) ↔ cs = ds := by
  constructor
  · rintro ⟨e, q⟩
    refine List.ext_getElem e fun j h1 h2 => ?_
    have := q j h1
    simpa [List.getD_eq_getElem?_getD, h1, h2] using this
  · rintro rfl
    exact ⟨rfl, fun _ _ => rfl⟩
/-- **equals(Object) OF TWO SUCH STRINGS**: 1 just where the chars are the same -/
theorem eqW {p : Program} {l : Launch} {e : Env} {R : Room} {s : State} {args : Array Value} {below : List Frame} {len W : Nat} {Z : State} {a0 : Array Value} {h : Heap} (hZ : Z.Warmed39 s.vm) (hw : ∀ d ∈ wordsEq, d.before a0 Z = true) {kI : Nat} (wi : (Jvm.Cond.instantiable ST kI).before a0 Z = true)
    {x t : Addr} {kb : ClassId} {cs : List Int32} {cd N2 : Int32} {vs : List Value} (E : RoadKit.Exa Z h x ST) (V : RoadKit.Fld Z h x ST "value" "[B" (.ref t)) (C : RoadKit.Fld Z h x ST "coder" "B" (.int cd)) (K : RoadKit.Arv Z h t kb .byte N2 vs (.int 0)) (hc : CodA cs cd N2 vs) (hb : ∀ c ∈ cs, ¬ c < 0 ∧ ¬ (65535 : Int32) < c) (l2 : cs.length ≤ 4000)
    {y t' : Addr} {kb' : ClassId} {ds : List Int32} {cd' N2' : Int32} {vs' : List Value} (E' : RoadKit.Exa Z h y ST) (V' : RoadKit.Fld Z h y ST "value" "[B" (.ref t')) (C' : RoadKit.Fld Z h y ST "coder" "B" (.int cd')) (K' : RoadKit.Arv Z h t' kb' .byte N2' vs' (.int 0)) (hc' : CodA ds cd' N2' vs') (hb' : ∀ c ∈ ds, ¬ c < 0 ∧ ¬ (65535 : Int32) < c) (l2' : ds.length ≤ 4000)
    {z : Int32} (S : RoadKit.Sta Z h ST "COMPACT_STRINGS" "Z" (.int z)) (hz : ¬ z = 0) (hfr : 2 ≤ R.frames) (hlo : W + 28 ≤ R.locals) :
    Back l R p e below s args (⟨"java/lang/String", "equals", "(Ljava/lang/Object;)Z"⟩ : MethodName) len W (fun P a => a = #[.ref x, .ref y] ∧ P.U.heap = h ∧ P.cells + 0 ≤ R.cells ∧ P.slots + 0 ≤ R.slots)
      (fun P _ v B => ∃ L, (((v = some (.int 1) ∧ cs = ds) ∨ (v = some (.int 0) ∧ ¬ cs = ds)) ∧ L = [] ∧ B.U.heap = h) ∧ B.locs = P.locs ++ L ∧ B.cells = P.cells + 0 ∧ B.slots = P.slots + 0) := by
  intro m meth c P g ig mk a X hg hsize hdg hW hn hp'
  obtain ⟨rfl, rfl, r1, r2⟩ := hp'
  have al : Z.vm.Alike P.U.vm := hZ.alike.trans X.warmed.alike
  obtain ⟨A, hx⟩ := txt_of wi al E V C K hc hb l2
  obtain ⟨A', hy⟩ := txt_of wi al E' V' C' K' hc' hb' l2'
  obtain ⟨v, B, X', ⟨⟨w, hv, hh, hq⟩, hl, hk, hs⟩, st⟩ := SEq.pays x t A cd cs.length (fun j => cs.getD j 0) y t' A' cd' ds.length (fun j => ds.getD j 0) z (tabEq_of (movedEq hZ hw)) hfr hlo m meth c P g ig mk _ X hg hsize hdg hW hn ⟨r1, r2, rfl, hx, hy, sta_is al S, hz⟩
  refine ⟨v, B, X', ⟨[], ⟨?_, rfl, hh⟩, hl, hk, hs⟩, st⟩
  rcases hq with ⟨rfl, q⟩ | ⟨rfl, q⟩
  · exact Or.inl ⟨hv, (same_list cs ds).mp q⟩
  · exact Or.inr ⟨hv, fun e => q ((same_list cs ds).mpr e)⟩
end StrChars.Road
namespace StrChars.Road
open Jvm Sem ClassFile Op Lib Jvm.Stand Jvm.Free Jvm.Free.XT
open Jvm.Lib.Cold (StaticIs)
/-- what backV says of its String, as the contracts of this text ask it: cs's low bytes, coder 0 -/
theorem codOf {cs : List Int32} {n : Nat} (hn : cs.length = n) (hb : ∀ c ∈ cs, ¬ 255 < c) : CodA cs 0 (Int32.ofNat n) ((cs.map lo8).map Value.int) := Or.inl ⟨rfl, by rw [hn], by simp [List.map_map, Function.comp_def], hb⟩
end StrChars.Road
end Jvm.Pilot.@@N@@
namespace Jvm.Pilot.@@N@@
open Jvm Jvm.ClassFile Sem Op Lib Jvm.Free Jvm.Stand Jvm.LawKit Jvm.RoadKit Bundle Jvm.Pilot.@@N@@.Jvm.D
/-! the walk in continuation style: 'Go .. A': from A the run comes to its end, and P holds there -/
def Go (p : Program) (e : Env) (below : List Frame) (P : Outcome → State → Prop) (A : State) : Prop := ∃ s₂ o, Steps p.tables e below A s₂ ∧ s₂.status = .running ∧ Ended s₂ below o ∧ P o s₂
theorem Go.by {p : Program} {e : Env} {below : List Frame} {P : Outcome → State → Prop} {A B : State} (h : ∀ t, Steps p.tables e below B t → Steps p.tables e below A t) (k : Go p e below P B) : Go p e below P A := by
  obtain ⟨s2, o, h1, h2⟩ := k
  exact ⟨s2, o, h _ h1, h2⟩
def End (s : State) (Q : Option Value → Heap → List Loc → Prop) (k n : Nat) (o : Outcome) (U : State) : Prop := ∃ v L, o = .returned v ∧ Q v U.heap L ∧ FrameEnd s o U L k n
section Ends
variable {p : Program} {l : Launch} {e : Env} {R : Room} {s : State} {m : MethodId} {args : Array Value} {below : List Frame} {meth : Method} {c : Code} {T : State} {locs : List Loc} {cells slots : Nat} {Q : Option Value → Heap → List Loc → Prop} {C S : Nat}
theorem Go.fin (X : Stand p l e R s m args below meth c T locs cells slots) {A : State} {v : Option Value} (hv : meth.sig.returnType = none → v = none) (hlk : meth.locks = false) (hk : cells ≤ C) (hn : slots ≤ S) (hQ : Q v T.heap locs)
    (k : ∀ fs, (∀ (f : JFrame) (acts : List Action), f.method = m → f.locked = none → f.entered = [] → (doReturn e (T.setTop f) acts v).1 = T.setFrames fs) → Steps p.tables e below A (T.setFrames fs)) : Go p e below (End s Q C S) A := by
  obtain ⟨fs, hr, hrun, hended, hW, hsame⟩ := X.leave (v := v) hv hlk
  exact ⟨_, _, k fs hr, hrun, hended, _, _, rfl, hQ, ⟨_, rfl⟩, hW, hsame.mono hk hn⟩
theorem Go.retZ (X : Stand p l e R s m args below meth c T locs cells slots) (hx : p.tables.exec = Jvm.exec) {pc : Nat} {Ls : Array Slot} {z : Int32} {t : FieldType} {rest : List Value} (hret : meth.sig.returnType = some t) (ht : t = .boolean ∨ t = .byte ∨ t = .char ∨ t = .short) (hlk : meth.locks = false)
    (hd : decode c.code pc = .ok (.ireturn, 1)) (hk : cells ≤ C) (hn : slots ≤ S) (hQ : Q (some (.int (nar t z))) T.heap locs) : Go p e below (End s Q C S) (T.setTop (mkF m pc Ls (.int z :: rest))) :=
  Go.fin X (fun h => by rw [hret] at h; cases h) hlk hk hn hQ fun fs hr => retN X hx hret ht hd hr
theorem Go.retI (X : Stand p l e R s m args below meth c T locs cells slots) (hx : p.tables.exec = Jvm.exec) {pc : Nat} {Ls : Array Slot} {z : Int32} {rest : List Value} (hret : meth.sig.returnType = some .int) (hlk : meth.locks = false)
    (hd : decode c.code pc = .ok (.ireturn, 1)) (hk : cells ≤ C) (hn : slots ≤ S) (hQ : Q (some (.int z)) T.heap locs) : Go p e below (End s Q C S) (T.setTop (mkF m pc Ls (.int z :: rest))) :=
  Go.fin X (fun h => by rw [hret] at h; cases h) hlk hk hn hQ fun fs hr => retOut X hx hret rfl (Or.inl ⟨rfl, Or.inl rfl, _, rfl⟩) hd hr
theorem Go.retR (X : Stand p l e R s m args below meth c T locs cells slots) (hx : p.tables.exec = Jvm.exec) {pc : Nat} {Ls : Array Slot} {w : Value} {t : FieldType} {rest : List Value} (hret : meth.sig.returnType = some t) (ht : t.isReference = true) (hw : w.isRef = true) (hlk : meth.locks = false)
    (hd : decode c.code pc = .ok (.areturn, 1)) (hk : cells ≤ C) (hn : slots ≤ S) (hQ : Q (some w) T.heap locs) : Go p e below (End s Q C S) (T.setTop (mkF m pc Ls (w :: rest))) :=
  Go.fin X (fun h => by rw [hret] at h; cases h) hlk hk hn hQ fun fs hr => retOut X hx hret (by cases t <;> cases w <;> first | rfl | (simp [FieldType.isReference] at ht) | (simp [Value.isRef] at hw)) (Or.inr (Or.inr (Or.inr (Or.inr ⟨rfl, ht, hw⟩)))) hd hr
theorem Go.retV (X : Stand p l e R s m args below meth c T locs cells slots) (hx : p.tables.exec = Jvm.exec) {pc : Nat} {Ls : Array Slot} (hret : meth.sig.returnType = none) (hlk : meth.locks = false)
    (hd : decode c.code pc = .ok (.return_, 1)) (hk : cells ≤ C) (hn : slots ≤ S) (hQ : Q none T.heap locs) : Go p e below (End s Q C S) (T.setTop (mkF m pc Ls [])) :=
  Go.fin X (fun _ => rfl) hlk hk hn hQ fun fs hr => X.returnOut hx hret hd hr
theorem own_iinc {tb : Tables} [Ours tb] {e : Env} {below : List Frame} {T target : State} {m : MethodId} {c : Code} {g : JFrame} (h : At T m c below) (hx : tb.exec = Jvm.exec) (hg : g.method = m) {k : Nat} {cst : Int} {x z : Int32} {l' : Array Slot} (hd : decode c.code g.pc = .ok (.iinc k cst, 3)) (hl : g.locals[k]? = some (.val (.int x))) (hz : Int32.ofInt cst = z) (hl' : storeLocals g.locals k (.int (x + z)) = some l')
    (hr : Steps tb e below (T.setTop { g with pc := g.pc + 3, locals := l' }) target) : Steps tb e below (T.setTop g) target := XS.iinc h hx hg hd hl (by rw [hz]; exact hl') hr
theorem own_eqi {t : Term} {n : Int32} {args : Array Value} {s : State} (h : (Cond.eq t (.int n)).before args s = true) : t.eval args s none [] s = some (.int n) := Cond.eq_int h (Term.int_eval n)
theorem own_n1 : nar .boolean (1 : Int32) = 1 := rfl
theorem own_n0 : nar .boolean (0 : Int32) = 0 := rfl
theorem own_wid (X : Stand p l e R s m args below meth c T locs cells slots) (hk : cells ≤ C) (hn : slots ≤ S) : Stand p l e R s m args below meth c T locs C S :=
  ⟨X.admits, X.cas, X.clock, X.frames, X.room, X.hears, X.method, X.code, X.here, X.tail, X.warmed, X.limits, X.bytes, X.same.mono hk hn⟩
end Ends
def Glob (Z : State) (zC : Int32) : Prop := Sta Z Z.heap "java/lang/String" "COMPACT_STRINGS" "Z" (.int zC) ∧ ¬ zC = 0
theorem own_sk {Z : State} {EL : List (String × Nat)} {vm : Vm} {h : Heap} {ws : List Addr} (_ : CHv Z EL vm h) (H : ∀ x ∈ ws, Safe Z EL vm h x) : ∀ x ∈ ws, Safe Z EL vm h x := H
section EndsC
variable {p : Program} {l : Launch} {e : Env} {R : Room} {s Z : State} {EL : List (String × Nat)} {vm0 : Vm} {k0 : Nat} {m : MethodId} {args : Array Value} {below : List Frame} {meth : Method} {c : Code} {T : State} {locs : List Loc} {cells slots : Nat} {Q : Option Value → Heap → List Loc → Prop} {C S : Nat}
def EndC (Z : State) (EL : List (String × Nat)) (s : State) (Q : Option Value → Heap → List Loc → Prop) (k n : Nat) (o : Outcome) (U : State) : Prop := ∃ v L, o = .returned v ∧ Q v U.heap L ∧ CHr Z EL s.vm s.heap U.vm U.heap ∧ ReturnedEndW s o U L k n
theorem Go.finC (X : Stand p l e R (s.setVm vm0) m args below meth c T locs cells slots) (hS : s.Since vm0 k0) (hk0 : k0 ≤ T.heap.size) {A : State} {v : Option Value} (hv : meth.sig.returnType = none → v = none) (hlk : meth.locks = false) (hk : cells ≤ C) (hn : slots ≤ S) (hQ : Q v T.heap locs) (hC : CHr Z EL s.vm s.heap T.vm T.heap)
    (k : ∀ fs, (∀ (f : JFrame) (acts : List Action), f.method = m → f.locked = none → f.entered = [] → (doReturn e (T.setTop f) acts v).1 = T.setFrames fs) → Steps p.tables e below A (T.setFrames fs)) : Go p e below (EndC Z EL s Q C S) A := by
  obtain ⟨fs, hr, hrun, hended, hE⟩ := X.leaveW hS hk0 (v := v) hv hlk
  exact ⟨_, _, k fs hr, hrun, hended, _, _, rfl, hQ, hC, hE.1, hE.2.1, hE.2.2.1, hE.2.2.2.mono hk hn⟩
theorem Go.retZC (X : Stand p l e R (s.setVm vm0) m args below meth c T locs cells slots) (hx : p.tables.exec = Jvm.exec) (hS : s.Since vm0 k0) (hk0 : k0 ≤ T.heap.size) {pc : Nat} {Ls : Array Slot} {z : Int32} {t : FieldType} {rest : List Value} (hret : meth.sig.returnType = some t) (ht : t = .boolean ∨ t = .byte ∨ t = .char ∨ t = .short) (hlk : meth.locks = false)
    (hd : decode c.code pc = .ok (.ireturn, 1)) (hk : cells ≤ C) (hn : slots ≤ S) (hQ : Q (some (.int (nar t z))) T.heap locs) (hC : CHr Z EL s.vm s.heap T.vm T.heap) : Go p e below (EndC Z EL s Q C S) (T.setTop (mkF m pc Ls (.int z :: rest))) :=
  Go.finC X hS hk0 (fun h => by rw [hret] at h; cases h) hlk hk hn hQ hC fun fs hr => retN X hx hret ht hd hr
theorem Go.retIC (X : Stand p l e R (s.setVm vm0) m args below meth c T locs cells slots) (hx : p.tables.exec = Jvm.exec) (hS : s.Since vm0 k0) (hk0 : k0 ≤ T.heap.size) {pc : Nat} {Ls : Array Slot} {z : Int32} {rest : List Value} (hret : meth.sig.returnType = some .int) (hlk : meth.locks = false)
    (hd : decode c.code pc = .ok (.ireturn, 1)) (hk : cells ≤ C) (hn : slots ≤ S) (hQ : Q (some (.int z)) T.heap locs) (hC : CHr Z EL s.vm s.heap T.vm T.heap) : Go p e below (EndC Z EL s Q C S) (T.setTop (mkF m pc Ls (.int z :: rest))) :=
  Go.finC X hS hk0 (fun h => by rw [hret] at h; cases h) hlk hk hn hQ hC fun fs hr => retOut X hx hret rfl (Or.inl ⟨rfl, Or.inl rfl, _, rfl⟩) hd hr
theorem Go.retRC (X : Stand p l e R (s.setVm vm0) m args below meth c T locs cells slots) (hx : p.tables.exec = Jvm.exec) (hS : s.Since vm0 k0) (hk0 : k0 ≤ T.heap.size) {pc : Nat} {Ls : Array Slot} {w : Value} {t : FieldType} {rest : List Value} (hret : meth.sig.returnType = some t) (ht : t.isReference = true) (hw : w.isRef = true) (hlk : meth.locks = false)
    (hd : decode c.code pc = .ok (.areturn, 1)) (hk : cells ≤ C) (hn : slots ≤ S) (hQ : Q (some w) T.heap locs) (hC : CHr Z EL s.vm s.heap T.vm T.heap) : Go p e below (EndC Z EL s Q C S) (T.setTop (mkF m pc Ls (w :: rest))) :=
  Go.finC X hS hk0 (fun h => by rw [hret] at h; cases h) hlk hk hn hQ hC fun fs hr => retOut X hx hret (by cases t <;> cases w <;> first | rfl | (simp [FieldType.isReference] at ht) | (simp [Value.isRef] at hw)) (Or.inr (Or.inr (Or.inr (Or.inr ⟨rfl, ht, hw⟩)))) hd hr
theorem Go.retVC (X : Stand p l e R (s.setVm vm0) m args below meth c T locs cells slots) (hx : p.tables.exec = Jvm.exec) (hS : s.Since vm0 k0) (hk0 : k0 ≤ T.heap.size) {pc : Nat} {Ls : Array Slot} (hret : meth.sig.returnType = none) (hlk : meth.locks = false)
    (hd : decode c.code pc = .ok (.return_, 1)) (hk : cells ≤ C) (hn : slots ≤ S) (hQ : Q none T.heap locs) (hC : CHr Z EL s.vm s.heap T.vm T.heap) : Go p e below (EndC Z EL s Q C S) (T.setTop (mkF m pc Ls [])) :=
  Go.finC X hS hk0 (fun _ => rfl) hlk hk hn hQ hC fun fs hr => X.returnOut hx hret hd hr
end EndsC

/-- a Latin-1 String at x, its bytes at t, of the chars cs -/
def Str (Z : State) (h : Heap) (x t : Addr) (cs : List Int32) : Prop := ∃ (kb : ClassId) (N : Int32) (vs : List Value), Exa Z h x "java/lang/String" ∧ Fld Z h x "java/lang/String" "value" "[B" (.ref t) ∧ Fld Z h x "java/lang/String" "coder" "B" (.int (0 : Int32)) ∧ Arv Z h t kb .byte N vs (.int (0 : Int32)) ∧ StrChars.Road.CodA cs 0 N vs ∧ (∀ c ∈ cs, ¬ c < 0 ∧ ¬ (65535 : Int32) < c) ∧ cs.length ≤ 4000
section Strs
variable {Z : State} {h h' : Heap} {x t a : Addr} {cs : List Int32}
theorem Str.mk {kb : ClassId} {N : Int32} {vs : List Value} (E : Exa Z h x "java/lang/String") (V : Fld Z h x "java/lang/String" "value" "[B" (.ref t)) (C : Fld Z h x "java/lang/String" "coder" "B" (.int (0 : Int32))) (K : Arv Z h t kb .byte N vs (.int (0 : Int32))) (hc : StrChars.Road.CodA cs 0 N vs) (hb : ∀ c ∈ cs, ¬ c < 0 ∧ ¬ (65535 : Int32) < c) (hl : cs.length ≤ 4000) : Str Z h x t cs := ⟨kb, N, vs, E, V, C, K, hc, hb, hl⟩
theorem Str.exa (F : Str Z h x t cs) : Exa Z h x "java/lang/String" := by obtain ⟨_, _, _, E, _⟩ := F; exact E
theorem Str.ltx (F : Str Z h x t cs) : x < h.size := F.exa.lt
theorem Str.ltt (F : Str Z h x t cs) : t < h.size := by obtain ⟨_, _, _, -, -, -, K, -⟩ := F; obtain ⟨c, A, -⟩ := K; exact A.lt
theorem Str.ext (F : Str Z h x t cs) (E : Ext h h') : Str Z h' x t cs := by obtain ⟨kb, N, vs, f1, f2, f3, f4, r⟩ := F; exact ⟨kb, N, vs, f1.ext E, f2.ext E, f3.ext E, f4.ext E, r⟩
theorem Str.wr {sl : Nat} {v : Value} (F : Str Z h x t cs) (W : Wr h h' a sl v) (q1 : x ≠ a) (q2 : t ≠ a) : Str Z h' x t cs := by obtain ⟨kb, N, vs, f1, f2, f3, f4, r⟩ := F; exact ⟨kb, N, vs, f1.wr W, f2.other W (Or.inl q1), f3.other W (Or.inl q1), f4.other W q2, r⟩
theorem Str.keep {ws : List Addr} (F : Str Z h x t cs) (K : Keep h h' ws) (q1 : x ∉ ws) (q2 : t ∉ ws) : Str Z h' x t cs := by obtain ⟨kb, N, vs, f1, f2, f3, f4, r⟩ := F; exact ⟨kb, N, vs, f1.keep K, f2.keep K q1, f3.keep K q1, f4.keep K q2, r⟩
end Strs
theorem own_narc (y : Int32) : nar .char (y.toUInt32.toUInt16.toUInt32.toInt32) = y.toUInt32.toUInt16.toUInt32.toInt32 := by simp only [nar, UInt32.toUInt32_toInt32, UInt16.toUInt16_toUInt32]
theorem own_chr (z : Int32) : ¬ (z &&& (255 : Int32)).toUInt32.toUInt16.toUInt32.toInt32 < 0 ∧ ¬ (255 : Int32) < (z &&& (255 : Int32)).toUInt32.toUInt16.toUInt32.toInt32 := by
  have h1 := c_i2c (z &&& (255 : Int32))
  have h2 := c_and z 255 (by decide)
  have k1 : (255 : Int32).toInt = 255 := rfl
  have k0 : (0 : Int32).toInt = 0 := rfl
  rw [Int32.lt_iff_toInt_lt, Int32.lt_iff_toInt_lt]
  omega
theorem own_up (cs : List Int32) (h : ∀ c ∈ cs, ¬ c < 0 ∧ ¬ (255 : Int32) < c) : ∀ c ∈ cs, ¬ c < 0 ∧ ¬ (65535 : Int32) < c := fun c hc => ⟨(h c hc).1, fun q => (h c hc).2 (by rw [Int32.lt_iff_toInt_lt] at q ⊢; have e1 : (65535 : Int32).toInt = 65535 := rfl; have e2 : (255 : Int32).toInt = 255 := rfl; omega)⟩
theorem own_words {Z : State} {a0 : Array Value} (hw : ∀ d ∈ tables_1, d.before a0 Z = true) : ∀ d ∈ StrChars.Road.words, d.before a0 Z = true := fun d hd => hw d ((by decide +kernel : ∀ d ∈ StrChars.Road.words, d ∈ tables_1) d hd)
theorem own_wordsEq {Z : State} {a0 : Array Value} (hw : ∀ d ∈ tables_1, d.before a0 Z = true) : ∀ d ∈ StrChars.Road.wordsEq, d.before a0 Z = true := fun d hd => hw d ((by decide +kernel : ∀ d ∈ StrChars.Road.wordsEq, d ∈ tables_1) d hd)
theorem own_safeA {Z : State} {vm : Vm} {h : Heap} {EL : List (String × Nat)} {x : Addr} {k : ClassId} {ty : FieldType} {z : Int32} {vs : List Value} {dv : Value} (hal : Z.vm.Alike vm) (A : Arv Z h x k ty z vs dv) (ht : ty ≠ .byte) : Safe Z EL vm h x := by
  obtain ⟨c, A, -⟩ := A
  exact Safe.arr hal A ht
theorem own_blank {Z : State} {vm : Vm} {h : Heap} {EL : List (String × Nat)} {x : Addr} (hal : Z.vm.Alike vm) (E : Exa Z h x "java/lang/String") (F : Fld Z h x "java/lang/String" "value" "[B" .null) : Safe Z EL vm h x := fun B => by
  obtain ⟨p, -, u, a, -, q, -, G, rfl | rfl⟩ := B
  · obtain ⟨cell, cf, k, i, f, h1, h2, -, -, -, -, h7⟩ := F
    obtain ⟨cS, ⟨⟨g1, -, -, ⟨c', k', i', g4, -⟩, -, -, -, g8, -⟩, -⟩, -⟩ := G
    cases (show h[q.sa]? = some q.sC from g1).symm.trans h1
    obtain ⟨k2, e2⟩ := ff_back (U := Wst Z vm h) hal g4
    cases h2.symm.trans e2
    rw [h7] at g8; cases g8
  · obtain ⟨cell, k, e1, e2, -⟩ := E
    have gd := G.hd
    obtain ⟨cS, -, -, f, -⟩ := G
    cases (show h[q.sd]? = some q.SA from gd).symm.trans e1
    have f' : Z.vm.findClass "[B" = some q.SA.cls := by rw [← hal.findClass]; exact f
    obtain ⟨k1, q1, q2⟩ := Vm.findClass_spec f'
    obtain ⟨k2, q3, q4⟩ := Vm.findClass_spec e2
    cases q1.symm.trans q3
    exact absurd (q2.symm.trans q4) (by decide)
theorem own_eqW {p : Program} {l : Launch} {e : Env} {R : Room} {s : State} {args : Array Value} {below : List Frame} {len W : Nat} {Z : State} {a0 : Array Value} {h : Heap} (hZ : Z.Warmed39 s.vm) (hw : ∀ d ∈ StrChars.Road.wordsEq, d.before a0 Z = true) (wi : (Jvm.Cond.instantiable "java/lang/String" 4).before a0 Z = true)
    {x t y t' : Addr} {cs ds : List Int32} (A : Str Z h x t cs) (B : Str Z h y t' ds) {z : Int32} (S : Sta Z h "java/lang/String" "COMPACT_STRINGS" "Z" (.int z)) (hz : ¬ z = 0) (hfr : 2 ≤ R.frames) (hlo : W + 28 ≤ R.locals) :
    Back l R p e below s args (⟨"java/lang/String", "equals", "(Ljava/lang/Object;)Z"⟩ : MethodName) len W (fun P a => a = #[.ref x, .ref y] ∧ P.U.heap = h ∧ P.cells + 0 ≤ R.cells ∧ P.slots + 0 ≤ R.slots)
      (fun P _ v B => ∃ L, (((v = some (.int 1) ∧ cs = ds) ∨ (v = some (.int 0) ∧ ¬ cs = ds)) ∧ L = [] ∧ B.U.heap = h) ∧ B.locs = P.locs ++ L ∧ B.cells = P.cells + 0 ∧ B.slots = P.slots + 0) := by
  obtain ⟨kb, N, vs, f1, f2, f3, f4, f5, f6, f7⟩ := A
  obtain ⟨kb', N', vs', g1, g2, g3, g4, g5, g6, g7⟩ := B
  exact StrChars.Road.eqW hZ hw wi f1 f2 f3 f4 f5 f6 f7 g1 g2 g3 g4 g5 g6 g7 S hz hfr hlo
theorem own_wS {Z : State} {a0 : Array Value} (hw : ∀ d ∈ tables_1, d.before a0 Z = true) : ∀ d ∈ Bundle.stringAtoms, d.before a0 Z = true := fun d hd => hw d ((by decide +kernel : ∀ d ∈ Bundle.stringAtoms, d ∈ tables_1) d hd)
theorem own_EW {Z : State} {a0 : Array Value} (hw : ∀ d ∈ tables_1, d.before a0 Z = true) : EW Z a0 consts_1 := (EW.cons (hw _ (List.mem_of_getElem? (i := 89) rfl)) (by decide) EW.nil)
theorem own_lt3 (i : Int32) (h : 0 ≤ i.toInt ∧ i.toInt < 3) : i = 0 ∨ i = 1 ∨ i = 2 := by
  have q : i.toInt = 0 ∨ i.toInt = 1 ∨ i.toInt = 2 := by omega
  rcases q with q | q | q
  · exact Or.inl (Int32.toInt_inj.mp q)
  · exact Or.inr (Or.inl (Int32.toInt_inj.mp q))
  · exact Or.inr (Or.inr (Int32.toInt_inj.mp q))
theorem own_mod3 (x : Int32) : 0 ≤ ((x &&& (2147483647 : Int32)) % (3 : Int32)).toInt ∧ ((x &&& (2147483647 : Int32)) % (3 : Int32)).toInt < 3 := by
  have h1 : (x &&& (2147483647 : Int32)).toInt = x.toInt % (2 ^ 31 : Nat) := c_mask x 2147483647 31 (by decide) (by decide)
  have h2 := (c_irem (x &&& (2147483647 : Int32)) 3 3 rfl).1 (by omega)
  omega
def mkL (n a b : Int32) : List Int32 := if n = 0 then [] else if n = 1 then [a] else [a, b]
theorem own_narr {p : Int32} (h : ¬ p < 0 ∧ ¬ (255 : Int32) < p) : nar .char p = p := by
  have e : p = Int32.ofNat p.toBitVec.toNat := by
    apply Int32.toBitVec_inj.mp
    show _ = BitVec.ofNat 32 _
    rw [BitVec.ofNat_toNat]; simp
  have t : ∀ k : Fin 256, nar .char (Int32.ofNat k.val) = Int32.ofNat k.val := by decide +kernel
  have h0 : (0 : Int32).toInt = 0 := rfl
  have h1 : (255 : Int32).toInt = 255 := rfl
  have hb : p.toBitVec.toNat < 256 := by
    have q1 := h.1; have q2 := h.2
    rw [Int32.lt_iff_toInt_lt] at q1 q2
    have q3 : p.toInt = p.toBitVec.toInt := rfl
    rw [BitVec.toInt_eq_toNat_cond] at q3
    split at q3 <;> omega
  rw [e]; exact t ⟨_, hb⟩
theorem own_one {a : Int32} (h : ¬ a < 0 ∧ ¬ (255 : Int32) < a) : ∀ c ∈ ([a] : List Int32), ¬ c < 0 ∧ ¬ (255 : Int32) < c := by
  intro c hc
  simp only [List.mem_cons, List.not_mem_nil, or_false] at hc
  subst hc; exact h
theorem own_two {a b : Int32} (h : ¬ a < 0 ∧ ¬ (255 : Int32) < a) (g : ¬ b < 0 ∧ ¬ (255 : Int32) < b) : ∀ c ∈ ([a, b] : List Int32), ¬ c < 0 ∧ ¬ (255 : Int32) < c := by
  intro c hc
  simp only [List.mem_cons, List.not_mem_nil, or_false] at hc
  rcases hc with rfl | rfl
  · exact h
  · exact g
theorem own_i2c {p : Int32} (h : ¬ p < 0 ∧ ¬ (255 : Int32) < p) : p.toUInt32.toUInt16.toUInt32.toInt32 = p := own_narr h
theorem own_and255 (z : Int32) : ¬ (z &&& (255 : Int32)) < 0 ∧ ¬ (255 : Int32) < (z &&& (255 : Int32)) := by
  have h2 := c_and z 255 (by decide)
  have k1 : (255 : Int32).toInt = 255 := rfl
  have k0 : (0 : Int32).toInt = 0 := rfl
  rw [Int32.lt_iff_toInt_lt, Int32.lt_iff_toInt_lt]
  omega
theorem own_sh9 (x : Int32) : 0 ≤ (((x).toUInt32 >>> ((9 : Int32) &&& 31).toUInt32).toInt32 % (3 : Int32)).toInt ∧ (((x).toUInt32 >>> ((9 : Int32) &&& 31).toUInt32).toInt32 % (3 : Int32)).toInt < 3 := by
  have h1 := c_iushr x 9 9 (by decide) (by decide)
  have h2 := (c_irem ((x).toUInt32 >>> ((9 : Int32) &&& 31).toUInt32).toInt32 3 3 rfl).1 (by omega)
  omega
theorem own_pos (x : Int64) : ¬ (x &&& (9223372036854775807 : Int64)) < 0 := by
  have h1 := c_maskL x 9223372036854775807 63 (by decide) (by decide)
  have k0 : (0 : Int64).toInt = 0 := rfl
  rw [Int64.lt_iff_toInt_lt]; omega
theorem own_shares (x : Int64) : 0 < ((x &&& (4611686018427387903 : Int64)) + (1 : Int64)) := by
  have h1 := c_maskL x 4611686018427387903 62 (by decide) (by decide)
  have h2 := c_ladd (x &&& (4611686018427387903 : Int64)) 1
  have h3 := rng64 ((x &&& (4611686018427387903 : Int64)) + (1 : Int64))
  have k0 : (0 : Int64).toInt = 0 := rfl
  have k1 : (1 : Int64).toInt = 1 := rfl
  rw [Int64.lt_iff_toInt_lt]; omega
theorem own_lt12 {x : Int32} (h : x < 1) : x < 2 := by
  have k1 : (1 : Int32).toInt = 1 := rfl
  have k2 : (2 : Int32).toInt = 2 := rfl
  rw [Int32.lt_iff_toInt_lt] at *; omega
theorem own_diff (l1 l2 c0 c1 d0 d1 : Int32) (h1 : 0 ≤ l1.toInt ∧ l1.toInt < 3) (h2 : 0 ≤ l2.toInt ∧ l2.toInt < 3) : mkL l2 d0 d1 = mkL l1 c0 c1 ↔ (l2 = l1 ∧ (¬ l1 < 1 → d0 = c0) ∧ (¬ l1 < 2 → d1 = c1)) := by
  rcases own_lt3 l1 h1 with rfl | rfl | rfl <;> rcases own_lt3 l2 h2 with rfl | rfl | rfl <;> simp +decide [mkL]
theorem pn_0 : plainName "java/lang/String" = true := by first | (simp [plainName, overriddenIn]; done) | decide +kernel
theorem pd_0 : parseMethodDescriptor "([CIILjava/lang/Void;)V" = some ⟨[(.array .char), .int, .int, (.object "java/lang/Void")], none⟩ := by decide +kernel
theorem pd_1 : parseMethodDescriptor "([C)V" = some ⟨[(.array .char)], none⟩ := by decide +kernel
theorem pn_1 : plainName "com/example/halyard/halyard/model/ReplaceOrderRenamesPinLaw" = true := by first | (simp [plainName, overriddenIn]; done) | decide +kernel
theorem pn_2 : plainName "java/lang/Record" = true := by first | (simp [plainName, overriddenIn]; done) | decide +kernel
theorem pn_3 : plainName "java/util/Objects" = true := by first | (simp [plainName, overriddenIn]; done) | decide +kernel
theorem pd_2 : parseMethodDescriptor "()V" = some ⟨[], none⟩ := by decide +kernel
theorem pn_4 : plainName "com/example/halyard/halyard/model/Price" = true := by first | (simp [plainName, overriddenIn]; done) | decide +kernel
theorem pd_3 : parseMethodDescriptor "(Ljava/lang/Object;)Ljava/lang/Object;" = some ⟨[(.object "java/lang/Object")], some (.object "java/lang/Object")⟩ := by decide +kernel
theorem pn_5 : plainName "com/example/halyard/halyard/model/ReplaceOrder" = true := by first | (simp [plainName, overriddenIn]; done) | decide +kernel
theorem pd_4 : parseMethodDescriptor "(Ljava/lang/String;JLcom/example/halyard/halyard/model/Price;Ljava/lang/String;)V" = some ⟨[(.object "java/lang/String"), .long, (.object "com/example/halyard/halyard/model/Price"), (.object "java/lang/String")], none⟩ := by decide +kernel
theorem pd_5 : parseMethodDescriptor "(Ljava/lang/Object;)Z" = some ⟨[(.object "java/lang/Object")], some .boolean⟩ := by decide +kernel
theorem pd_6 : parseMethodDescriptor "(ICC)Ljava/lang/String;" = some ⟨[.int, .char, .char], some (.object "java/lang/String")⟩ := by decide +kernel
theorem pd_7 : parseMethodDescriptor "(J)V" = some ⟨[.long], none⟩ := by decide +kernel
theorem pd_8 : parseMethodDescriptor "()Z" = some ⟨[], some .boolean⟩ := by decide +kernel
theorem pd_9 : parseMethodDescriptor "(Ljava/lang/String;JLcom/example/halyard/halyard/model/Price;)V" = some ⟨[(.object "java/lang/String"), .long, (.object "com/example/halyard/halyard/model/Price")], none⟩ := by decide +kernel
theorem d3_0 : decode jdk_42_method_149_code 0 = .ok (.aload_n 0, 1) := by decide +kernel
theorem d3_1 : decode jdk_42_method_149_code 1 = .ok (.invokespecial 1, 3) := by decide +kernel
theorem d3_4 : decode jdk_42_method_149_code 4 = .ok (.iload_n 3, 1) := by decide +kernel
theorem d3_5 : decode jdk_42_method_149_code 5 = .ok (.ifCond .ne 22, 3) := by decide +kernel
theorem d3_8 : decode jdk_42_method_149_code 8 = .ok (.aload_n 0, 1) := by decide +kernel
theorem d3_9 : decode jdk_42_method_149_code 9 = .ok (.ldc 7, 2) := by decide +kernel
theorem d3_11 : decode jdk_42_method_149_code 11 = .ok (.getfield 9, 3) := by decide +kernel
theorem d3_14 : decode jdk_42_method_149_code 14 = .ok (.putfield 9, 3) := by decide +kernel
theorem d3_17 : decode jdk_42_method_149_code 17 = .ok (.aload_n 0, 1) := by decide +kernel
theorem d3_18 : decode jdk_42_method_149_code 18 = .ok (.ldc 7, 2) := by decide +kernel
theorem d3_20 : decode jdk_42_method_149_code 20 = .ok (.getfield 15, 3) := by decide +kernel
theorem d3_23 : decode jdk_42_method_149_code 23 = .ok (.putfield 15, 3) := by decide +kernel
theorem d3_26 : decode jdk_42_method_149_code 26 = .ok (.return_, 1) := by decide +kernel
theorem ef_sn4 (m : MethodId) (x0 : Addr) (x1 : Addr) (x2 : Int32) (x3 : Int32) : entryFrame m #[(.ref x0), (.ref x1), (.int x2), (.int x3), .null] 6 = mkF m 0 #[.val (.ref x0), .val (.ref x1), .val (.int x2), .val (.int x3), .val .null, .unset] [] := by first | (simp [entryFrame, mkF, argsToLocals, Value.category]; done) | rfl
def Q_sn4 (Z : State) (zC : Int32) (x : Addr) (b : Addr) (h0 : Heap) (n0 : Nat) (v : Option Value) (h : Heap) (L : List Loc) : Prop := ∃ (t : Addr), v = none ∧ Fr n0 L ∧ Keep h0 h [x] ∧ Str Z h x t ([] : List Int32)
set_option maxRecDepth 65536 in
set_option maxHeartbeats 40000000 in
theorem rm_sn4 (l : Launch) (Z : State) (a0 : Array Value) (hw : ∀ d ∈ tables_1, d.before a0 Z = true) (ws : List Jvm.Cond) (zC : Int32) (hG : Glob Z zC) (x : Addr) (b : Addr) (h0 : Heap) (n0 : Nat) (Z0 : n0 ≤ h0.size) (O0 : Old Z n0 h0) (P0 : Exa Z h0 x "java/lang/String") (P1 : Fld Z h0 x "java/lang/String" "value" "[B" .null) (P2 : Fld Z h0 x "java/lang/String" "coder" "B" (.int (0 : Int32))) (gx : n0 ≤ x) :
    MetFree l (⟨"java/lang/String", "<init>", "([CIILjava/lang/Void;)V"⟩ : MethodName) (head1 (Jvm.Cond.code (⟨"java/lang/String", "<init>", "([CIILjava/lang/Void;)V"⟩ : MethodName) jdk_42_method_149_code 6 none :: ws) ({ frames := 1, cells := 4, slots := 8, locals := 12 } : Room)) (fun a U => a = #[(.ref x), (.ref b), (.int (0 : Int32)), (.int (0 : Int32)), .null] ∧ Z.Warmed39 U.vm ∧ U.heap = h0 ∧ CHv Z consts_1 U.vm h0) (fun _ _ _ _ _ => True) (fun _ U o U' => ∃ v L, o = .returned v ∧ Q_sn4 Z zC x b h0 n0 v U'.heap L ∧ CHr Z consts_1 U.vm U.heap U'.vm U'.heap ∧ ReturnedEndW U o U' L ({ frames := 1, cells := 4, slots := 8, locals := 12 } : Room).cells ({ frames := 1, cells := 4, slots := 8, locals := 12 } : Room).slots) := by
  refine MetFree.of_bodySF (plainFor_of_name pn_0) hisR ?_
  intro p e s m args below meth c s₁ Bd hml0 hP hK
  obtain ⟨rfl, hZ, hh, C0⟩ := hP
  have hx := Bd.exec
  have hby := Bd.bytes
  have hml : c.maxLocals = 6 := hml0
  have hown : s.vm.findClass "java/lang/String" = some m.cls := findClass_of_methodNamed Bd.named
  have hnm := (name_of_methodNamed Bd.named Bd.method).1
  have hlk : meth.locks = false := BodyLoose.notSynchronized Bd
  have X0 : Stand p l e ({ frames := 1, cells := 4, slots := 8, locals := 12 } : Room) (s.setVm s.vm) m #[(.ref x), (.ref b), (.int (0 : Int32)), (.int (0 : Int32)), .null] below meth c s₁ [] 0 0 := Stand.of_body Bd
  have e0 : s₁.heap = h0 := by rw [← hh, Bd.state]; rfl
  have N0 := Fr.nil n0
  obtain ⟨G0, own_cs⟩ := id hG
  have hS : s.Since s.vm 0 := (State.WarmedH.refl s).since 0
  have hk : 0 ≤ h0.size := Nat.zero_le _
  have R0 : CHr Z consts_1 s.vm h0 s.vm h0 := CHr.refl C0
  show Go p e below (EndC Z consts_1 s (Q_sn4 Z zC x b h0 n0) ({ frames := 1, cells := 4, slots := 8, locals := 12 } : Room).cells ({ frames := 1, cells := 4, slots := 8, locals := 12 } : Room).slots) (s₁.setTop (entryFrame m #[(.ref x), (.ref b), (.int (0 : Int32)), (.int (0 : Int32)), .null] 6))
  rw [ef_sn4]
  generalize hP : EndC Z consts_1 s (Q_sn4 Z zC x b h0 n0) ({ frames := 1, cells := 4, slots := 8, locals := 12 } : Room).cells ({ frames := 1, cells := 4, slots := 8, locals := 12 } : Room).slots = P
  have Sf0_x := own_blank (EL := consts_1) hZ.alike P0 P1
  show Go p e below P (s₁.setTop (mkF m 0 #[.val (.ref x), .val (.ref b), .val (.int (0 : Int32)), .val (.int (0 : Int32)), .val .null, .unset] []))
  refine Go.by (fun _ => XS.aloadN X0.here hx rfl (hb hby d3_0) rfl rfl) ?_
  show Go p e below P (s₁.setTop (mkF m 1 #[.val (.ref x), .val (.ref b), .val (.int (0 : Int32)), .val (.int (0 : Int32)), .val .null, .unset] [(.ref x)]))
  obtain ⟨T1, X1, e1, st1⟩ := initO X0 hx hZ hown (hw _ (List.mem_of_getElem? (i := 16) rfl)) (hw _ (List.mem_of_getElem? (i := 17) rfl)) (hw _ (List.mem_of_getElem? (i := 18) rfl)) e0 (g := (mkF m 1 #[.val (.ref x), .val (.ref b), .val (.int (0 : Int32)), .val (.int (0 : Int32)), .val .null, .unset] [(.ref x)])) rfl (by rw [hml]; rfl) rfl (hb hby d3_1) (Nat.le_of_ble_eq_true rfl) (W := 0) (by show 2 * 0 + _ ≤ _; exact Nat.le_of_eq rfl) (Nat.le_of_ble_eq_true rfl)
  refine Go.by (fun _ => st1 _) ?_
  show Go p e below P (T1.setTop (mkF m 4 #[.val (.ref x), .val (.ref b), .val (.int (0 : Int32)), .val (.int (0 : Int32)), .val .null, .unset] []))
  refine Go.by (fun _ => XS.iloadN X1.here hx rfl (hb hby d3_4) rfl) ?_
  show Go p e below P (T1.setTop (mkF m 5 #[.val (.ref x), .val (.ref b), .val (.int (0 : Int32)), .val (.int (0 : Int32)), .val .null, .unset] [(.int (0 : Int32))]))
  have hc5 : (0 : Int32) = (0 : Int32) := by decide
  refine Go.by (fun _ => XS.ifNo X1.here hx rfl (hb hby d3_5) rfl ((if0 _ _).trans (teq hc5).2)) ?_
  show Go p e below P (T1.setTop (mkF m 8 #[.val (.ref x), .val (.ref b), .val (.int (0 : Int32)), .val (.int (0 : Int32)), .val .null, .unset] []))
  refine Go.by (fun _ => XS.aloadN X1.here hx rfl (hb hby d3_8) rfl rfl) ?_
  show Go p e below P (T1.setTop (mkF m 9 #[.val (.ref x), .val (.ref b), .val (.int (0 : Int32)), .val (.int (0 : Int32)), .val .null, .unset] [(.ref x)]))
  have hZo := hZ
  obtain ⟨ls2, T2, h2, k2, lb2, kk2, X2, e2, E2, hS, hk, hZ, hown, FE2, FC2, FV2, FA2, -, -, Cr2, Li2, Sn2, st2⟩ := ldcCH X1 hx hZ hown (hw _ (List.mem_of_getElem? (i := 89) rfl)) (own_wS hw) e1 hS hk (own_EW hw) (List.mem_of_getElem? (i := 0) rfl) C0 (vs := []) (z := (0 : Int32)) ⟨by decide, rfl⟩ (by decide) rfl (g := (mkF m 9 #[.val (.ref x), .val (.ref b), .val (.int (0 : Int32)), .val (.int (0 : Int32)), .val .null, .unset] [(.ref x)])) rfl (hb hby d3_9) (n := 0) (Nat.le_of_ble_eq_true rfl) (Nat.le_of_ble_eq_true rfl) (Nat.le_of_ble_eq_true rfl) (Nat.le_of_ble_eq_true rfl)
  refine Go.by (fun _ => st2 _) ?_
  have Sf2_x := Cr2.safe P0.lt Sf0_x
  have R2 := R0.trans Cr2
  have C2 := Cr2.1
  have ne_x_ls2 := (Sn2 _ Sf2_x).1
  have ne_x_lb2 := (Sn2 _ Sf2_x).2
  have F3 : Exa Z h2 x "java/lang/String" := P0.ext E2
  have F4 : Fld Z h2 x "java/lang/String" "value" "[B" .null := P1.ext E2
  have F5 : Fld Z h2 x "java/lang/String" "coder" "B" (.int (0 : Int32)) := P2.ext E2
  have O2 := O0.ext E2
  have Z2 : n0 ≤ h2.size := Nat.le_trans Z0 E2.1
  have K2 : Keep h0 h2 [x] := (Keep.refl h0 [x]).ext E2
  have F6 : Str Z h2 ls2 lb2 ([] : List Int32) := Str.mk FE2 FV2 FC2 FA2 (Or.inl ⟨rfl, rfl, rfl, by decide⟩) (by decide) (Nat.le_of_ble_eq_true rfl)
  show Go p e below P (T2.setTop (mkF m 11 #[.val (.ref x), .val (.ref b), .val (.int (0 : Int32)), .val (.int (0 : Int32)), .val .null, .unset] [(.ref ls2), (.ref x)]))
  obtain ⟨kb7, N7_, vs7, FE7, FV7, FC7, FA7, hcd7, hbd7, hl7⟩ := id F6
  obtain ⟨T8, X8, e8, st8⟩ := getF X2 hx hZ hown (host := "") (Or.inl (hw _ (List.mem_of_getElem? (i := 33) rfl))) Via.refl e2 FV7 (g := (mkF m 11 #[.val (.ref x), .val (.ref b), .val (.int (0 : Int32)), .val (.int (0 : Int32)), .val .null, .unset] [(.ref ls2), (.ref x)])) rfl rfl (hb hby d3_11)
  refine Go.by (fun _ => st8 _) ?_
  show Go p e below P (T8.setTop (mkF m 14 #[.val (.ref x), .val (.ref b), .val (.int (0 : Int32)), .val (.int (0 : Int32)), .val .null, .unset] [(.ref lb2), (.ref x)]))
  obtain ⟨T9, h9, X9, e9, W9, st9⟩ := putF X8 hx hZ hown (host := "") (Or.inl (hw _ (List.mem_of_getElem? (i := 33) rfl))) Via.refl e8 F4 F3 (Or.inr ⟨(hw _ (List.mem_of_getElem? (i := 34) rfl)), rfl, hnm⟩) (hw _ (List.mem_of_getElem? (i := 6) rfl)) (ty := (.array .byte)) (by decide) rfl rfl (g := (mkF m 14 #[.val (.ref x), .val (.ref b), .val (.int (0 : Int32)), .val (.int (0 : Int32)), .val .null, .unset] [(.ref lb2), (.ref x)])) rfl rfl (hb hby d3_14)
  refine Go.by (fun _ => st9 _) ?_
  have F10 : Exa Z h9 x "java/lang/String" := F3.wr W9
  have F11 : Fld Z h9 x "java/lang/String" "coder" "B" (.int (0 : Int32)) := F5.other W9 (Or.inr (slot_ne (Or.inr (hw _ (List.mem_of_getElem? (i := 32) rfl))) (Or.inr (hw _ (List.mem_of_getElem? (i := 34) rfl))) (by decide) (t := .byte) (t' := (.array .byte)) (by decide) (by decide)))
  have F12 : Str Z h9 ls2 lb2 ([] : List Int32) := F6.wr W9 (Ne.symm ne_x_ls2) (Ne.symm ne_x_lb2)
  have F13 : Exa Z h9 ls2 "java/lang/String" := FE7.wr W9
  have F14 : Fld Z h9 ls2 "java/lang/String" "value" "[B" (.ref lb2) := FV7.other W9 (Or.inl (Ne.symm ne_x_ls2))
  have F15 : Fld Z h9 ls2 "java/lang/String" "coder" "B" (.int (0 : Int32)) := FC7.other W9 (Or.inl (Ne.symm ne_x_ls2))
  have F16 : Arv Z h9 lb2 kb7 .byte N7_ vs7 (.int (0 : Int32)) := FA7.other W9 (Ne.symm ne_x_lb2)
  have Sw9 := Sf2_x
  have Sf9_x := Safe.wr W9 Sw9 C2 Sf2_x
  have R9 := R2.trans (CHr.wr W9 Sw9 C2)
  have C9 := CHv.wr W9 Sw9 C2
  have hk := Nat.le_trans hk (Keep.of_wr W9).1
  have O9 := O2.wr W9 gx
  have Z9 : n0 ≤ h9.size := Nat.le_trans Z2 (Keep.of_wr W9).1
  have K9 : Keep h0 h9 [x] := K2.wr W9 (Or.inl (List.mem_of_getElem? (i := 0) rfl))
  have F17 : Fld Z h9 x "java/lang/String" "value" "[B" (.ref lb2) := F4.same W9
  have N9 := Fr.snoc X9 N0 gx
  show Go p e below P (T9.setTop (mkF m 17 #[.val (.ref x), .val (.ref b), .val (.int (0 : Int32)), .val (.int (0 : Int32)), .val .null, .unset] []))
  refine Go.by (fun _ => XS.aloadN X9.here hx rfl (hb hby d3_17) rfl rfl) ?_
  show Go p e below P (T9.setTop (mkF m 18 #[.val (.ref x), .val (.ref b), .val (.int (0 : Int32)), .val (.int (0 : Int32)), .val .null, .unset] [(.ref x)]))
  have hZo := hZ
  obtain ⟨ls18, T18, h18, k18, lb18, kk18, X18, e18, E18, hS, hk, hZ, hown, FE18, FC18, FV18, FA18, -, -, Cr18, Li18, Sn18, st18⟩ := ldcCH X9 hx hZ hown (hw _ (List.mem_of_getElem? (i := 89) rfl)) (own_wS hw) e9 hS hk (own_EW hw) (List.mem_of_getElem? (i := 0) rfl) C9 (vs := []) (z := (0 : Int32)) ⟨by decide, rfl⟩ (by decide) rfl (g := (mkF m 18 #[.val (.ref x), .val (.ref b), .val (.int (0 : Int32)), .val (.int (0 : Int32)), .val .null, .unset] [(.ref x)])) rfl (hb hby d3_18) (n := 0) (Nat.le_of_ble_eq_true rfl) (Nat.le_of_ble_eq_true rfl) (Nat.le_of_ble_eq_true rfl) (Nat.le_of_ble_eq_true rfl)
  refine Go.by (fun _ => st18 _) ?_
  have Sf18_x := Cr18.safe F10.lt Sf9_x
  have R18 := R9.trans Cr18
  have C18 := Cr18.1
  have ne_x_ls18 := (Sn18 _ Sf18_x).1
  have ne_x_lb18 := (Sn18 _ Sf18_x).2
  have F19 : Exa Z h18 x "java/lang/String" := F10.ext E18
  have F20 : Fld Z h18 x "java/lang/String" "coder" "B" (.int (0 : Int32)) := F11.ext E18
  have F21 : Str Z h18 ls2 lb2 ([] : List Int32) := F12.ext E18
  have F22 : Exa Z h18 ls2 "java/lang/String" := F13.ext E18
  have F23 : Fld Z h18 ls2 "java/lang/String" "value" "[B" (.ref lb2) := F14.ext E18
  have F24 : Fld Z h18 ls2 "java/lang/String" "coder" "B" (.int (0 : Int32)) := F15.ext E18
  have F25 : Arv Z h18 lb2 kb7 .byte N7_ vs7 (.int (0 : Int32)) := F16.ext E18
  have F26 : Fld Z h18 x "java/lang/String" "value" "[B" (.ref lb2) := F17.ext E18
  have O18 := O9.ext E18
  have Z18 : n0 ≤ h18.size := Nat.le_trans Z9 E18.1
  have K18 : Keep h0 h18 [x] := K9.ext E18
  have F27 : Str Z h18 ls18 lb18 ([] : List Int32) := Str.mk FE18 FV18 FC18 FA18 (Or.inl ⟨rfl, rfl, rfl, by decide⟩) (by decide) (Nat.le_of_ble_eq_true rfl)
  show Go p e below P (T18.setTop (mkF m 20 #[.val (.ref x), .val (.ref b), .val (.int (0 : Int32)), .val (.int (0 : Int32)), .val .null, .unset] [(.ref ls18), (.ref x)]))
  obtain ⟨kb28, N28_, vs28, FE28, FV28, FC28, FA28, hcd28, hbd28, hl28⟩ := id F27
  obtain ⟨T29, X29, e29, st29⟩ := getF X18 hx hZ hown (host := "") (Or.inl (hw _ (List.mem_of_getElem? (i := 31) rfl))) Via.refl e18 FC28 (g := (mkF m 20 #[.val (.ref x), .val (.ref b), .val (.int (0 : Int32)), .val (.int (0 : Int32)), .val .null, .unset] [(.ref ls18), (.ref x)])) rfl rfl (hb hby d3_20)
  refine Go.by (fun _ => st29 _) ?_
  show Go p e below P (T29.setTop (mkF m 23 #[.val (.ref x), .val (.ref b), .val (.int (0 : Int32)), .val (.int (0 : Int32)), .val .null, .unset] [(.int (0 : Int32)), (.ref x)]))
  obtain ⟨T30, h30, X30, e30, W30, st30⟩ := putFN X29 hx hZ hown (hw _ (List.mem_of_getElem? (i := 31) rfl)) Via.refl e29 F20 F19 (Or.inr ⟨(hw _ (List.mem_of_getElem? (i := 32) rfl)), rfl, hnm⟩) (hw _ (List.mem_of_getElem? (i := 6) rfl)) (ty := .byte) (v' := .int (0 : Int32)) (by decide) rfl (by decide) (g := (mkF m 23 #[.val (.ref x), .val (.ref b), .val (.int (0 : Int32)), .val (.int (0 : Int32)), .val .null, .unset] [(.int (0 : Int32)), (.ref x)])) rfl rfl (hb hby d3_23)
  refine Go.by (fun _ => st30 _) ?_
  have F31 : Exa Z h30 x "java/lang/String" := F19.wr W30
  have F32 : Str Z h30 ls2 lb2 ([] : List Int32) := F21.wr W30 (Ne.symm ne_x_ls2) (Ne.symm ne_x_lb2)
  have F33 : Exa Z h30 ls2 "java/lang/String" := F22.wr W30
  have F34 : Fld Z h30 ls2 "java/lang/String" "value" "[B" (.ref lb2) := F23.other W30 (Or.inl (Ne.symm ne_x_ls2))
  have F35 : Fld Z h30 ls2 "java/lang/String" "coder" "B" (.int (0 : Int32)) := F24.other W30 (Or.inl (Ne.symm ne_x_ls2))
  have F36 : Arv Z h30 lb2 kb7 .byte N7_ vs7 (.int (0 : Int32)) := F25.other W30 (Ne.symm ne_x_lb2)
  have F37 : Fld Z h30 x "java/lang/String" "value" "[B" (.ref lb2) := F26.other W30 (Or.inr (slot_ne (Or.inr (hw _ (List.mem_of_getElem? (i := 34) rfl))) (Or.inr (hw _ (List.mem_of_getElem? (i := 32) rfl))) (by decide) (t := (.array .byte)) (t' := .byte) (by decide) (by decide)))
  have F38 : Str Z h30 ls18 lb18 ([] : List Int32) := F27.wr W30 (Ne.symm ne_x_ls18) (Ne.symm ne_x_lb18)
  have F39 : Exa Z h30 ls18 "java/lang/String" := FE28.wr W30
  have F40 : Fld Z h30 ls18 "java/lang/String" "value" "[B" (.ref lb18) := FV28.other W30 (Or.inl (Ne.symm ne_x_ls18))
  have F41 : Fld Z h30 ls18 "java/lang/String" "coder" "B" (.int (0 : Int32)) := FC28.other W30 (Or.inl (Ne.symm ne_x_ls18))
  have F42 : Arv Z h30 lb18 kb28 .byte N28_ vs28 (.int (0 : Int32)) := FA28.other W30 (Ne.symm ne_x_lb18)
  have Sw30 := Sf18_x
  have Sf30_x := Safe.wr W30 Sw30 C18 Sf18_x
  have R30 := R18.trans (CHr.wr W30 Sw30 C18)
  have C30 := CHv.wr W30 Sw30 C18
  have hk := Nat.le_trans hk (Keep.of_wr W30).1
  have O30 := O18.wr W30 gx
  have Z30 : n0 ≤ h30.size := Nat.le_trans Z18 (Keep.of_wr W30).1
  have K30 : Keep h0 h30 [x] := K18.wr W30 (Or.inl (List.mem_of_getElem? (i := 0) rfl))
  have F43 : Fld Z h30 x "java/lang/String" "coder" "B" (.int (0 : Int32)) := F20.same W30
  have N30 := Fr.snoc X30 N9 gx
  show Go p e below P (T30.setTop (mkF m 26 #[.val (.ref x), .val (.ref b), .val (.int (0 : Int32)), .val (.int (0 : Int32)), .val .null, .unset] []))
  have F44 : Str Z h30 x lb2 ([] : List Int32) := Str.mk F31 F37 F43 F36 hcd7 hbd7 hl7
  subst hP
  refine Go.retVC X30 hx hS (by rw [e30]; exact hk) Bd.returns hlk (hb hby d3_26) (Nat.le_of_ble_eq_true rfl) (Nat.le_of_ble_eq_true rfl) ?_ (by rw [hh, e30]; exact R30.trans (CHv.at X30 hZ (own_EW hw) C30))
  rw [e30]
  exact ⟨lb2, rfl, N30, K30, F44⟩
theorem d2_0 : decode jdk_42_method_3_code 0 = .ok (.aload_n 0, 1) := by decide +kernel
theorem d2_1 : decode jdk_42_method_3_code 1 = .ok (.aload_n 1, 1) := by decide +kernel
theorem d2_2 : decode jdk_42_method_3_code 2 = .ok (.iconst 0, 1) := by decide +kernel
theorem d2_3 : decode jdk_42_method_3_code 3 = .ok (.aload_n 1, 1) := by decide +kernel
theorem d2_4 : decode jdk_42_method_3_code 4 = .ok (.arraylength, 1) := by decide +kernel
theorem d2_5 : decode jdk_42_method_3_code 5 = .ok (.aconst_null, 1) := by decide +kernel
theorem d2_6 : decode jdk_42_method_3_code 6 = .ok (.invokespecial 27, 3) := by decide +kernel
theorem d2_9 : decode jdk_42_method_3_code 9 = .ok (.return_, 1) := by decide +kernel
theorem ef_sn1 (m : MethodId) (x0 : Addr) (x1 : Addr) : entryFrame m #[(.ref x0), (.ref x1)] 2 = mkF m 0 #[.val (.ref x0), .val (.ref x1)] [] := by first | (simp [entryFrame, mkF, argsToLocals, Value.category]; done) | rfl
def Q_sn1 (Z : State) (zC : Int32) (x : Addr) (b : Addr) (kC : ClassId) (h0 : Heap) (n0 : Nat) (v : Option Value) (h : Heap) (L : List Loc) : Prop := ∃ (t : Addr), v = none ∧ Fr n0 L ∧ Keep h0 h [x] ∧ Str Z h x t ([] : List Int32)
set_option maxRecDepth 65536 in
set_option maxHeartbeats 40000000 in
theorem rm_sn1 (l : Launch) (Z : State) (a0 : Array Value) (hw : ∀ d ∈ tables_1, d.before a0 Z = true) (ws : List Jvm.Cond) (zC : Int32) (hG : Glob Z zC) (x : Addr) (b : Addr) (kC : ClassId) (h0 : Heap) (n0 : Nat) (Z0 : n0 ≤ h0.size) (O0 : Old Z n0 h0) (P0 : Exa Z h0 x "java/lang/String") (P1 : Fld Z h0 x "java/lang/String" "value" "[B" .null) (P2 : Fld Z h0 x "java/lang/String" "coder" "B" (.int (0 : Int32))) (P3 : Arv Z h0 b kC .char (0 : Int32) [] (.int (0 : Int32))) (gx : n0 ≤ x) (hxb : x ≠ b) :
    MetFree l (⟨"java/lang/String", "<init>", "([C)V"⟩ : MethodName) (head1 (Jvm.Cond.code (⟨"java/lang/String", "<init>", "([C)V"⟩ : MethodName) jdk_42_method_3_code 2 none :: ws) ({ frames := 2, cells := 4, slots := 8, locals := 29 } : Room)) (fun a U => a = #[(.ref x), (.ref b)] ∧ Z.Warmed39 U.vm ∧ U.heap = h0 ∧ CHv Z consts_1 U.vm h0) (fun _ _ _ _ _ => True) (fun _ U o U' => ∃ v L, o = .returned v ∧ Q_sn1 Z zC x b kC h0 n0 v U'.heap L ∧ CHr Z consts_1 U.vm U.heap U'.vm U'.heap ∧ ReturnedEndW U o U' L ({ frames := 2, cells := 4, slots := 8, locals := 29 } : Room).cells ({ frames := 2, cells := 4, slots := 8, locals := 29 } : Room).slots) := by
  refine MetFree.of_bodySF (plainFor_of_name pn_0) hisR ?_
  intro p e s m args below meth c s₁ Bd hml0 hP hK
  obtain ⟨rfl, hZ, hh, C0⟩ := hP
  have hx := Bd.exec
  have hby := Bd.bytes
  have hml : c.maxLocals = 2 := hml0
  have hown : s.vm.findClass "java/lang/String" = some m.cls := findClass_of_methodNamed Bd.named
  have hnm := (name_of_methodNamed Bd.named Bd.method).1
  have hlk : meth.locks = false := BodyLoose.notSynchronized Bd
  have X0 : Stand p l e ({ frames := 2, cells := 4, slots := 8, locals := 29 } : Room) (s.setVm s.vm) m #[(.ref x), (.ref b)] below meth c s₁ [] 0 0 := Stand.of_body Bd
  have e0 : s₁.heap = h0 := by rw [← hh, Bd.state]; rfl
  have N0 := Fr.nil n0
  obtain ⟨G0, own_cs⟩ := id hG
  have hS : s.Since s.vm 0 := (State.WarmedH.refl s).since 0
  have hk : 0 ≤ h0.size := Nat.zero_le _
  have R0 : CHr Z consts_1 s.vm h0 s.vm h0 := CHr.refl C0
  show Go p e below (EndC Z consts_1 s (Q_sn1 Z zC x b kC h0 n0) ({ frames := 2, cells := 4, slots := 8, locals := 29 } : Room).cells ({ frames := 2, cells := 4, slots := 8, locals := 29 } : Room).slots) (s₁.setTop (entryFrame m #[(.ref x), (.ref b)] 2))
  rw [ef_sn1]
  generalize hP : EndC Z consts_1 s (Q_sn1 Z zC x b kC h0 n0) ({ frames := 2, cells := 4, slots := 8, locals := 29 } : Room).cells ({ frames := 2, cells := 4, slots := 8, locals := 29 } : Room).slots = P
  show Go p e below P (s₁.setTop (mkF m 0 #[.val (.ref x), .val (.ref b)] []))
  refine Go.by (fun _ => XS.aloadN X0.here hx rfl (hb hby d2_0) rfl rfl) ?_
  show Go p e below P (s₁.setTop (mkF m 1 #[.val (.ref x), .val (.ref b)] [(.ref x)]))
  refine Go.by (fun _ => XS.aloadN X0.here hx rfl (hb hby d2_1) rfl rfl) ?_
  show Go p e below P (s₁.setTop (mkF m 2 #[.val (.ref x), .val (.ref b)] [(.ref b), (.ref x)]))
  refine Go.by (fun _ => XS.iconst X0.here hx rfl (hb hby d2_2)) ?_
  show Go p e below P (s₁.setTop (mkF m 3 #[.val (.ref x), .val (.ref b)] [(.int (0 : Int32)), (.ref b), (.ref x)]))
  refine Go.by (fun _ => XS.aloadN X0.here hx rfl (hb hby d2_3) rfl rfl) ?_
  show Go p e below P (s₁.setTop (mkF m 4 #[.val (.ref x), .val (.ref b)] [(.ref b), (.int (0 : Int32)), (.ref b), (.ref x)]))
  obtain ⟨cl1, Ar1, -, Sz1, Ng1, -, -⟩ := id (P3)
  refine Go.by (fun _ => X0.arraylength hx (by rw [e0]; exact Ar1.1) (State.isArrayOf_alike hZ.alike Ar1.2.1) (g := (mkF m 4 #[.val (.ref x), .val (.ref b)] [(.ref b), (.int (0 : Int32)), (.ref b), (.ref x)])) rfl rfl (hb hby d2_4) _) ?_
  rw [len_of Sz1 Ng1]
  show Go p e below P (s₁.setTop (mkF m 5 #[.val (.ref x), .val (.ref b)] [(.int (0 : Int32)), (.int (0 : Int32)), (.ref b), (.ref x)]))
  refine Go.by (fun _ => XS.aconstNull X0.here hx rfl (hb hby d2_5)) ?_
  show Go p e below P (s₁.setTop (mkF m 6 #[.val (.ref x), .val (.ref b)] [.null, (.int (0 : Int32)), (.int (0 : Int32)), (.ref b), (.ref x)]))
  obtain ⟨_, _, ⟨T2, L2, k2, n2⟩, -, X2, hSc2, hgr2, ⟨Lc2, hQ2, l2, y2, z2, Cr2⟩, st2⟩ := X0.specialBackS hx (y := (⟨"java/lang/String", "<init>", "([CIILjava/lang/Void;)V"⟩ : MethodName)) rfl hown (mvT hZ (hw _ (List.mem_of_getElem? (i := 12) rfl))) (mvT hZ (hw _ (List.mem_of_getElem? (i := 13) rfl))) (mvT hZ (hw _ (List.mem_of_getElem? (i := 15) rfl))) (by decide) (backOfSH (W := 0) (rm_sn4 l Z a0 hw [] zC hG x b h0 n0 Z0 O0 P0 P1 P2 gx) hZ (hw _ (List.mem_of_getElem? (i := 15) rfl)) (hw _ (List.mem_of_getElem? (i := 7) rfl)) (Nat.le_of_ble_eq_true rfl) (Nat.le_of_ble_eq_true rfl) (own_EW hw) C0) (g := (mkF m 6 #[.val (.ref x), .val (.ref b)] [.null, (.int (0 : Int32)), (.int (0 : Int32)), (.ref b), (.ref x)])) rfl (by rw [hml]; rfl) (Steps.refl _) (a := x) (argsL := [(.ref b), (.int (0 : Int32)), (.int (0 : Int32)), .null]) (rest := []) (lenOf pd_0 rfl) rfl (by show 2 * 0 + _ ≤ _; exact Nat.le_of_eq rfl) (hb hby d2_6) (fun _ _ => ⟨rfl, e0, (Nat.le_of_ble_eq_true rfl : 0 + 4 ≤ _), (Nat.le_of_ble_eq_true rfl : 0 + 8 ≤ _)⟩)
  dsimp only [Pt.U, Pt.locs, Pt.cells, Pt.slots] at X2 l2 y2 z2 st2 hQ2 hSc2 hgr2 Cr2
  subst l2 y2 z2
  have hZo := hZ
  obtain ⟨X2, hS, hZ, hown⟩ := rebS hS (by rw [e0]; exact hk) X2 hSc2 hgr2 hZ hown
  have hk : T2.heap.size ≤ T2.heap.size := Nat.le_refl _
  have Sf2_x := Cr2.safe P0.lt (own_blank (EL := consts_1) hZo.alike P0 P1)
  have R2 := R0.trans Cr2
  have C2 := Cr2.1
  obtain ⟨t_2, rfl, Nq2, Kc2, F3⟩ := hQ2
  have N2 := Fr.app N0 Nq2
  refine Go.by (fun _ k => st2.trans k) ?_
  have F4 : Exa Z T2.heap x "java/lang/String" := P0.keep Kc2
  have F5 : Arv Z T2.heap b kC .char (0 : Int32) [] (.int (0 : Int32)) := P3.keep Kc2 (ninS (Ne.symm hxb) nin0)
  have O2 := O0.keep Kc2 (allS gx all0)
  have Z2 : n0 ≤ T2.heap.size := Nat.le_trans Z0 Kc2.1
  have K2 : Keep h0 T2.heap [x] := (Keep.refl h0 [x]).trans Kc2 (allS (P := fun zz => zz ∈ [x] ∨ h0.size ≤ zz) (Or.inl (List.mem_of_getElem? (i := 0) rfl)) all0)
  show Go p e below P (T2.setTop (mkF m 9 #[.val (.ref x), .val (.ref b)] []))
  subst hP
  refine Go.retVC X2 hx hS hk Bd.returns hlk (hb hby d2_9) (Nat.le_of_ble_eq_true rfl) (Nat.le_of_ble_eq_true rfl) ?_ (by rw [hh]; exact R2.trans (CHv.at X2 hZ (own_EW hw) C2))
  exact ⟨t_2, rfl, N2, K2, F3⟩
theorem d1_0 : decode method_2_code 0 = .ok (.iload_n 0, 1) := by decide +kernel
theorem d1_1 : decode method_2_code 1 = .ok (.ifCond .ne 14, 3) := by decide +kernel
theorem d1_4 : decode method_2_code 4 = .ok (.new 7, 3) := by decide +kernel
theorem d1_7 : decode method_2_code 7 = .ok (.dup, 1) := by decide +kernel
theorem d1_8 : decode method_2_code 8 = .ok (.iconst 0, 1) := by decide +kernel
theorem d1_9 : decode method_2_code 9 = .ok (.newarray .char, 2) := by decide +kernel
theorem d1_11 : decode method_2_code 11 = .ok (.invokespecial 9, 3) := by decide +kernel
theorem d1_14 : decode method_2_code 14 = .ok (.areturn, 1) := by decide +kernel
theorem d1_15 : decode method_2_code 15 = .ok (.iload_n 0, 1) := by decide +kernel
theorem d1_16 : decode method_2_code 16 = .ok (.iconst 1, 1) := by decide +kernel
theorem d1_17 : decode method_2_code 17 = .ok (.if_icmp .ne 18, 3) := by decide +kernel
theorem d1_20 : decode method_2_code 20 = .ok (.new 7, 3) := by decide +kernel
theorem d1_23 : decode method_2_code 23 = .ok (.dup, 1) := by decide +kernel
theorem d1_24 : decode method_2_code 24 = .ok (.iconst 1, 1) := by decide +kernel
theorem d1_25 : decode method_2_code 25 = .ok (.newarray .char, 2) := by decide +kernel
theorem d1_27 : decode method_2_code 27 = .ok (.dup, 1) := by decide +kernel
theorem d1_28 : decode method_2_code 28 = .ok (.iconst 0, 1) := by decide +kernel
theorem d1_29 : decode method_2_code 29 = .ok (.iload_n 1, 1) := by decide +kernel
theorem d1_30 : decode method_2_code 30 = .ok (.castore, 1) := by decide +kernel
theorem d1_31 : decode method_2_code 31 = .ok (.invokespecial 9, 3) := by decide +kernel
theorem d1_34 : decode method_2_code 34 = .ok (.areturn, 1) := by decide +kernel
theorem d1_35 : decode method_2_code 35 = .ok (.new 7, 3) := by decide +kernel
theorem d1_38 : decode method_2_code 38 = .ok (.dup, 1) := by decide +kernel
theorem d1_39 : decode method_2_code 39 = .ok (.iconst 2, 1) := by decide +kernel
theorem d1_40 : decode method_2_code 40 = .ok (.newarray .char, 2) := by decide +kernel
theorem d1_42 : decode method_2_code 42 = .ok (.dup, 1) := by decide +kernel
theorem d1_43 : decode method_2_code 43 = .ok (.iconst 0, 1) := by decide +kernel
theorem d1_44 : decode method_2_code 44 = .ok (.iload_n 1, 1) := by decide +kernel
theorem d1_45 : decode method_2_code 45 = .ok (.castore, 1) := by decide +kernel
theorem d1_46 : decode method_2_code 46 = .ok (.dup, 1) := by decide +kernel
theorem d1_47 : decode method_2_code 47 = .ok (.iconst 1, 1) := by decide +kernel
theorem d1_48 : decode method_2_code 48 = .ok (.iload_n 2, 1) := by decide +kernel
theorem d1_49 : decode method_2_code 49 = .ok (.castore, 1) := by decide +kernel
theorem d1_50 : decode method_2_code 50 = .ok (.invokespecial 9, 3) := by decide +kernel
theorem d1_53 : decode method_2_code 53 = .ok (.areturn, 1) := by decide +kernel
theorem ef_mk (m : MethodId) (x0 : Int32) (x1 : Int32) (x2 : Int32) : entryFrame m #[(.int x0), (.int x1), (.int x2)] 3 = mkF m 0 #[.val (.int x0), .val (.int x1), .val (.int x2)] [] := by first | (simp [entryFrame, mkF, argsToLocals, Value.category]; done) | rfl
def Q_mk (Z : State) (zC : Int32) (p0 : Int32) (p1 : Int32) (p2 : Int32) (h0 : Heap) (n0 : Nat) (v : Option Value) (h : Heap) (L : List Loc) : Prop := ∃ (r : Addr), ∃ (t : Addr), v = some (.ref r) ∧ Fr n0 L ∧ Keep h0 h [] ∧ Str Z h r t (mkL p0 p1 p2)
set_option maxRecDepth 65536 in
set_option maxHeartbeats 40000000 in
theorem rm_mk (l : Launch) (Z : State) (a0 : Array Value) (hw : ∀ d ∈ tables_1, d.before a0 Z = true) (ws : List Jvm.Cond) (zC : Int32) (hG : Glob Z zC) (p0 : Int32) (p1 : Int32) (p2 : Int32) (h0 : Heap) (n0 : Nat) (Z0 : n0 ≤ h0.size) (O0 : Old Z n0 h0) (h1 : ¬ p1 < 0 ∧ ¬ (255 : Int32) < p1) (h2 : ¬ p2 < 0 ∧ ¬ (255 : Int32) < p2) :
    MetFree l (⟨"com/example/halyard/halyard/model/ReplaceOrderRenamesPinLaw", "mk", "(ICC)Ljava/lang/String;"⟩ : MethodName) (head1 (Jvm.Cond.code (⟨"com/example/halyard/halyard/model/ReplaceOrderRenamesPinLaw", "mk", "(ICC)Ljava/lang/String;"⟩ : MethodName) method_2_code 3 (some (.object "java/lang/String")) :: ws) ({ frames := 4, cells := 6, slots := 12, locals := 66 } : Room)) (fun a U => a = #[(.int p0), (.int p1), (.int p2)] ∧ Z.Warmed39 U.vm ∧ U.heap = h0 ∧ CHv Z consts_1 U.vm h0) (fun _ _ _ _ _ => True) (fun _ U o U' => ∃ v L, o = .returned v ∧ Q_mk Z zC p0 p1 p2 h0 n0 v U'.heap L ∧ CHr Z consts_1 U.vm U.heap U'.vm U'.heap ∧ ReturnedEndW U o U' L ({ frames := 4, cells := 6, slots := 12, locals := 66 } : Room).cells ({ frames := 4, cells := 6, slots := 12, locals := 66 } : Room).slots) := by
  refine MetFree.of_bodySF (plainFor_of_name pn_1) hisR ?_
  intro p e s m args below meth c s₁ Bd hml0 hP hK
  obtain ⟨rfl, hZ, hh, C0⟩ := hP
  have hx := Bd.exec
  have hby := Bd.bytes
  have hml : c.maxLocals = 3 := hml0
  have hown : s.vm.findClass "com/example/halyard/halyard/model/ReplaceOrderRenamesPinLaw" = some m.cls := findClass_of_methodNamed Bd.named
  have hnm := (name_of_methodNamed Bd.named Bd.method).1
  have hlk : meth.locks = false := BodyLoose.notSynchronized Bd
  have X0 : Stand p l e ({ frames := 4, cells := 6, slots := 12, locals := 66 } : Room) (s.setVm s.vm) m #[(.int p0), (.int p1), (.int p2)] below meth c s₁ [] 0 0 := Stand.of_body Bd
  have e0 : s₁.heap = h0 := by rw [← hh, Bd.state]; rfl
  have N0 := Fr.nil n0
  obtain ⟨G0, own_cs⟩ := id hG
  have hS : s.Since s.vm 0 := (State.WarmedH.refl s).since 0
  have hk : 0 ≤ h0.size := Nat.zero_le _
  have R0 : CHr Z consts_1 s.vm h0 s.vm h0 := CHr.refl C0
  show Go p e below (EndC Z consts_1 s (Q_mk Z zC p0 p1 p2 h0 n0) ({ frames := 4, cells := 6, slots := 12, locals := 66 } : Room).cells ({ frames := 4, cells := 6, slots := 12, locals := 66 } : Room).slots) (s₁.setTop (entryFrame m #[(.int p0), (.int p1), (.int p2)] 3))
  rw [ef_mk]
  generalize hP : EndC Z consts_1 s (Q_mk Z zC p0 p1 p2 h0 n0) ({ frames := 4, cells := 6, slots := 12, locals := 66 } : Room).cells ({ frames := 4, cells := 6, slots := 12, locals := 66 } : Room).slots = P
  show Go p e below P (s₁.setTop (mkF m 0 #[.val (.int p0), .val (.int p1), .val (.int p2)] []))
  refine Go.by (fun _ => XS.iloadN X0.here hx rfl (hb hby d1_0) rfl) ?_
  show Go p e below P (s₁.setTop (mkF m 1 #[.val (.int p0), .val (.int p1), .val (.int p2)] [(.int p0)]))
  by_cases hc1 : p0 = (0 : Int32)
  · refine Go.by (fun _ => XS.ifNo X0.here hx rfl (hb hby d1_1) rfl ((if0 _ _).trans (teq hc1).2)) ?_
    show Go p e below P (s₁.setTop (mkF m 4 #[.val (.int p0), .val (.int p1), .val (.int p2)] []))
    obtain ⟨T1, h1, X1, e1, E1, A1, D1, -, st1⟩ := newO X0 hx hZ hown (hw _ (List.mem_of_getElem? (i := 5) rfl)) (hw _ (List.mem_of_getElem? (i := 6) rfl)) (hw _ (List.mem_of_getElem? (i := 7) rfl)) e0 (g := (mkF m 4 #[.val (.int p0), .val (.int p1), .val (.int p2)] [])) rfl (hb hby d1_4) (Nat.le_of_ble_eq_true rfl) (Nat.le_of_ble_eq_true rfl)
    obtain ⟨b1, q1⟩ : ∃ z, z = h0.size := ⟨_, rfl⟩
    rw [← q1] at A1 D1 st1
    refine Go.by (fun _ => st1 _) ?_
    have g_b1 : n0 ≤ b1 := Nat.le_trans Z0 (Nat.le_of_eq q1.symm)
    have sz_b1 : h0.size ≤ b1 := Nat.le_trans (Keep.refl h0 []).1 (Nat.le_of_eq q1.symm)
    have O1 := O0.ext E1
    have R1 := R0.trans (CHr.ext E1 C0)
    have C1 := CHv.ext E1 C0
    have hk := Nat.le_trans hk E1.1
    have Z1 : n0 ≤ h1.size := Nat.le_trans Z0 E1.1
    have K1 : Keep h0 h1 [] := (Keep.refl h0 []).ext E1
    have F2 : Fld Z h1 b1 "java/lang/String" "coder" "B" (.int (0 : Int32)) := D1 (Or.inr (hw _ (List.mem_of_getElem? (i := 32) rfl))) (ty := .byte) (by decide)
    have F3 : Fld Z h1 b1 "java/lang/String" "value" "[B" .null := D1 (Or.inr (hw _ (List.mem_of_getElem? (i := 34) rfl))) (ty := (.array .byte)) (by decide)
    show Go p e below P (T1.setTop (mkF m 7 #[.val (.int p0), .val (.int p1), .val (.int p2)] [(.ref b1)]))
    refine Go.by (fun _ => XS.dup X1.here hx rfl (hb hby d1_7) rfl rfl) ?_
    show Go p e below P (T1.setTop (mkF m 8 #[.val (.int p0), .val (.int p1), .val (.int p2)] [(.ref b1), (.ref b1)]))
    refine Go.by (fun _ => XS.iconst X1.here hx rfl (hb hby d1_8)) ?_
    show Go p e below P (T1.setTop (mkF m 9 #[.val (.int p0), .val (.int p1), .val (.int p2)] [(.int (0 : Int32)), (.ref b1), (.ref b1)]))
    obtain ⟨T4, h4, k4, X4, e4, E4, A4, st4⟩ := newP X1 hx hZ (hw _ (List.mem_of_getElem? (i := 8) rfl)) e1 (g := (mkF m 9 #[.val (.int p0), .val (.int p1), .val (.int p2)] [(.int (0 : Int32)), (.ref b1), (.ref b1)])) rfl (hb hby d1_9) rfl (by decide) (cap := 0) (by decide) (Nat.le_of_ble_eq_true rfl) (Nat.le_of_ble_eq_true rfl) (Nat.le_of_ble_eq_true rfl)
    obtain ⟨b4, q4⟩ : ∃ z, z = h1.size := ⟨_, rfl⟩
    rw [← q4] at A4 st4
    refine Go.by (fun _ => st4 _) ?_
    have ne_b1_b4 : b1 ≠ b4 := Nat.ne_of_lt (Nat.lt_of_lt_of_le A1.lt (Nat.le_of_eq q4.symm))
    have g_b4 : n0 ≤ b4 := Nat.le_trans Z1 (Nat.le_of_eq q4.symm)
    have sz_b4 : h0.size ≤ b4 := Nat.le_trans K1.1 (Nat.le_of_eq q4.symm)
    have F5 : Exa Z h4 b1 "java/lang/String" := A1.ext E4
    have F6 : Fld Z h4 b1 "java/lang/String" "coder" "B" (.int (0 : Int32)) := F2.ext E4
    have F7 : Fld Z h4 b1 "java/lang/String" "value" "[B" .null := F3.ext E4
    have O4 := O1.ext E4
    have R4 := R1.trans (CHr.ext E4 C1)
    have C4 := CHv.ext E4 C1
    have hk := Nat.le_trans hk E4.1
    have Z4 : n0 ≤ h4.size := Nat.le_trans Z1 E4.1
    have K4 : Keep h0 h4 [] := K1.ext E4
    have F8 : Arv Z h4 b4 k4 .char (0 : Int32) [] (.int (0 : Int32)) := (Arv.new A4 (by decide)).pad (pad_rep [] (.int (0 : Int32)) 0)
    show Go p e below P (T4.setTop (mkF m 11 #[.val (.int p0), .val (.int p1), .val (.int p2)] [(.ref b4), (.ref b1), (.ref b1)]))
    obtain ⟨_, _, ⟨T9, L9, k9, n9⟩, -, X9, hSc9, hgr9, ⟨Lc9, hQ9, l9, y9, z9, Cr9⟩, st9⟩ := X4.specialBackS hx (y := (⟨"java/lang/String", "<init>", "([C)V"⟩ : MethodName)) rfl hown (mvT hZ (hw _ (List.mem_of_getElem? (i := 9) rfl))) (mvT hZ (hw _ (List.mem_of_getElem? (i := 10) rfl))) (mvT hZ (hw _ (List.mem_of_getElem? (i := 11) rfl))) (by decide) (backOfSH (W := 1) (rm_sn1 l Z a0 hw [] zC hG b1 b4 k4 h4 n0 Z4 O4 F5 F7 F6 F8 g_b1 ne_b1_b4) hZ (hw _ (List.mem_of_getElem? (i := 11) rfl)) (hw _ (List.mem_of_getElem? (i := 7) rfl)) (Nat.le_of_ble_eq_true rfl) (Nat.le_of_ble_eq_true rfl) (own_EW hw) C4) (g := (mkF m 11 #[.val (.int p0), .val (.int p1), .val (.int p2)] [(.ref b4), (.ref b1), (.ref b1)])) rfl (by rw [hml]; rfl) (Steps.refl _) (a := b1) (argsL := [(.ref b4)]) (rest := [(.ref b1)]) (lenOf pd_1 rfl) rfl (by show 2 * 0 + _ ≤ _; exact Nat.le_of_eq rfl) (hb hby d1_11) (fun _ _ => ⟨rfl, e4, (Nat.le_of_ble_eq_true rfl : 2 + 4 ≤ _), (Nat.le_of_ble_eq_true rfl : 4 + 8 ≤ _)⟩)
    dsimp only [Pt.U, Pt.locs, Pt.cells, Pt.slots] at X9 l9 y9 z9 st9 hQ9 hSc9 hgr9 Cr9
    subst l9 y9 z9
    have hZo := hZ
    obtain ⟨X9, hS, hZ, hown⟩ := rebS hS (by rw [e4]; exact hk) X9 hSc9 hgr9 hZ hown
    have hk : T9.heap.size ≤ T9.heap.size := Nat.le_refl _
    have Sf9_b1 := Cr9.safe F5.lt (own_blank (EL := consts_1) hZo.alike F5 F7)
    have Sf9_b4 := Cr9.safe F8.lt (own_safeA (EL := consts_1) hZo.alike F8 (by decide))
    have R9 := R4.trans Cr9
    have C9 := Cr9.1
    obtain ⟨t_9, rfl, Nq9, Kc9, F10⟩ := hQ9
    have N9 := Fr.app N0 Nq9
    refine Go.by (fun _ k => st9.trans k) ?_
    have F11 : Exa Z T9.heap b1 "java/lang/String" := F5.keep Kc9
    have F12 : Arv Z T9.heap b4 k4 .char (0 : Int32) [] (.int (0 : Int32)) := F8.keep Kc9 (ninS (Ne.symm ne_b1_b4) nin0)
    have O9 := O4.keep Kc9 (allS g_b1 all0)
    have Z9 : n0 ≤ T9.heap.size := Nat.le_trans Z4 Kc9.1
    have K9 : Keep h0 T9.heap [] := K4.trans Kc9 (allS (P := fun zz => zz ∈ [] ∨ h0.size ≤ zz) (Or.inr sz_b1) all0)
    show Go p e below P (T9.setTop (mkF m 14 #[.val (.int p0), .val (.int p1), .val (.int p2)] [(.ref b1)]))
    have F13 : Str Z T9.heap b1 t_9 (mkL p0 p1 p2) := (by rw [mkL, if_pos hc1]; exact F10)
    subst hP
    refine Go.retRC X9 hx hS hk Bd.returns rfl rfl hlk (hb hby d1_14) (Nat.le_of_ble_eq_true rfl) (Nat.le_of_ble_eq_true rfl) ?_ (by rw [hh]; exact R9.trans (CHv.at X9 hZ (own_EW hw) C9))
    exact ⟨b1, t_9, rfl, N9, K9, F13⟩
  · refine Go.by (fun _ => XS.ifYes X0.here hx rfl (pc0 := 1) (pc' := 15) rfl (hb hby d1_1) rfl ((if0 _ _).trans (feq hc1).2) (by decide) (by decide)) ?_
    show Go p e below P (s₁.setTop (mkF m 15 #[.val (.int p0), .val (.int p1), .val (.int p2)] []))
    refine Go.by (fun _ => XS.iloadN X0.here hx rfl (hb hby d1_15) rfl) ?_
    show Go p e below P (s₁.setTop (mkF m 16 #[.val (.int p0), .val (.int p1), .val (.int p2)] [(.int p0)]))
    refine Go.by (fun _ => XS.iconst X0.here hx rfl (hb hby d1_16)) ?_
    show Go p e below P (s₁.setTop (mkF m 17 #[.val (.int p0), .val (.int p1), .val (.int p2)] [(.int (1 : Int32)), (.int p0)]))
    by_cases hc17 : p0 = (1 : Int32)
    · refine Go.by (fun _ => XS.icmpNo X0.here hx rfl (hb hby d1_17) rfl (teq hc17).2) ?_
      show Go p e below P (s₁.setTop (mkF m 20 #[.val (.int p0), .val (.int p1), .val (.int p2)] []))
      obtain ⟨T14, h14, X14, e14, E14, A14, D14, -, st14⟩ := newO X0 hx hZ hown (hw _ (List.mem_of_getElem? (i := 5) rfl)) (hw _ (List.mem_of_getElem? (i := 6) rfl)) (hw _ (List.mem_of_getElem? (i := 7) rfl)) e0 (g := (mkF m 20 #[.val (.int p0), .val (.int p1), .val (.int p2)] [])) rfl (hb hby d1_20) (Nat.le_of_ble_eq_true rfl) (Nat.le_of_ble_eq_true rfl)
      obtain ⟨b14, q14⟩ : ∃ z, z = h0.size := ⟨_, rfl⟩
      rw [← q14] at A14 D14 st14
      refine Go.by (fun _ => st14 _) ?_
      have g_b14 : n0 ≤ b14 := Nat.le_trans Z0 (Nat.le_of_eq q14.symm)
      have sz_b14 : h0.size ≤ b14 := Nat.le_trans (Keep.refl h0 []).1 (Nat.le_of_eq q14.symm)
      have O14 := O0.ext E14
      have R14 := R0.trans (CHr.ext E14 C0)
      have C14 := CHv.ext E14 C0
      have hk := Nat.le_trans hk E14.1
      have Z14 : n0 ≤ h14.size := Nat.le_trans Z0 E14.1
      have K14 : Keep h0 h14 [] := (Keep.refl h0 []).ext E14
      have F15 : Fld Z h14 b14 "java/lang/String" "coder" "B" (.int (0 : Int32)) := D14 (Or.inr (hw _ (List.mem_of_getElem? (i := 32) rfl))) (ty := .byte) (by decide)
      have F16 : Fld Z h14 b14 "java/lang/String" "value" "[B" .null := D14 (Or.inr (hw _ (List.mem_of_getElem? (i := 34) rfl))) (ty := (.array .byte)) (by decide)
      show Go p e below P (T14.setTop (mkF m 23 #[.val (.int p0), .val (.int p1), .val (.int p2)] [(.ref b14)]))
      refine Go.by (fun _ => XS.dup X14.here hx rfl (hb hby d1_23) rfl rfl) ?_
      show Go p e below P (T14.setTop (mkF m 24 #[.val (.int p0), .val (.int p1), .val (.int p2)] [(.ref b14), (.ref b14)]))
      refine Go.by (fun _ => XS.iconst X14.here hx rfl (hb hby d1_24)) ?_
      show Go p e below P (T14.setTop (mkF m 25 #[.val (.int p0), .val (.int p1), .val (.int p2)] [(.int (1 : Int32)), (.ref b14), (.ref b14)]))
      obtain ⟨T17, h17, k17, X17, e17, E17, A17, st17⟩ := newP X14 hx hZ (hw _ (List.mem_of_getElem? (i := 8) rfl)) e14 (g := (mkF m 25 #[.val (.int p0), .val (.int p1), .val (.int p2)] [(.int (1 : Int32)), (.ref b14), (.ref b14)])) rfl (hb hby d1_25) rfl (by decide) (cap := 1) (by decide) (Nat.le_of_ble_eq_true rfl) (Nat.le_of_ble_eq_true rfl) (Nat.le_of_ble_eq_true rfl)
      obtain ⟨b17, q17⟩ : ∃ z, z = h14.size := ⟨_, rfl⟩
      rw [← q17] at A17 st17
      refine Go.by (fun _ => st17 _) ?_
      have ne_b14_b17 : b14 ≠ b17 := Nat.ne_of_lt (Nat.lt_of_lt_of_le A14.lt (Nat.le_of_eq q17.symm))
      have g_b17 : n0 ≤ b17 := Nat.le_trans Z14 (Nat.le_of_eq q17.symm)
      have sz_b17 : h0.size ≤ b17 := Nat.le_trans K14.1 (Nat.le_of_eq q17.symm)
      have F18 : Exa Z h17 b14 "java/lang/String" := A14.ext E17
      have F19 : Fld Z h17 b14 "java/lang/String" "coder" "B" (.int (0 : Int32)) := F15.ext E17
      have F20 : Fld Z h17 b14 "java/lang/String" "value" "[B" .null := F16.ext E17
      have O17 := O14.ext E17
      have R17 := R14.trans (CHr.ext E17 C14)
      have C17 := CHv.ext E17 C14
      have hk := Nat.le_trans hk E17.1
      have Z17 : n0 ≤ h17.size := Nat.le_trans Z14 E17.1
      have K17 : Keep h0 h17 [] := K14.ext E17
      have F21 : Arv Z h17 b17 k17 .char (1 : Int32) [(.int (0 : Int32))] (.int (0 : Int32)) := (Arv.new A17 (by decide)).pad (pad_rep [] (.int (0 : Int32)) 1)
      show Go p e below P (T17.setTop (mkF m 27 #[.val (.int p0), .val (.int p1), .val (.int p2)] [(.ref b17), (.ref b14), (.ref b14)]))
      refine Go.by (fun _ => XS.dup X17.here hx rfl (hb hby d1_27) rfl rfl) ?_
      show Go p e below P (T17.setTop (mkF m 28 #[.val (.int p0), .val (.int p1), .val (.int p2)] [(.ref b17), (.ref b17), (.ref b14), (.ref b14)]))
      refine Go.by (fun _ => XS.iconst X17.here hx rfl (hb hby d1_28)) ?_
      show Go p e below P (T17.setTop (mkF m 29 #[.val (.int p0), .val (.int p1), .val (.int p2)] [(.int (0 : Int32)), (.ref b17), (.ref b17), (.ref b14), (.ref b14)]))
      refine Go.by (fun _ => XS.iloadN X17.here hx rfl (hb hby d1_29) rfl) ?_
      show Go p e below P (T17.setTop (mkF m 30 #[.val (.int p0), .val (.int p1), .val (.int p2)] [(.int p1), (.int (0 : Int32)), (.ref b17), (.ref b17), (.ref b14), (.ref b14)]))
      obtain ⟨cl22, Ar22, qc22, Sz22, Ng22, Hs22, Gf22⟩ := id (F21)
      have hin22 : ¬ ((0 : Int32) < 0 ∨ cl22.slots.size ≤ ((0 : Int32)).toNatClampNeg) := inb_of Sz22 ⟨by decide, by decide⟩
      obtain ⟨T22, h22, X22, e22, W22, st22⟩ := stC X17 hx hZ e17 Ar22 (j := (0 : Int32)) hin22 (g := (mkF m 30 #[.val (.int p0), .val (.int p1), .val (.int p2)] [(.int p1), (.int (0 : Int32)), (.ref b17), (.ref b17), (.ref b14), (.ref b14)])) rfl rfl (hb hby d1_30)
      refine Go.by (fun _ => st22 _) ?_
      have F23 : Exa Z h22 b14 "java/lang/String" := F18.wr W22
      have F24 : Fld Z h22 b14 "java/lang/String" "coder" "B" (.int (0 : Int32)) := F19.other W22 (Or.inl ne_b14_b17)
      have F25 : Fld Z h22 b14 "java/lang/String" "value" "[B" .null := F20.other W22 (Or.inl ne_b14_b17)
      have Sw22 := (own_safeA (EL := consts_1) hZ.alike F21 (by decide))
      have R22 := R17.trans (CHr.wr W22 Sw22 C17)
      have C22 := CHv.wr W22 Sw22 C17
      have hk := Nat.le_trans hk (Keep.of_wr W22).1
      have O22 := O17.wr W22 g_b17
      have Z22 : n0 ≤ h22.size := Nat.le_trans Z17 (Keep.of_wr W22).1
      have K22 : Keep h0 h22 [] := K17.wr W22 (Or.inr sz_b17)
      have F26 : Arv Z h22 b17 k17 .char (1 : Int32) [(.int p1)] (.int (0 : Int32)) := (by have q := Arv.set Ar22 qc22 Sz22 Ng22 Hs22 Gf22 (fits_nar_char _) W22 0 rfl (Nat.le_of_ble_eq_true rfl); rw [(own_narr h1)] at q; exact q)
      have N22 := Fr.snoc X22 N0 g_b17
      show Go p e below P (T22.setTop (mkF m 31 #[.val (.int p0), .val (.int p1), .val (.int p2)] [(.ref b17), (.ref b14), (.ref b14)]))
      obtain ⟨_, _, ⟨T27, L27, k27, n27⟩, -, X27, ⟨Lc27, hQ27, l27, y27, z27⟩, st27⟩ := X22.specialBack hx (y := (⟨"java/lang/String", "<init>", "([C)V"⟩ : MethodName)) rfl hown (mvT hZ (hw _ (List.mem_of_getElem? (i := 9) rfl))) (mvT hZ (hw _ (List.mem_of_getElem? (i := 10) rfl))) (mvT hZ (hw _ (List.mem_of_getElem? (i := 11) rfl))) (by decide) (StrChars.Road.backV (W := 1) hZ (own_words hw) (kI := 4) (hw _ (List.mem_of_getElem? (i := 6) rfl)) (cs := ([p1] : List Int32)) (bs := ((([p1] : List Int32)).map (fun c => c.toInt8.toInt32))) (n := 1) g_b14 Z22 F23 F25 F24 F26 (G0.ext O22.2) own_cs rfl rfl (Nat.le_of_ble_eq_true rfl) (Nat.le_of_ble_eq_true rfl) (own_one h1) rfl (Nat.le_of_ble_eq_true rfl) (Nat.le_of_ble_eq_true rfl)) (g := (mkF m 31 #[.val (.int p0), .val (.int p1), .val (.int p2)] [(.ref b17), (.ref b14), (.ref b14)])) rfl (by rw [hml]; rfl) (Steps.refl _) (a := b14) (argsL := [(.ref b17)]) (rest := [(.ref b14)]) (lenOf pd_1 rfl) rfl (by show 2 * 0 + _ ≤ _; exact Nat.le_of_eq rfl) (hb hby d1_31) (fun _ _ => ⟨rfl, e22, (Nat.le_of_ble_eq_true rfl : 2 + 1 ≤ _), (Nat.le_of_ble_eq_true rfl : 5 + 1 ≤ _)⟩)
      dsimp only [Pt.U, Pt.locs, Pt.cells, Pt.slots] at X27 l27 y27 z27 st27 hQ27
      subst l27 y27 z27
      obtain ⟨rfl, Nq27, Kc27, FE27, FC27, t27, kb27, hn27, hs27, hne27, FV27, FA27⟩ := hQ27
      have N27 := Fr.app N22 Nq27
      refine Go.by (fun _ k => st27.trans k) ?_
      have ne_b14_t27 : b14 ≠ t27 := Nat.ne_of_lt (Nat.lt_of_lt_of_le F23.lt hs27)
      have ne_b17_t27 : b17 ≠ t27 := Nat.ne_of_lt (Nat.lt_of_lt_of_le F26.lt hs27)
      have g_t27 : n0 ≤ t27 := Nat.le_trans Z22 hs27
      have sz_t27 : h0.size ≤ t27 := Nat.le_trans K22.1 hs27
      have F28 : Exa Z T27.heap b14 "java/lang/String" := F23.keep Kc27
      have F29 : Arv Z T27.heap b17 k17 .char (1 : Int32) [(.int p1)] (.int (0 : Int32)) := F26.keep Kc27 (ninS (Ne.symm ne_b14_b17) nin0)
      have Sk27 := own_sk (ws := [b14]) C22 (allS (own_blank (EL := consts_1) hZ.alike F23 F25) all0)
      have R27 := R22.trans (CHr.keep Kc27 Sk27 C22)
      have C27 := CHv.keep Kc27 Sk27 C22
      have hk := Nat.le_trans hk Kc27.1
      have O27 := O22.keep Kc27 (allS g_b14 all0)
      have Z27 : n0 ≤ T27.heap.size := Nat.le_trans Z22 Kc27.1
      have K27 : Keep h0 T27.heap [] := K22.trans Kc27 (allS (P := fun zz => zz ∈ [] ∨ h0.size ≤ zz) (Or.inr sz_b14) all0)
      have F30 : Str Z T27.heap b14 t27 ([p1] : List Int32) := Str.mk FE27 FV27 FC27 FA27 (StrChars.Road.codOf (n := 1) rfl (fun x hx => ((own_one h1) x hx).2)) (own_up _ (own_one h1)) (Nat.le_of_ble_eq_true rfl)
      show Go p e below P (T27.setTop (mkF m 34 #[.val (.int p0), .val (.int p1), .val (.int p2)] [(.ref b14)]))
      have F31 : Str Z T27.heap b14 t27 (mkL p0 p1 p2) := (by rw [mkL, if_neg hc1, if_pos hc17]; exact F30)
      subst hP
      refine Go.retRC X27 hx hS hk Bd.returns rfl rfl hlk (hb hby d1_34) (Nat.le_of_ble_eq_true rfl) (Nat.le_of_ble_eq_true rfl) ?_ (by rw [hh]; exact R27.trans (CHv.at X27 hZ (own_EW hw) C27))
      exact ⟨b14, t27, rfl, N27, K27, F31⟩
    · refine Go.by (fun _ => XS.icmpYes X0.here hx rfl (pc0 := 17) (pc' := 35) rfl (hb hby d1_17) rfl (feq hc17).2 (by decide) (by decide)) ?_
      show Go p e below P (s₁.setTop (mkF m 35 #[.val (.int p0), .val (.int p1), .val (.int p2)] []))
      obtain ⟨T32, h32, X32, e32, E32, A32, D32, -, st32⟩ := newO X0 hx hZ hown (hw _ (List.mem_of_getElem? (i := 5) rfl)) (hw _ (List.mem_of_getElem? (i := 6) rfl)) (hw _ (List.mem_of_getElem? (i := 7) rfl)) e0 (g := (mkF m 35 #[.val (.int p0), .val (.int p1), .val (.int p2)] [])) rfl (hb hby d1_35) (Nat.le_of_ble_eq_true rfl) (Nat.le_of_ble_eq_true rfl)
      obtain ⟨b32, q32⟩ : ∃ z, z = h0.size := ⟨_, rfl⟩
      rw [← q32] at A32 D32 st32
      refine Go.by (fun _ => st32 _) ?_
      have g_b32 : n0 ≤ b32 := Nat.le_trans Z0 (Nat.le_of_eq q32.symm)
      have sz_b32 : h0.size ≤ b32 := Nat.le_trans (Keep.refl h0 []).1 (Nat.le_of_eq q32.symm)
      have O32 := O0.ext E32
      have R32 := R0.trans (CHr.ext E32 C0)
      have C32 := CHv.ext E32 C0
      have hk := Nat.le_trans hk E32.1
      have Z32 : n0 ≤ h32.size := Nat.le_trans Z0 E32.1
      have K32 : Keep h0 h32 [] := (Keep.refl h0 []).ext E32
      have F33 : Fld Z h32 b32 "java/lang/String" "coder" "B" (.int (0 : Int32)) := D32 (Or.inr (hw _ (List.mem_of_getElem? (i := 32) rfl))) (ty := .byte) (by decide)
      have F34 : Fld Z h32 b32 "java/lang/String" "value" "[B" .null := D32 (Or.inr (hw _ (List.mem_of_getElem? (i := 34) rfl))) (ty := (.array .byte)) (by decide)
      show Go p e below P (T32.setTop (mkF m 38 #[.val (.int p0), .val (.int p1), .val (.int p2)] [(.ref b32)]))
      refine Go.by (fun _ => XS.dup X32.here hx rfl (hb hby d1_38) rfl rfl) ?_
      show Go p e below P (T32.setTop (mkF m 39 #[.val (.int p0), .val (.int p1), .val (.int p2)] [(.ref b32), (.ref b32)]))
      refine Go.by (fun _ => XS.iconst X32.here hx rfl (hb hby d1_39)) ?_
      show Go p e below P (T32.setTop (mkF m 40 #[.val (.int p0), .val (.int p1), .val (.int p2)] [(.int (2 : Int32)), (.ref b32), (.ref b32)]))
      obtain ⟨T35, h35, k35, X35, e35, E35, A35, st35⟩ := newP X32 hx hZ (hw _ (List.mem_of_getElem? (i := 8) rfl)) e32 (g := (mkF m 40 #[.val (.int p0), .val (.int p1), .val (.int p2)] [(.int (2 : Int32)), (.ref b32), (.ref b32)])) rfl (hb hby d1_40) rfl (by decide) (cap := 2) (by decide) (Nat.le_of_ble_eq_true rfl) (Nat.le_of_ble_eq_true rfl) (Nat.le_of_ble_eq_true rfl)
      obtain ⟨b35, q35⟩ : ∃ z, z = h32.size := ⟨_, rfl⟩
      rw [← q35] at A35 st35
      refine Go.by (fun _ => st35 _) ?_
      have ne_b32_b35 : b32 ≠ b35 := Nat.ne_of_lt (Nat.lt_of_lt_of_le A32.lt (Nat.le_of_eq q35.symm))
      have g_b35 : n0 ≤ b35 := Nat.le_trans Z32 (Nat.le_of_eq q35.symm)
      have sz_b35 : h0.size ≤ b35 := Nat.le_trans K32.1 (Nat.le_of_eq q35.symm)
      have F36 : Exa Z h35 b32 "java/lang/String" := A32.ext E35
      have F37 : Fld Z h35 b32 "java/lang/String" "coder" "B" (.int (0 : Int32)) := F33.ext E35
      have F38 : Fld Z h35 b32 "java/lang/String" "value" "[B" .null := F34.ext E35
      have O35 := O32.ext E35
      have R35 := R32.trans (CHr.ext E35 C32)
      have C35 := CHv.ext E35 C32
      have hk := Nat.le_trans hk E35.1
      have Z35 : n0 ≤ h35.size := Nat.le_trans Z32 E35.1
      have K35 : Keep h0 h35 [] := K32.ext E35
      have F39 : Arv Z h35 b35 k35 .char (2 : Int32) [(.int (0 : Int32)), (.int (0 : Int32))] (.int (0 : Int32)) := (Arv.new A35 (by decide)).pad (pad_rep [] (.int (0 : Int32)) 2)
      show Go p e below P (T35.setTop (mkF m 42 #[.val (.int p0), .val (.int p1), .val (.int p2)] [(.ref b35), (.ref b32), (.ref b32)]))
      refine Go.by (fun _ => XS.dup X35.here hx rfl (hb hby d1_42) rfl rfl) ?_
      show Go p e below P (T35.setTop (mkF m 43 #[.val (.int p0), .val (.int p1), .val (.int p2)] [(.ref b35), (.ref b35), (.ref b32), (.ref b32)]))
      refine Go.by (fun _ => XS.iconst X35.here hx rfl (hb hby d1_43)) ?_
      show Go p e below P (T35.setTop (mkF m 44 #[.val (.int p0), .val (.int p1), .val (.int p2)] [(.int (0 : Int32)), (.ref b35), (.ref b35), (.ref b32), (.ref b32)]))
      refine Go.by (fun _ => XS.iloadN X35.here hx rfl (hb hby d1_44) rfl) ?_
      show Go p e below P (T35.setTop (mkF m 45 #[.val (.int p0), .val (.int p1), .val (.int p2)] [(.int p1), (.int (0 : Int32)), (.ref b35), (.ref b35), (.ref b32), (.ref b32)]))
      obtain ⟨cl40, Ar40, qc40, Sz40, Ng40, Hs40, Gf40⟩ := id (F39)
      have hin40 : ¬ ((0 : Int32) < 0 ∨ cl40.slots.size ≤ ((0 : Int32)).toNatClampNeg) := inb_of Sz40 ⟨by decide, by decide⟩
      obtain ⟨T40, h40, X40, e40, W40, st40⟩ := stC X35 hx hZ e35 Ar40 (j := (0 : Int32)) hin40 (g := (mkF m 45 #[.val (.int p0), .val (.int p1), .val (.int p2)] [(.int p1), (.int (0 : Int32)), (.ref b35), (.ref b35), (.ref b32), (.ref b32)])) rfl rfl (hb hby d1_45)
      refine Go.by (fun _ => st40 _) ?_
      have F41 : Exa Z h40 b32 "java/lang/String" := F36.wr W40
      have F42 : Fld Z h40 b32 "java/lang/String" "coder" "B" (.int (0 : Int32)) := F37.other W40 (Or.inl ne_b32_b35)
      have F43 : Fld Z h40 b32 "java/lang/String" "value" "[B" .null := F38.other W40 (Or.inl ne_b32_b35)
      have Sw40 := (own_safeA (EL := consts_1) hZ.alike F39 (by decide))
      have R40 := R35.trans (CHr.wr W40 Sw40 C35)
      have C40 := CHv.wr W40 Sw40 C35
      have hk := Nat.le_trans hk (Keep.of_wr W40).1
      have O40 := O35.wr W40 g_b35
      have Z40 : n0 ≤ h40.size := Nat.le_trans Z35 (Keep.of_wr W40).1
      have K40 : Keep h0 h40 [] := K35.wr W40 (Or.inr sz_b35)
      have F44 : Arv Z h40 b35 k35 .char (2 : Int32) [(.int p1), (.int (0 : Int32))] (.int (0 : Int32)) := (by have q := Arv.set Ar40 qc40 Sz40 Ng40 Hs40 Gf40 (fits_nar_char _) W40 0 rfl (Nat.le_of_ble_eq_true rfl); rw [(own_narr h1)] at q; exact q)
      have N40 := Fr.snoc X40 N0 g_b35
      show Go p e below P (T40.setTop (mkF m 46 #[.val (.int p0), .val (.int p1), .val (.int p2)] [(.ref b35), (.ref b32), (.ref b32)]))
      refine Go.by (fun _ => XS.dup X40.here hx rfl (hb hby d1_46) rfl rfl) ?_
      show Go p e below P (T40.setTop (mkF m 47 #[.val (.int p0), .val (.int p1), .val (.int p2)] [(.ref b35), (.ref b35), (.ref b32), (.ref b32)]))
      refine Go.by (fun _ => XS.iconst X40.here hx rfl (hb hby d1_47)) ?_
      show Go p e below P (T40.setTop (mkF m 48 #[.val (.int p0), .val (.int p1), .val (.int p2)] [(.int (1 : Int32)), (.ref b35), (.ref b35), (.ref b32), (.ref b32)]))
      refine Go.by (fun _ => XS.iloadN X40.here hx rfl (hb hby d1_48) rfl) ?_
      show Go p e below P (T40.setTop (mkF m 49 #[.val (.int p0), .val (.int p1), .val (.int p2)] [(.int p2), (.int (1 : Int32)), (.ref b35), (.ref b35), (.ref b32), (.ref b32)]))
      obtain ⟨cl45, Ar45, qc45, Sz45, Ng45, Hs45, Gf45⟩ := id (F44)
      have hin45 : ¬ ((1 : Int32) < 0 ∨ cl45.slots.size ≤ ((1 : Int32)).toNatClampNeg) := inb_of Sz45 ⟨by decide, by decide⟩
      obtain ⟨T45, h45, X45, e45, W45, st45⟩ := stC X40 hx hZ e40 Ar45 (j := (1 : Int32)) hin45 (g := (mkF m 49 #[.val (.int p0), .val (.int p1), .val (.int p2)] [(.int p2), (.int (1 : Int32)), (.ref b35), (.ref b35), (.ref b32), (.ref b32)])) rfl rfl (hb hby d1_49)
      refine Go.by (fun _ => st45 _) ?_
      have F46 : Exa Z h45 b32 "java/lang/String" := F41.wr W45
      have F47 : Fld Z h45 b32 "java/lang/String" "coder" "B" (.int (0 : Int32)) := F42.other W45 (Or.inl ne_b32_b35)
      have F48 : Fld Z h45 b32 "java/lang/String" "value" "[B" .null := F43.other W45 (Or.inl ne_b32_b35)
      have Sw45 := (own_safeA (EL := consts_1) hZ.alike F44 (by decide))
      have R45 := R40.trans (CHr.wr W45 Sw45 C40)
      have C45 := CHv.wr W45 Sw45 C40
      have hk := Nat.le_trans hk (Keep.of_wr W45).1
      have O45 := O40.wr W45 g_b35
      have Z45 : n0 ≤ h45.size := Nat.le_trans Z40 (Keep.of_wr W45).1
      have K45 : Keep h0 h45 [] := K40.wr W45 (Or.inr sz_b35)
      have F49 : Arv Z h45 b35 k35 .char (2 : Int32) [(.int p1), (.int p2)] (.int (0 : Int32)) := (by have q := Arv.set Ar45 qc45 Sz45 Ng45 Hs45 Gf45 (fits_nar_char _) W45 1 rfl (Nat.le_of_ble_eq_true rfl); rw [(own_narr h2)] at q; exact q)
      have N45 := Fr.snoc X45 N40 g_b35
      show Go p e below P (T45.setTop (mkF m 50 #[.val (.int p0), .val (.int p1), .val (.int p2)] [(.ref b35), (.ref b32), (.ref b32)]))
      obtain ⟨_, _, ⟨T50, L50, k50, n50⟩, -, X50, ⟨Lc50, hQ50, l50, y50, z50⟩, st50⟩ := X45.specialBack hx (y := (⟨"java/lang/String", "<init>", "([C)V"⟩ : MethodName)) rfl hown (mvT hZ (hw _ (List.mem_of_getElem? (i := 9) rfl))) (mvT hZ (hw _ (List.mem_of_getElem? (i := 10) rfl))) (mvT hZ (hw _ (List.mem_of_getElem? (i := 11) rfl))) (by decide) (StrChars.Road.backV (W := 1) hZ (own_words hw) (kI := 4) (hw _ (List.mem_of_getElem? (i := 6) rfl)) (cs := ([p1, p2] : List Int32)) (bs := ((([p1, p2] : List Int32)).map (fun c => c.toInt8.toInt32))) (n := 2) g_b32 Z45 F46 F48 F47 F49 (G0.ext O45.2) own_cs rfl rfl (Nat.le_of_ble_eq_true rfl) (Nat.le_of_ble_eq_true rfl) (own_two h1 h2) rfl (Nat.le_of_ble_eq_true rfl) (Nat.le_of_ble_eq_true rfl)) (g := (mkF m 50 #[.val (.int p0), .val (.int p1), .val (.int p2)] [(.ref b35), (.ref b32), (.ref b32)])) rfl (by rw [hml]; rfl) (Steps.refl _) (a := b32) (argsL := [(.ref b35)]) (rest := [(.ref b32)]) (lenOf pd_1 rfl) rfl (by show 2 * 0 + _ ≤ _; exact Nat.le_of_eq rfl) (hb hby d1_50) (fun _ _ => ⟨rfl, e45, (Nat.le_of_ble_eq_true rfl : 2 + 1 ≤ _), (Nat.le_of_ble_eq_true rfl : 6 + 2 ≤ _)⟩)
      dsimp only [Pt.U, Pt.locs, Pt.cells, Pt.slots] at X50 l50 y50 z50 st50 hQ50
      subst l50 y50 z50
      obtain ⟨rfl, Nq50, Kc50, FE50, FC50, t50, kb50, hn50, hs50, hne50, FV50, FA50⟩ := hQ50
      have N50 := Fr.app N45 Nq50
      refine Go.by (fun _ k => st50.trans k) ?_
      have ne_b32_t50 : b32 ≠ t50 := Nat.ne_of_lt (Nat.lt_of_lt_of_le F46.lt hs50)
      have ne_b35_t50 : b35 ≠ t50 := Nat.ne_of_lt (Nat.lt_of_lt_of_le F49.lt hs50)
      have g_t50 : n0 ≤ t50 := Nat.le_trans Z45 hs50
      have sz_t50 : h0.size ≤ t50 := Nat.le_trans K45.1 hs50
      have F51 : Exa Z T50.heap b32 "java/lang/String" := F46.keep Kc50
      have F52 : Arv Z T50.heap b35 k35 .char (2 : Int32) [(.int p1), (.int p2)] (.int (0 : Int32)) := F49.keep Kc50 (ninS (Ne.symm ne_b32_b35) nin0)
      have Sk50 := own_sk (ws := [b32]) C45 (allS (own_blank (EL := consts_1) hZ.alike F46 F48) all0)
      have R50 := R45.trans (CHr.keep Kc50 Sk50 C45)
      have C50 := CHv.keep Kc50 Sk50 C45
      have hk := Nat.le_trans hk Kc50.1
      have O50 := O45.keep Kc50 (allS g_b32 all0)
      have Z50 : n0 ≤ T50.heap.size := Nat.le_trans Z45 Kc50.1
      have K50 : Keep h0 T50.heap [] := K45.trans Kc50 (allS (P := fun zz => zz ∈ [] ∨ h0.size ≤ zz) (Or.inr sz_b32) all0)
      have F53 : Str Z T50.heap b32 t50 ([p1, p2] : List Int32) := Str.mk FE50 FV50 FC50 FA50 (StrChars.Road.codOf (n := 2) rfl (fun x hx => ((own_two h1 h2) x hx).2)) (own_up _ (own_two h1 h2)) (Nat.le_of_ble_eq_true rfl)
      show Go p e below P (T50.setTop (mkF m 53 #[.val (.int p0), .val (.int p1), .val (.int p2)] [(.ref b32)]))
      have F54 : Str Z T50.heap b32 t50 (mkL p0 p1 p2) := (by rw [mkL, if_neg hc1, if_neg hc17]; exact F53)
      subst hP
      refine Go.retRC X50 hx hS hk Bd.returns rfl rfl hlk (hb hby d1_53) (Nat.le_of_ble_eq_true rfl) (Nat.le_of_ble_eq_true rfl) ?_ (by rw [hh]; exact R50.trans (CHv.at X50 hZ (own_EW hw) C50))
      exact ⟨b32, t50, rfl, N50, K50, F54⟩
theorem d9_0 : decode jdk_30_method_1_code 0 = .ok (.aload_n 0, 1) := by decide +kernel
theorem d9_1 : decode jdk_30_method_1_code 1 = .ok (.invokespecial 1, 3) := by decide +kernel
theorem d9_4 : decode jdk_30_method_1_code 4 = .ok (.return_, 1) := by decide +kernel
theorem ef_rec (m : MethodId) (x0 : Addr) : entryFrame m #[(.ref x0)] 1 = mkF m 0 #[.val (.ref x0)] [] := by first | (simp [entryFrame, mkF, argsToLocals, Value.category]; done) | rfl
def Q_rec (Z : State) (zC : Int32) (a1 : Addr) (h0 : Heap) (n0 : Nat) (v : Option Value) (h : Heap) (L : List Loc) : Prop := v = none ∧ Fr n0 L ∧ h = h0
set_option maxRecDepth 65536 in
set_option maxHeartbeats 40000000 in
theorem rm_rec (l : Launch) (Z : State) (a0 : Array Value) (hw : ∀ d ∈ tables_1, d.before a0 Z = true) (ws : List Jvm.Cond) (zC : Int32) (hG : Glob Z zC) (a1 : Addr) (h0 : Heap) (n0 : Nat) (Z0 : n0 ≤ h0.size) (O0 : Old Z n0 h0) :
    MetFree l (⟨"java/lang/Record", "<init>", "()V"⟩ : MethodName) (head1 (Jvm.Cond.code (⟨"java/lang/Record", "<init>", "()V"⟩ : MethodName) jdk_30_method_1_code 1 none :: ws) ({ frames := 1, cells := 0, slots := 0, locals := 12 } : Room)) (fun a U => a = #[(.ref a1)] ∧ Z.Warmed39 U.vm ∧ U.heap = h0) (fun _ _ _ _ _ => True) (fun _ U o U' => ∃ v L, o = .returned v ∧ Q_rec Z zC a1 h0 n0 v U'.heap L ∧ FrameEnd U o U' L ({ frames := 1, cells := 0, slots := 0, locals := 12 } : Room).cells ({ frames := 1, cells := 0, slots := 0, locals := 12 } : Room).slots) := by
  refine MetFree.of_bodySF (plainFor_of_name pn_2) hisR ?_
  intro p e s m args below meth c s₁ Bd hml0 hP hK
  obtain ⟨rfl, hZ, hh⟩ := hP
  have hx := Bd.exec
  have hby := Bd.bytes
  have hml : c.maxLocals = 1 := hml0
  have hown : s.vm.findClass "java/lang/Record" = some m.cls := findClass_of_methodNamed Bd.named
  have hnm := (name_of_methodNamed Bd.named Bd.method).1
  have hlk : meth.locks = false := BodyLoose.notSynchronized Bd
  have X0 : Stand p l e ({ frames := 1, cells := 0, slots := 0, locals := 12 } : Room) s m #[(.ref a1)] below meth c s₁ [] 0 0 := Stand.of_body Bd
  have e0 : s₁.heap = h0 := by rw [← hh, Bd.state]; rfl
  have N0 := Fr.nil n0
  obtain ⟨G0, own_cs⟩ := id hG
  show Go p e below (End s (Q_rec Z zC a1 h0 n0) ({ frames := 1, cells := 0, slots := 0, locals := 12 } : Room).cells ({ frames := 1, cells := 0, slots := 0, locals := 12 } : Room).slots) (s₁.setTop (entryFrame m #[(.ref a1)] 1))
  rw [ef_rec]
  generalize hP : End s (Q_rec Z zC a1 h0 n0) ({ frames := 1, cells := 0, slots := 0, locals := 12 } : Room).cells ({ frames := 1, cells := 0, slots := 0, locals := 12 } : Room).slots = P
  show Go p e below P (s₁.setTop (mkF m 0 #[.val (.ref a1)] []))
  refine Go.by (fun _ => XS.aloadN X0.here hx rfl (hb hby d9_0) rfl rfl) ?_
  show Go p e below P (s₁.setTop (mkF m 1 #[.val (.ref a1)] [(.ref a1)]))
  obtain ⟨T1, X1, e1, st1⟩ := initO X0 hx hZ hown (hw _ (List.mem_of_getElem? (i := 48) rfl)) (hw _ (List.mem_of_getElem? (i := 17) rfl)) (hw _ (List.mem_of_getElem? (i := 18) rfl)) e0 (g := (mkF m 1 #[.val (.ref a1)] [(.ref a1)])) rfl (by rw [hml]; rfl) rfl (hb hby d9_1) (Nat.le_of_ble_eq_true rfl) (W := 0) (by show 2 * 0 + _ ≤ _; exact Nat.le_of_eq rfl) (Nat.le_of_ble_eq_true rfl)
  refine Go.by (fun _ => st1 _) ?_
  show Go p e below P (T1.setTop (mkF m 4 #[.val (.ref a1)] []))
  subst hP
  refine Go.retV X1 hx Bd.returns hlk (hb hby d9_4) (Nat.le_of_ble_eq_true rfl) (Nat.le_of_ble_eq_true rfl) ?_
  rw [e1]
  exact ⟨rfl, N0, rfl⟩
theorem d11_0 : decode jdk_31_method_10_code 0 = .ok (.aload_n 0, 1) := by decide +kernel
theorem d11_1 : decode jdk_31_method_10_code 1 = .ok (.ifnonnull 11, 3) := by decide +kernel
theorem d11_12 : decode jdk_31_method_10_code 12 = .ok (.aload_n 0, 1) := by decide +kernel
theorem d11_13 : decode jdk_31_method_10_code 13 = .ok (.areturn, 1) := by decide +kernel
theorem ef_rnn (m : MethodId) (x0 : Addr) : entryFrame m #[(.ref x0)] 1 = mkF m 0 #[.val (.ref x0)] [] := by first | (simp [entryFrame, mkF, argsToLocals, Value.category]; done) | rfl
def Q_rnn (Z : State) (zC : Int32) (a1 : Addr) (h0 : Heap) (n0 : Nat) (v : Option Value) (h : Heap) (L : List Loc) : Prop := v = some (.ref a1) ∧ Fr n0 L ∧ h = h0
set_option maxRecDepth 65536 in
set_option maxHeartbeats 40000000 in
theorem rm_rnn (l : Launch) (Z : State) (a0 : Array Value) (hw : ∀ d ∈ tables_1, d.before a0 Z = true) (ws : List Jvm.Cond) (zC : Int32) (hG : Glob Z zC) (a1 : Addr) (h0 : Heap) (n0 : Nat) (Z0 : n0 ≤ h0.size) (O0 : Old Z n0 h0) :
    MetFree l (⟨"java/util/Objects", "requireNonNull", "(Ljava/lang/Object;)Ljava/lang/Object;"⟩ : MethodName) (head1 (Jvm.Cond.code (⟨"java/util/Objects", "requireNonNull", "(Ljava/lang/Object;)Ljava/lang/Object;"⟩ : MethodName) jdk_31_method_10_code 1 (some (.object "java/lang/Object")) :: ws) ({ frames := 0, cells := 0, slots := 0, locals := 0 } : Room)) (fun a U => a = #[(.ref a1)] ∧ Z.Warmed39 U.vm ∧ U.heap = h0) (fun _ _ _ _ _ => True) (fun _ U o U' => ∃ v L, o = .returned v ∧ Q_rnn Z zC a1 h0 n0 v U'.heap L ∧ FrameEnd U o U' L ({ frames := 0, cells := 0, slots := 0, locals := 0 } : Room).cells ({ frames := 0, cells := 0, slots := 0, locals := 0 } : Room).slots) := by
  refine MetFree.of_bodySF (plainFor_of_name pn_3) hisR ?_
  intro p e s m args below meth c s₁ Bd hml0 hP hK
  obtain ⟨rfl, hZ, hh⟩ := hP
  have hx := Bd.exec
  have hby := Bd.bytes
  have hml : c.maxLocals = 1 := hml0
  have hown : s.vm.findClass "java/util/Objects" = some m.cls := findClass_of_methodNamed Bd.named
  have hnm := (name_of_methodNamed Bd.named Bd.method).1
  have hlk : meth.locks = false := BodyLoose.notSynchronized Bd
  have X0 : Stand p l e ({ frames := 0, cells := 0, slots := 0, locals := 0 } : Room) s m #[(.ref a1)] below meth c s₁ [] 0 0 := Stand.of_body Bd
  have e0 : s₁.heap = h0 := by rw [← hh, Bd.state]; rfl
  have N0 := Fr.nil n0
  obtain ⟨G0, own_cs⟩ := id hG
  show Go p e below (End s (Q_rnn Z zC a1 h0 n0) ({ frames := 0, cells := 0, slots := 0, locals := 0 } : Room).cells ({ frames := 0, cells := 0, slots := 0, locals := 0 } : Room).slots) (s₁.setTop (entryFrame m #[(.ref a1)] 1))
  rw [ef_rnn]
  generalize hP : End s (Q_rnn Z zC a1 h0 n0) ({ frames := 0, cells := 0, slots := 0, locals := 0 } : Room).cells ({ frames := 0, cells := 0, slots := 0, locals := 0 } : Room).slots = P
  show Go p e below P (s₁.setTop (mkF m 0 #[.val (.ref a1)] []))
  refine Go.by (fun _ => XS.aloadN X0.here hx rfl (hb hby d11_0) rfl rfl) ?_
  show Go p e below P (s₁.setTop (mkF m 1 #[.val (.ref a1)] [(.ref a1)]))
  refine Go.by (fun _ => XS.ifnonnullYes X0.here hx rfl (pc0 := 1) (pc' := 12) rfl (hb hby d11_1) rfl (by decide) (by decide)) ?_
  show Go p e below P (s₁.setTop (mkF m 12 #[.val (.ref a1)] []))
  refine Go.by (fun _ => XS.aloadN X0.here hx rfl (hb hby d11_12) rfl rfl) ?_
  show Go p e below P (s₁.setTop (mkF m 13 #[.val (.ref a1)] [(.ref a1)]))
  subst hP
  refine Go.retR X0 hx Bd.returns rfl rfl hlk (hb hby d11_13) (Nat.le_of_ble_eq_true rfl) (Nat.le_of_ble_eq_true rfl) ?_
  rw [e0]
  exact ⟨rfl, N0, rfl⟩
theorem d8_0 : decode prog_49_method_1_code 0 = .ok (.aload_n 0, 1) := by decide +kernel
theorem d8_1 : decode prog_49_method_1_code 1 = .ok (.invokespecial 1, 3) := by decide +kernel
theorem d8_4 : decode prog_49_method_1_code 4 = .ok (.lload_n 1, 1) := by decide +kernel
theorem d8_5 : decode prog_49_method_1_code 5 = .ok (.lconst 0, 1) := by decide +kernel
theorem d8_6 : decode prog_49_method_1_code 6 = .ok (.lcmp, 1) := by decide +kernel
theorem d8_7 : decode prog_49_method_1_code 7 = .ok (.ifCond .ge 17, 3) := by decide +kernel
theorem d8_24 : decode prog_49_method_1_code 24 = .ok (.aload_n 0, 1) := by decide +kernel
theorem d8_25 : decode prog_49_method_1_code 25 = .ok (.lload_n 1, 1) := by decide +kernel
theorem d8_26 : decode prog_49_method_1_code 26 = .ok (.putfield 16, 3) := by decide +kernel
theorem d8_29 : decode prog_49_method_1_code 29 = .ok (.return_, 1) := by decide +kernel
theorem ef_pri (m : MethodId) (x0 : Addr) (x1 : Int64) : entryFrame m #[(.ref x0), (.long x1)] 3 = mkF m 0 #[.val (.ref x0), .val (.long x1), .second] [] := by first | (simp [entryFrame, mkF, argsToLocals, Value.category]; done) | rfl
def Q_pri (Z : State) (zC : Int32) (a1 : Addr) (q1 : Int64) (h0 : Heap) (n0 : Nat) (v : Option Value) (h : Heap) (L : List Loc) : Prop := v = none ∧ Fr n0 L ∧ Keep h0 h [a1]
set_option maxRecDepth 65536 in
set_option maxHeartbeats 40000000 in
theorem rm_pri (l : Launch) (Z : State) (a0 : Array Value) (hw : ∀ d ∈ tables_1, d.before a0 Z = true) (ws : List Jvm.Cond) (zC : Int32) (hG : Glob Z zC) (a1 : Addr) (q1 : Int64) (h0 : Heap) (n0 : Nat) (Z0 : n0 ≤ h0.size) (O0 : Old Z n0 h0) (P0 : Exa Z h0 a1 "com/example/halyard/halyard/model/Price") (P1 : Fld Z h0 a1 "com/example/halyard/halyard/model/Price" "units" "J" (.long (0 : Int64))) (ga : n0 ≤ a1) (hq : ¬ q1 < 0) :
    MetFree l (⟨"com/example/halyard/halyard/model/Price", "<init>", "(J)V"⟩ : MethodName) (head1 (Jvm.Cond.code (⟨"com/example/halyard/halyard/model/Price", "<init>", "(J)V"⟩ : MethodName) prog_49_method_1_code 3 none :: ws) ({ frames := 2, cells := 0, slots := 0, locals := 24 } : Room)) (fun a U => a = #[(.ref a1), (.long q1)] ∧ Z.Warmed39 U.vm ∧ U.heap = h0) (fun _ _ _ _ _ => True) (fun _ U o U' => ∃ v L, o = .returned v ∧ Q_pri Z zC a1 q1 h0 n0 v U'.heap L ∧ FrameEnd U o U' L ({ frames := 2, cells := 0, slots := 0, locals := 24 } : Room).cells ({ frames := 2, cells := 0, slots := 0, locals := 24 } : Room).slots) := by
  refine MetFree.of_bodySF (plainFor_of_name pn_4) hisR ?_
  intro p e s m args below meth c s₁ Bd hml0 hP hK
  obtain ⟨rfl, hZ, hh⟩ := hP
  have hx := Bd.exec
  have hby := Bd.bytes
  have hml : c.maxLocals = 3 := hml0
  have hown : s.vm.findClass "com/example/halyard/halyard/model/Price" = some m.cls := findClass_of_methodNamed Bd.named
  have hnm := (name_of_methodNamed Bd.named Bd.method).1
  have hlk : meth.locks = false := BodyLoose.notSynchronized Bd
  have X0 : Stand p l e ({ frames := 2, cells := 0, slots := 0, locals := 24 } : Room) s m #[(.ref a1), (.long q1)] below meth c s₁ [] 0 0 := Stand.of_body Bd
  have e0 : s₁.heap = h0 := by rw [← hh, Bd.state]; rfl
  have N0 := Fr.nil n0
  obtain ⟨G0, own_cs⟩ := id hG
  show Go p e below (End s (Q_pri Z zC a1 q1 h0 n0) ({ frames := 2, cells := 0, slots := 0, locals := 24 } : Room).cells ({ frames := 2, cells := 0, slots := 0, locals := 24 } : Room).slots) (s₁.setTop (entryFrame m #[(.ref a1), (.long q1)] 3))
  rw [ef_pri]
  generalize hP : End s (Q_pri Z zC a1 q1 h0 n0) ({ frames := 2, cells := 0, slots := 0, locals := 24 } : Room).cells ({ frames := 2, cells := 0, slots := 0, locals := 24 } : Room).slots = P
  show Go p e below P (s₁.setTop (mkF m 0 #[.val (.ref a1), .val (.long q1), .second] []))
  refine Go.by (fun _ => XS.aloadN X0.here hx rfl (hb hby d8_0) rfl rfl) ?_
  show Go p e below P (s₁.setTop (mkF m 1 #[.val (.ref a1), .val (.long q1), .second] [(.ref a1)]))
  obtain ⟨_, _, ⟨T1, L1, k1, n1⟩, -, X1, ⟨Lc1, hQ1, l1, y1, z1⟩, st1⟩ := X0.specialBack hx (y := (⟨"java/lang/Record", "<init>", "()V"⟩ : MethodName)) rfl hown (mvT hZ (hw _ (List.mem_of_getElem? (i := 43) rfl))) (mvT hZ (hw _ (List.mem_of_getElem? (i := 44) rfl))) (mvT hZ (hw _ (List.mem_of_getElem? (i := 47) rfl))) (by decide) (backOf (W := 0) (rm_rec l Z a0 hw [] zC hG a1 h0 n0 Z0 O0  ) hZ (hw _ (List.mem_of_getElem? (i := 47) rfl)) (hw _ (List.mem_of_getElem? (i := 46) rfl)) (Nat.le_of_ble_eq_true rfl) (Nat.le_of_ble_eq_true rfl)) (g := (mkF m 1 #[.val (.ref a1), .val (.long q1), .second] [(.ref a1)])) rfl (by rw [hml]; rfl) (Steps.refl _) (a := a1) (argsL := []) (rest := []) (lenOf pd_2 rfl) rfl (by show 2 * 0 + _ ≤ _; exact Nat.le_of_eq rfl) (hb hby d8_1) (fun _ _ => ⟨rfl, e0, (Nat.le_of_ble_eq_true rfl : 0 + 0 ≤ _), (Nat.le_of_ble_eq_true rfl : 0 + 0 ≤ _)⟩)
  dsimp only [Pt.U, Pt.locs, Pt.cells, Pt.slots] at X1 l1 y1 z1 st1 hQ1
  subst l1 y1 z1
  obtain ⟨rfl, Nq1, eq1⟩ := hQ1
  have N1 := Fr.app N0 Nq1
  refine Go.by (fun _ k => st1.trans k) ?_
  show Go p e below P (T1.setTop (mkF m 4 #[.val (.ref a1), .val (.long q1), .second] []))
  refine Go.by (fun _ => XS.lloadN X1.here hx rfl (hb hby d8_4) rfl) ?_
  show Go p e below P (T1.setTop (mkF m 5 #[.val (.ref a1), .val (.long q1), .second] [(.long q1)]))
  refine Go.by (fun _ => XS.lconst X1.here hx rfl (hb hby d8_5)) ?_
  show Go p e below P (T1.setTop (mkF m 6 #[.val (.ref a1), .val (.long q1), .second] [(.long (0 : Int64)), (.long q1)]))
  refine Go.by (fun _ => XS.lcmp X1.here hx rfl (hb hby d8_6) rfl) ?_
  show Go p e below P (T1.setTop (mkF m 7 #[.val (.ref a1), .val (.long q1), .second] [(.int (lcmpW q1 (0 : Int64)))]))
  have hc7 : ¬ ((lcmpW q1 (0 : Int64)) < (0 : Int32)) := (fun q => hq ((lw_lt _ _).mp q))
  refine Go.by (fun _ => XS.ifYes X1.here hx rfl (pc0 := 7) (pc' := 24) rfl (hb hby d8_7) rfl ((if0 _ _).trans (flt hc7).2.1) (by decide) (by decide)) ?_
  show Go p e below P (T1.setTop (mkF m 24 #[.val (.ref a1), .val (.long q1), .second] []))
  refine Go.by (fun _ => XS.aloadN X1.here hx rfl (hb hby d8_24) rfl rfl) ?_
  show Go p e below P (T1.setTop (mkF m 25 #[.val (.ref a1), .val (.long q1), .second] [(.ref a1)]))
  refine Go.by (fun _ => XS.lloadN X1.here hx rfl (hb hby d8_25) rfl) ?_
  show Go p e below P (T1.setTop (mkF m 26 #[.val (.ref a1), .val (.long q1), .second] [(.long q1), (.ref a1)]))
  obtain ⟨T2, h2, X2, e2, W2, st2⟩ := putF X1 hx hZ hown (host := "") (Or.inl (hw _ (List.mem_of_getElem? (i := 49) rfl))) Via.refl eq1 P1 P0 (Or.inr ⟨(hw _ (List.mem_of_getElem? (i := 50) rfl)), rfl, hnm⟩) (hw _ (List.mem_of_getElem? (i := 37) rfl)) (ty := .long) (by decide) rfl rfl (g := (mkF m 26 #[.val (.ref a1), .val (.long q1), .second] [(.long q1), (.ref a1)])) rfl rfl (hb hby d8_26)
  refine Go.by (fun _ => st2 _) ?_
  have F3 : Exa Z h2 a1 "com/example/halyard/halyard/model/Price" := P0.wr W2
  have O2 := O0.wr W2 ga
  have Z2 : n0 ≤ h2.size := Nat.le_trans Z0 (Keep.of_wr W2).1
  have K2 : Keep h0 h2 [a1] := (Keep.refl h0 [a1]).wr W2 (Or.inl (List.mem_of_getElem? (i := 0) rfl))
  have F4 : Fld Z h2 a1 "com/example/halyard/halyard/model/Price" "units" "J" (.long q1) := P1.same W2
  have N2 := Fr.snoc X2 N1 ga
  show Go p e below P (T2.setTop (mkF m 29 #[.val (.ref a1), .val (.long q1), .second] []))
  subst hP
  refine Go.retV X2 hx Bd.returns hlk (hb hby d8_29) (Nat.le_of_ble_eq_true rfl) (Nat.le_of_ble_eq_true rfl) ?_
  rw [e2]
  exact ⟨rfl, N2, K2⟩
theorem d10_0 : decode prog_54_method_1_code 0 = .ok (.aload_n 0, 1) := by decide +kernel
theorem d10_1 : decode prog_54_method_1_code 1 = .ok (.invokespecial 1, 3) := by decide +kernel
theorem d10_4 : decode prog_54_method_1_code 4 = .ok (.aload_n 1, 1) := by decide +kernel
theorem d10_5 : decode prog_54_method_1_code 5 = .ok (.invokestatic 7, 3) := by decide +kernel
theorem d10_8 : decode prog_54_method_1_code 8 = .ok (.pop, 1) := by decide +kernel
theorem d10_9 : decode prog_54_method_1_code 9 = .ok (.aload 4, 2) := by decide +kernel
theorem d10_11 : decode prog_54_method_1_code 11 = .ok (.invokestatic 7, 3) := by decide +kernel
theorem d10_14 : decode prog_54_method_1_code 14 = .ok (.pop, 1) := by decide +kernel
theorem d10_15 : decode prog_54_method_1_code 15 = .ok (.aload 5, 2) := by decide +kernel
theorem d10_17 : decode prog_54_method_1_code 17 = .ok (.invokestatic 7, 3) := by decide +kernel
theorem d10_20 : decode prog_54_method_1_code 20 = .ok (.pop, 1) := by decide +kernel
theorem d10_21 : decode prog_54_method_1_code 21 = .ok (.lload_n 2, 1) := by decide +kernel
theorem d10_22 : decode prog_54_method_1_code 22 = .ok (.lconst 0, 1) := by decide +kernel
theorem d10_23 : decode prog_54_method_1_code 23 = .ok (.lcmp, 1) := by decide +kernel
theorem d10_24 : decode prog_54_method_1_code 24 = .ok (.ifCond .gt 17, 3) := by decide +kernel
theorem d10_41 : decode prog_54_method_1_code 41 = .ok (.aload_n 0, 1) := by decide +kernel
theorem d10_42 : decode prog_54_method_1_code 42 = .ok (.aload_n 1, 1) := by decide +kernel
theorem d10_43 : decode prog_54_method_1_code 43 = .ok (.putfield 22, 3) := by decide +kernel
theorem d10_46 : decode prog_54_method_1_code 46 = .ok (.aload_n 0, 1) := by decide +kernel
theorem d10_47 : decode prog_54_method_1_code 47 = .ok (.lload_n 2, 1) := by decide +kernel
theorem d10_48 : decode prog_54_method_1_code 48 = .ok (.putfield 28, 3) := by decide +kernel
theorem d10_51 : decode prog_54_method_1_code 51 = .ok (.aload_n 0, 1) := by decide +kernel
theorem d10_52 : decode prog_54_method_1_code 52 = .ok (.aload 4, 2) := by decide +kernel
theorem d10_54 : decode prog_54_method_1_code 54 = .ok (.putfield 32, 3) := by decide +kernel
theorem d10_57 : decode prog_54_method_1_code 57 = .ok (.aload_n 0, 1) := by decide +kernel
theorem d10_58 : decode prog_54_method_1_code 58 = .ok (.aload 5, 2) := by decide +kernel
theorem d10_60 : decode prog_54_method_1_code 60 = .ok (.putfield 36, 3) := by decide +kernel
theorem d10_63 : decode prog_54_method_1_code 63 = .ok (.return_, 1) := by decide +kernel
theorem ef_ro4 (m : MethodId) (x0 : Addr) (x1 : Addr) (x2 : Int64) (x3 : Addr) (x4 : Addr) : entryFrame m #[(.ref x0), (.ref x1), (.long x2), (.ref x3), (.ref x4)] 6 = mkF m 0 #[.val (.ref x0), .val (.ref x1), .val (.long x2), .second, .val (.ref x3), .val (.ref x4)] [] := by first | (simp [entryFrame, mkF, argsToLocals, Value.category]; done) | rfl
def Q_ro4 (Z : State) (zC : Int32) (a1 : Addr) (x : Addr) (q1 : Int64) (pr : Addr) (y : Addr) (h0 : Heap) (n0 : Nat) (v : Option Value) (h : Heap) (L : List Loc) : Prop := v = none ∧ Fr n0 L ∧ Keep h0 h [a1] ∧ Fld Z h a1 "com/example/halyard/halyard/model/ReplaceOrder" "orderId" "Ljava/lang/String;" (.ref x) ∧ Fld Z h a1 "com/example/halyard/halyard/model/ReplaceOrder" "newOrderId" "Ljava/lang/String;" (.ref y)
set_option maxRecDepth 65536 in
set_option maxHeartbeats 40000000 in
theorem rm_ro4 (l : Launch) (Z : State) (a0 : Array Value) (hw : ∀ d ∈ tables_1, d.before a0 Z = true) (ws : List Jvm.Cond) (zC : Int32) (hG : Glob Z zC) (a1 : Addr) (x : Addr) (q1 : Int64) (pr : Addr) (y : Addr) (h0 : Heap) (n0 : Nat) (Z0 : n0 ≤ h0.size) (O0 : Old Z n0 h0) (P0 : Exa Z h0 a1 "com/example/halyard/halyard/model/ReplaceOrder") (P1 : Fld Z h0 a1 "com/example/halyard/halyard/model/ReplaceOrder" "orderId" "Ljava/lang/String;" .null) (P2 : Fld Z h0 a1 "com/example/halyard/halyard/model/ReplaceOrder" "shares" "J" (.long (0 : Int64))) (P3 : Fld Z h0 a1 "com/example/halyard/halyard/model/ReplaceOrder" "price" "Lcom/example/halyard/halyard/model/Price;" .null) (P4 : Fld Z h0 a1 "com/example/halyard/halyard/model/ReplaceOrder" "newOrderId" "Ljava/lang/String;" .null) (ga : n0 ≤ a1) (hq : 0 < q1) :
    MetFree l (⟨"com/example/halyard/halyard/model/ReplaceOrder", "<init>", "(Ljava/lang/String;JLcom/example/halyard/halyard/model/Price;Ljava/lang/String;)V"⟩ : MethodName) (head1 (Jvm.Cond.code (⟨"com/example/halyard/halyard/model/ReplaceOrder", "<init>", "(Ljava/lang/String;JLcom/example/halyard/halyard/model/Price;Ljava/lang/String;)V"⟩ : MethodName) prog_54_method_1_code 6 none :: ws) ({ frames := 2, cells := 0, slots := 0, locals := 24 } : Room)) (fun a U => a = #[(.ref a1), (.ref x), (.long q1), (.ref pr), (.ref y)] ∧ Z.Warmed39 U.vm ∧ U.heap = h0) (fun _ _ _ _ _ => True) (fun _ U o U' => ∃ v L, o = .returned v ∧ Q_ro4 Z zC a1 x q1 pr y h0 n0 v U'.heap L ∧ FrameEnd U o U' L ({ frames := 2, cells := 0, slots := 0, locals := 24 } : Room).cells ({ frames := 2, cells := 0, slots := 0, locals := 24 } : Room).slots) := by
  refine MetFree.of_bodySF (plainFor_of_name pn_5) hisR ?_
  intro p e s m args below meth c s₁ Bd hml0 hP hK
  obtain ⟨rfl, hZ, hh⟩ := hP
  have hx := Bd.exec
  have hby := Bd.bytes
  have hml : c.maxLocals = 6 := hml0
  have hown : s.vm.findClass "com/example/halyard/halyard/model/ReplaceOrder" = some m.cls := findClass_of_methodNamed Bd.named
  have hnm := (name_of_methodNamed Bd.named Bd.method).1
  have hlk : meth.locks = false := BodyLoose.notSynchronized Bd
  have X0 : Stand p l e ({ frames := 2, cells := 0, slots := 0, locals := 24 } : Room) s m #[(.ref a1), (.ref x), (.long q1), (.ref pr), (.ref y)] below meth c s₁ [] 0 0 := Stand.of_body Bd
  have e0 : s₁.heap = h0 := by rw [← hh, Bd.state]; rfl
  have N0 := Fr.nil n0
  obtain ⟨G0, own_cs⟩ := id hG
  show Go p e below (End s (Q_ro4 Z zC a1 x q1 pr y h0 n0) ({ frames := 2, cells := 0, slots := 0, locals := 24 } : Room).cells ({ frames := 2, cells := 0, slots := 0, locals := 24 } : Room).slots) (s₁.setTop (entryFrame m #[(.ref a1), (.ref x), (.long q1), (.ref pr), (.ref y)] 6))
  rw [ef_ro4]
  generalize hP : End s (Q_ro4 Z zC a1 x q1 pr y h0 n0) ({ frames := 2, cells := 0, slots := 0, locals := 24 } : Room).cells ({ frames := 2, cells := 0, slots := 0, locals := 24 } : Room).slots = P
  show Go p e below P (s₁.setTop (mkF m 0 #[.val (.ref a1), .val (.ref x), .val (.long q1), .second, .val (.ref pr), .val (.ref y)] []))
  refine Go.by (fun _ => XS.aloadN X0.here hx rfl (hb hby d10_0) rfl rfl) ?_
  show Go p e below P (s₁.setTop (mkF m 1 #[.val (.ref a1), .val (.ref x), .val (.long q1), .second, .val (.ref pr), .val (.ref y)] [(.ref a1)]))
  obtain ⟨_, _, ⟨T1, L1, k1, n1⟩, -, X1, ⟨Lc1, hQ1, l1, y1, z1⟩, st1⟩ := X0.specialBack hx (y := (⟨"java/lang/Record", "<init>", "()V"⟩ : MethodName)) rfl hown (mvT hZ (hw _ (List.mem_of_getElem? (i := 57) rfl))) (mvT hZ (hw _ (List.mem_of_getElem? (i := 44) rfl))) (mvT hZ (hw _ (List.mem_of_getElem? (i := 47) rfl))) (by decide) (backOf (W := 0) (rm_rec l Z a0 hw [] zC hG a1 h0 n0 Z0 O0  ) hZ (hw _ (List.mem_of_getElem? (i := 47) rfl)) (hw _ (List.mem_of_getElem? (i := 46) rfl)) (Nat.le_of_ble_eq_true rfl) (Nat.le_of_ble_eq_true rfl)) (g := (mkF m 1 #[.val (.ref a1), .val (.ref x), .val (.long q1), .second, .val (.ref pr), .val (.ref y)] [(.ref a1)])) rfl (by rw [hml]; rfl) (Steps.refl _) (a := a1) (argsL := []) (rest := []) (lenOf pd_2 rfl) rfl (by show 2 * 0 + _ ≤ _; exact Nat.le_of_eq rfl) (hb hby d10_1) (fun _ _ => ⟨rfl, e0, (Nat.le_of_ble_eq_true rfl : 0 + 0 ≤ _), (Nat.le_of_ble_eq_true rfl : 0 + 0 ≤ _)⟩)
  dsimp only [Pt.U, Pt.locs, Pt.cells, Pt.slots] at X1 l1 y1 z1 st1 hQ1
  subst l1 y1 z1
  obtain ⟨rfl, Nq1, eq1⟩ := hQ1
  have N1 := Fr.app N0 Nq1
  refine Go.by (fun _ k => st1.trans k) ?_
  show Go p e below P (T1.setTop (mkF m 4 #[.val (.ref a1), .val (.ref x), .val (.long q1), .second, .val (.ref pr), .val (.ref y)] []))
  refine Go.by (fun _ => XS.aloadN X1.here hx rfl (hb hby d10_4) rfl rfl) ?_
  show Go p e below P (T1.setTop (mkF m 5 #[.val (.ref a1), .val (.ref x), .val (.long q1), .second, .val (.ref pr), .val (.ref y)] [(.ref x)]))
  obtain ⟨_, _, ⟨T2, L2, k2, n2⟩, -, X2, ⟨Lc2, hQ2, l2, y2, z2⟩, st2⟩ := Jvm.LawKit.callS X1 hx (y := (⟨"java/util/Objects", "requireNonNull", "(Ljava/lang/Object;)Ljava/lang/Object;"⟩ : MethodName)) hown (mvT hZ (hw _ (List.mem_of_getElem? (i := 58) rfl))) (mvT hZ (hw _ (List.mem_of_getElem? (i := 59) rfl))) (mvT hZ (hw _ (List.mem_of_getElem? (i := 60) rfl))) (mvT hZ (hw _ (List.mem_of_getElem? (i := 61) rfl))) (by decide) (backOf (W := 0) (rm_rnn l Z a0 hw [] zC hG x h0 n0 Z0 O0  ) hZ (hw _ (List.mem_of_getElem? (i := 61) rfl)) (hw _ (List.mem_of_getElem? (i := 60) rfl)) (Nat.le_of_ble_eq_true rfl) (Nat.le_of_ble_eq_true rfl)) (g := (mkF m 5 #[.val (.ref a1), .val (.ref x), .val (.long q1), .second, .val (.ref pr), .val (.ref y)] [(.ref x)])) rfl (by rw [hml]; rfl) (argsL := [(.ref x)]) (rest := []) (lenOf pd_3 rfl) rfl (by show 2 * 0 + _ ≤ _; exact Nat.le_of_eq rfl) (hb hby d10_5) (fun _ _ => ⟨rfl, eq1, (Nat.le_of_ble_eq_true rfl : 0 + 0 ≤ _), (Nat.le_of_ble_eq_true rfl : 0 + 0 ≤ _)⟩)
  dsimp only [Pt.U, Pt.locs, Pt.cells, Pt.slots] at X2 l2 y2 z2 st2 hQ2
  subst l2 y2 z2
  obtain ⟨rfl, Nq2, eq2⟩ := hQ2
  have N2 := Fr.app N1 Nq2
  refine Go.by (fun _ => st2 _) ?_
  show Go p e below P (T2.setTop (mkF m 8 #[.val (.ref a1), .val (.ref x), .val (.long q1), .second, .val (.ref pr), .val (.ref y)] [(.ref x)]))
  refine Go.by (fun _ => XS.pop X2.here hx rfl (hb hby d10_8) rfl rfl) ?_
  show Go p e below P (T2.setTop (mkF m 9 #[.val (.ref a1), .val (.ref x), .val (.long q1), .second, .val (.ref pr), .val (.ref y)] []))
  refine Go.by (fun _ => XS.aload X2.here hx rfl (hb hby d10_9) rfl rfl) ?_
  show Go p e below P (T2.setTop (mkF m 11 #[.val (.ref a1), .val (.ref x), .val (.long q1), .second, .val (.ref pr), .val (.ref y)] [(.ref pr)]))
  obtain ⟨_, _, ⟨T3, L3, k3, n3⟩, -, X3, ⟨Lc3, hQ3, l3, y3, z3⟩, st3⟩ := Jvm.LawKit.callS X2 hx (y := (⟨"java/util/Objects", "requireNonNull", "(Ljava/lang/Object;)Ljava/lang/Object;"⟩ : MethodName)) hown (mvT hZ (hw _ (List.mem_of_getElem? (i := 58) rfl))) (mvT hZ (hw _ (List.mem_of_getElem? (i := 59) rfl))) (mvT hZ (hw _ (List.mem_of_getElem? (i := 60) rfl))) (mvT hZ (hw _ (List.mem_of_getElem? (i := 61) rfl))) (by decide) (backOf (W := 0) (rm_rnn l Z a0 hw [] zC hG pr h0 n0 Z0 O0  ) hZ (hw _ (List.mem_of_getElem? (i := 61) rfl)) (hw _ (List.mem_of_getElem? (i := 60) rfl)) (Nat.le_of_ble_eq_true rfl) (Nat.le_of_ble_eq_true rfl)) (g := (mkF m 11 #[.val (.ref a1), .val (.ref x), .val (.long q1), .second, .val (.ref pr), .val (.ref y)] [(.ref pr)])) rfl (by rw [hml]; rfl) (argsL := [(.ref pr)]) (rest := []) (lenOf pd_3 rfl) rfl (by show 2 * 0 + _ ≤ _; exact Nat.le_of_eq rfl) (hb hby d10_11) (fun _ _ => ⟨rfl, eq2, (Nat.le_of_ble_eq_true rfl : 0 + 0 ≤ _), (Nat.le_of_ble_eq_true rfl : 0 + 0 ≤ _)⟩)
  dsimp only [Pt.U, Pt.locs, Pt.cells, Pt.slots] at X3 l3 y3 z3 st3 hQ3
  subst l3 y3 z3
  obtain ⟨rfl, Nq3, eq3⟩ := hQ3
  have N3 := Fr.app N2 Nq3
  refine Go.by (fun _ => st3 _) ?_
  show Go p e below P (T3.setTop (mkF m 14 #[.val (.ref a1), .val (.ref x), .val (.long q1), .second, .val (.ref pr), .val (.ref y)] [(.ref pr)]))
  refine Go.by (fun _ => XS.pop X3.here hx rfl (hb hby d10_14) rfl rfl) ?_
  show Go p e below P (T3.setTop (mkF m 15 #[.val (.ref a1), .val (.ref x), .val (.long q1), .second, .val (.ref pr), .val (.ref y)] []))
  refine Go.by (fun _ => XS.aload X3.here hx rfl (hb hby d10_15) rfl rfl) ?_
  show Go p e below P (T3.setTop (mkF m 17 #[.val (.ref a1), .val (.ref x), .val (.long q1), .second, .val (.ref pr), .val (.ref y)] [(.ref y)]))
  obtain ⟨_, _, ⟨T4, L4, k4, n4⟩, -, X4, ⟨Lc4, hQ4, l4, y4, z4⟩, st4⟩ := Jvm.LawKit.callS X3 hx (y := (⟨"java/util/Objects", "requireNonNull", "(Ljava/lang/Object;)Ljava/lang/Object;"⟩ : MethodName)) hown (mvT hZ (hw _ (List.mem_of_getElem? (i := 58) rfl))) (mvT hZ (hw _ (List.mem_of_getElem? (i := 59) rfl))) (mvT hZ (hw _ (List.mem_of_getElem? (i := 60) rfl))) (mvT hZ (hw _ (List.mem_of_getElem? (i := 61) rfl))) (by decide) (backOf (W := 0) (rm_rnn l Z a0 hw [] zC hG y h0 n0 Z0 O0  ) hZ (hw _ (List.mem_of_getElem? (i := 61) rfl)) (hw _ (List.mem_of_getElem? (i := 60) rfl)) (Nat.le_of_ble_eq_true rfl) (Nat.le_of_ble_eq_true rfl)) (g := (mkF m 17 #[.val (.ref a1), .val (.ref x), .val (.long q1), .second, .val (.ref pr), .val (.ref y)] [(.ref y)])) rfl (by rw [hml]; rfl) (argsL := [(.ref y)]) (rest := []) (lenOf pd_3 rfl) rfl (by show 2 * 0 + _ ≤ _; exact Nat.le_of_eq rfl) (hb hby d10_17) (fun _ _ => ⟨rfl, eq3, (Nat.le_of_ble_eq_true rfl : 0 + 0 ≤ _), (Nat.le_of_ble_eq_true rfl : 0 + 0 ≤ _)⟩)
  dsimp only [Pt.U, Pt.locs, Pt.cells, Pt.slots] at X4 l4 y4 z4 st4 hQ4
  subst l4 y4 z4
  obtain ⟨rfl, Nq4, eq4⟩ := hQ4
  have N4 := Fr.app N3 Nq4
  refine Go.by (fun _ => st4 _) ?_
  show Go p e below P (T4.setTop (mkF m 20 #[.val (.ref a1), .val (.ref x), .val (.long q1), .second, .val (.ref pr), .val (.ref y)] [(.ref y)]))
  refine Go.by (fun _ => XS.pop X4.here hx rfl (hb hby d10_20) rfl rfl) ?_
  show Go p e below P (T4.setTop (mkF m 21 #[.val (.ref a1), .val (.ref x), .val (.long q1), .second, .val (.ref pr), .val (.ref y)] []))
  refine Go.by (fun _ => XS.lloadN X4.here hx rfl (hb hby d10_21) rfl) ?_
  show Go p e below P (T4.setTop (mkF m 22 #[.val (.ref a1), .val (.ref x), .val (.long q1), .second, .val (.ref pr), .val (.ref y)] [(.long q1)]))
  refine Go.by (fun _ => XS.lconst X4.here hx rfl (hb hby d10_22)) ?_
  show Go p e below P (T4.setTop (mkF m 23 #[.val (.ref a1), .val (.ref x), .val (.long q1), .second, .val (.ref pr), .val (.ref y)] [(.long (0 : Int64)), (.long q1)]))
  refine Go.by (fun _ => XS.lcmp X4.here hx rfl (hb hby d10_23) rfl) ?_
  show Go p e below P (T4.setTop (mkF m 24 #[.val (.ref a1), .val (.ref x), .val (.long q1), .second, .val (.ref pr), .val (.ref y)] [(.int (lcmpW q1 (0 : Int64)))]))
  have hc24 : (0 : Int32) < (lcmpW q1 (0 : Int64)) := ((lw_gt _ _).mpr hq)
  refine Go.by (fun _ => XS.ifYes X4.here hx rfl (pc0 := 24) (pc' := 41) rfl (hb hby d10_24) rfl ((if0 _ _).trans (tlt hc24).2.2.1) (by decide) (by decide)) ?_
  show Go p e below P (T4.setTop (mkF m 41 #[.val (.ref a1), .val (.ref x), .val (.long q1), .second, .val (.ref pr), .val (.ref y)] []))
  refine Go.by (fun _ => XS.aloadN X4.here hx rfl (hb hby d10_41) rfl rfl) ?_
  show Go p e below P (T4.setTop (mkF m 42 #[.val (.ref a1), .val (.ref x), .val (.long q1), .second, .val (.ref pr), .val (.ref y)] [(.ref a1)]))
  refine Go.by (fun _ => XS.aloadN X4.here hx rfl (hb hby d10_42) rfl rfl) ?_
  show Go p e below P (T4.setTop (mkF m 43 #[.val (.ref a1), .val (.ref x), .val (.long q1), .second, .val (.ref pr), .val (.ref y)] [(.ref x), (.ref a1)]))
  obtain ⟨T5, h5, X5, e5, W5, st5⟩ := putF X4 hx hZ hown (host := "") (Or.inl (hw _ (List.mem_of_getElem? (i := 62) rfl))) Via.refl eq4 P1 P0 (Or.inr ⟨(hw _ (List.mem_of_getElem? (i := 63) rfl)), rfl, hnm⟩) (hw _ (List.mem_of_getElem? (i := 52) rfl)) (ty := (.object "java/lang/String")) (by decide) rfl rfl (g := (mkF m 43 #[.val (.ref a1), .val (.ref x), .val (.long q1), .second, .val (.ref pr), .val (.ref y)] [(.ref x), (.ref a1)])) rfl rfl (hb hby d10_43)
  refine Go.by (fun _ => st5 _) ?_
  have F6 : Exa Z h5 a1 "com/example/halyard/halyard/model/ReplaceOrder" := P0.wr W5
  have F7 : Fld Z h5 a1 "com/example/halyard/halyard/model/ReplaceOrder" "shares" "J" (.long (0 : Int64)) := P2.other W5 (Or.inr (slot_ne (Or.inr (hw _ (List.mem_of_getElem? (i := 65) rfl))) (Or.inr (hw _ (List.mem_of_getElem? (i := 63) rfl))) (by decide) (t := .long) (t' := (.object "java/lang/String")) (by decide) (by decide)))
  have F8 : Fld Z h5 a1 "com/example/halyard/halyard/model/ReplaceOrder" "price" "Lcom/example/halyard/halyard/model/Price;" .null := P3.other W5 (Or.inr (slot_ne (Or.inr (hw _ (List.mem_of_getElem? (i := 67) rfl))) (Or.inr (hw _ (List.mem_of_getElem? (i := 63) rfl))) (by decide) (t := (.object "com/example/halyard/halyard/model/Price")) (t' := (.object "java/lang/String")) (by decide) (by decide)))
  have F9 : Fld Z h5 a1 "com/example/halyard/halyard/model/ReplaceOrder" "newOrderId" "Ljava/lang/String;" .null := P4.other W5 (Or.inr (slot_ne (Or.inr (hw _ (List.mem_of_getElem? (i := 69) rfl))) (Or.inr (hw _ (List.mem_of_getElem? (i := 63) rfl))) (by decide) (t := (.object "java/lang/String")) (t' := (.object "java/lang/String")) (by decide) (by decide)))
  have O5 := O0.wr W5 ga
  have Z5 : n0 ≤ h5.size := Nat.le_trans Z0 (Keep.of_wr W5).1
  have K5 : Keep h0 h5 [a1] := (Keep.refl h0 [a1]).wr W5 (Or.inl (List.mem_of_getElem? (i := 0) rfl))
  have F10 : Fld Z h5 a1 "com/example/halyard/halyard/model/ReplaceOrder" "orderId" "Ljava/lang/String;" (.ref x) := P1.same W5
  have N5 := Fr.snoc X5 N4 ga
  show Go p e below P (T5.setTop (mkF m 46 #[.val (.ref a1), .val (.ref x), .val (.long q1), .second, .val (.ref pr), .val (.ref y)] []))
  refine Go.by (fun _ => XS.aloadN X5.here hx rfl (hb hby d10_46) rfl rfl) ?_
  show Go p e below P (T5.setTop (mkF m 47 #[.val (.ref a1), .val (.ref x), .val (.long q1), .second, .val (.ref pr), .val (.ref y)] [(.ref a1)]))
  refine Go.by (fun _ => XS.lloadN X5.here hx rfl (hb hby d10_47) rfl) ?_
  show Go p e below P (T5.setTop (mkF m 48 #[.val (.ref a1), .val (.ref x), .val (.long q1), .second, .val (.ref pr), .val (.ref y)] [(.long q1), (.ref a1)]))
  obtain ⟨T11, h11, X11, e11, W11, st11⟩ := putF X5 hx hZ hown (host := "") (Or.inl (hw _ (List.mem_of_getElem? (i := 64) rfl))) Via.refl e5 F7 F6 (Or.inr ⟨(hw _ (List.mem_of_getElem? (i := 65) rfl)), rfl, hnm⟩) (hw _ (List.mem_of_getElem? (i := 52) rfl)) (ty := .long) (by decide) rfl rfl (g := (mkF m 48 #[.val (.ref a1), .val (.ref x), .val (.long q1), .second, .val (.ref pr), .val (.ref y)] [(.long q1), (.ref a1)])) rfl rfl (hb hby d10_48)
  refine Go.by (fun _ => st11 _) ?_
  have F12 : Exa Z h11 a1 "com/example/halyard/halyard/model/ReplaceOrder" := F6.wr W11
  have F13 : Fld Z h11 a1 "com/example/halyard/halyard/model/ReplaceOrder" "price" "Lcom/example/halyard/halyard/model/Price;" .null := F8.other W11 (Or.inr (slot_ne (Or.inr (hw _ (List.mem_of_getElem? (i := 67) rfl))) (Or.inr (hw _ (List.mem_of_getElem? (i := 65) rfl))) (by decide) (t := (.object "com/example/halyard/halyard/model/Price")) (t' := .long) (by decide) (by decide)))
  have F14 : Fld Z h11 a1 "com/example/halyard/halyard/model/ReplaceOrder" "newOrderId" "Ljava/lang/String;" .null := F9.other W11 (Or.inr (slot_ne (Or.inr (hw _ (List.mem_of_getElem? (i := 69) rfl))) (Or.inr (hw _ (List.mem_of_getElem? (i := 65) rfl))) (by decide) (t := (.object "java/lang/String")) (t' := .long) (by decide) (by decide)))
  have F15 : Fld Z h11 a1 "com/example/halyard/halyard/model/ReplaceOrder" "orderId" "Ljava/lang/String;" (.ref x) := F10.other W11 (Or.inr (slot_ne (Or.inr (hw _ (List.mem_of_getElem? (i := 63) rfl))) (Or.inr (hw _ (List.mem_of_getElem? (i := 65) rfl))) (by decide) (t := (.object "java/lang/String")) (t' := .long) (by decide) (by decide)))
  have O11 := O5.wr W11 ga
  have Z11 : n0 ≤ h11.size := Nat.le_trans Z5 (Keep.of_wr W11).1
  have K11 : Keep h0 h11 [a1] := K5.wr W11 (Or.inl (List.mem_of_getElem? (i := 0) rfl))
  have F16 : Fld Z h11 a1 "com/example/halyard/halyard/model/ReplaceOrder" "shares" "J" (.long q1) := F7.same W11
  have N11 := Fr.snoc X11 N5 ga
  show Go p e below P (T11.setTop (mkF m 51 #[.val (.ref a1), .val (.ref x), .val (.long q1), .second, .val (.ref pr), .val (.ref y)] []))
  refine Go.by (fun _ => XS.aloadN X11.here hx rfl (hb hby d10_51) rfl rfl) ?_
  show Go p e below P (T11.setTop (mkF m 52 #[.val (.ref a1), .val (.ref x), .val (.long q1), .second, .val (.ref pr), .val (.ref y)] [(.ref a1)]))
  refine Go.by (fun _ => XS.aload X11.here hx rfl (hb hby d10_52) rfl rfl) ?_
  show Go p e below P (T11.setTop (mkF m 54 #[.val (.ref a1), .val (.ref x), .val (.long q1), .second, .val (.ref pr), .val (.ref y)] [(.ref pr), (.ref a1)]))
  obtain ⟨T17, h17, X17, e17, W17, st17⟩ := putF X11 hx hZ hown (host := "") (Or.inl (hw _ (List.mem_of_getElem? (i := 66) rfl))) Via.refl e11 F13 F12 (Or.inr ⟨(hw _ (List.mem_of_getElem? (i := 67) rfl)), rfl, hnm⟩) (hw _ (List.mem_of_getElem? (i := 52) rfl)) (ty := (.object "com/example/halyard/halyard/model/Price")) (by decide) rfl rfl (g := (mkF m 54 #[.val (.ref a1), .val (.ref x), .val (.long q1), .second, .val (.ref pr), .val (.ref y)] [(.ref pr), (.ref a1)])) rfl rfl (hb hby d10_54)
  refine Go.by (fun _ => st17 _) ?_
  have F18 : Exa Z h17 a1 "com/example/halyard/halyard/model/ReplaceOrder" := F12.wr W17
  have F19 : Fld Z h17 a1 "com/example/halyard/halyard/model/ReplaceOrder" "newOrderId" "Ljava/lang/String;" .null := F14.other W17 (Or.inr (slot_ne (Or.inr (hw _ (List.mem_of_getElem? (i := 69) rfl))) (Or.inr (hw _ (List.mem_of_getElem? (i := 67) rfl))) (by decide) (t := (.object "java/lang/String")) (t' := (.object "com/example/halyard/halyard/model/Price")) (by decide) (by decide)))
  have F20 : Fld Z h17 a1 "com/example/halyard/halyard/model/ReplaceOrder" "orderId" "Ljava/lang/String;" (.ref x) := F15.other W17 (Or.inr (slot_ne (Or.inr (hw _ (List.mem_of_getElem? (i := 63) rfl))) (Or.inr (hw _ (List.mem_of_getElem? (i := 67) rfl))) (by decide) (t := (.object "java/lang/String")) (t' := (.object "com/example/halyard/halyard/model/Price")) (by decide) (by decide)))
  have F21 : Fld Z h17 a1 "com/example/halyard/halyard/model/ReplaceOrder" "shares" "J" (.long q1) := F16.other W17 (Or.inr (slot_ne (Or.inr (hw _ (List.mem_of_getElem? (i := 65) rfl))) (Or.inr (hw _ (List.mem_of_getElem? (i := 67) rfl))) (by decide) (t := .long) (t' := (.object "com/example/halyard/halyard/model/Price")) (by decide) (by decide)))
  have O17 := O11.wr W17 ga
  have Z17 : n0 ≤ h17.size := Nat.le_trans Z11 (Keep.of_wr W17).1
  have K17 : Keep h0 h17 [a1] := K11.wr W17 (Or.inl (List.mem_of_getElem? (i := 0) rfl))
  have F22 : Fld Z h17 a1 "com/example/halyard/halyard/model/ReplaceOrder" "price" "Lcom/example/halyard/halyard/model/Price;" (.ref pr) := F13.same W17
  have N17 := Fr.snoc X17 N11 ga
  show Go p e below P (T17.setTop (mkF m 57 #[.val (.ref a1), .val (.ref x), .val (.long q1), .second, .val (.ref pr), .val (.ref y)] []))
  refine Go.by (fun _ => XS.aloadN X17.here hx rfl (hb hby d10_57) rfl rfl) ?_
  show Go p e below P (T17.setTop (mkF m 58 #[.val (.ref a1), .val (.ref x), .val (.long q1), .second, .val (.ref pr), .val (.ref y)] [(.ref a1)]))
  refine Go.by (fun _ => XS.aload X17.here hx rfl (hb hby d10_58) rfl rfl) ?_
  show Go p e below P (T17.setTop (mkF m 60 #[.val (.ref a1), .val (.ref x), .val (.long q1), .second, .val (.ref pr), .val (.ref y)] [(.ref y), (.ref a1)]))
  obtain ⟨T23, h23, X23, e23, W23, st23⟩ := putF X17 hx hZ hown (host := "") (Or.inl (hw _ (List.mem_of_getElem? (i := 68) rfl))) Via.refl e17 F19 F18 (Or.inr ⟨(hw _ (List.mem_of_getElem? (i := 69) rfl)), rfl, hnm⟩) (hw _ (List.mem_of_getElem? (i := 52) rfl)) (ty := (.object "java/lang/String")) (by decide) rfl rfl (g := (mkF m 60 #[.val (.ref a1), .val (.ref x), .val (.long q1), .second, .val (.ref pr), .val (.ref y)] [(.ref y), (.ref a1)])) rfl rfl (hb hby d10_60)
  refine Go.by (fun _ => st23 _) ?_
  have F24 : Exa Z h23 a1 "com/example/halyard/halyard/model/ReplaceOrder" := F18.wr W23
  have F25 : Fld Z h23 a1 "com/example/halyard/halyard/model/ReplaceOrder" "orderId" "Ljava/lang/String;" (.ref x) := F20.other W23 (Or.inr (slot_ne (Or.inr (hw _ (List.mem_of_getElem? (i := 63) rfl))) (Or.inr (hw _ (List.mem_of_getElem? (i := 69) rfl))) (by decide) (t := (.object "java/lang/String")) (t' := (.object "java/lang/String")) (by decide) (by decide)))
  have F26 : Fld Z h23 a1 "com/example/halyard/halyard/model/ReplaceOrder" "shares" "J" (.long q1) := F21.other W23 (Or.inr (slot_ne (Or.inr (hw _ (List.mem_of_getElem? (i := 65) rfl))) (Or.inr (hw _ (List.mem_of_getElem? (i := 69) rfl))) (by decide) (t := .long) (t' := (.object "java/lang/String")) (by decide) (by decide)))
  have F27 : Fld Z h23 a1 "com/example/halyard/halyard/model/ReplaceOrder" "price" "Lcom/example/halyard/halyard/model/Price;" (.ref pr) := F22.other W23 (Or.inr (slot_ne (Or.inr (hw _ (List.mem_of_getElem? (i := 67) rfl))) (Or.inr (hw _ (List.mem_of_getElem? (i := 69) rfl))) (by decide) (t := (.object "com/example/halyard/halyard/model/Price")) (t' := (.object "java/lang/String")) (by decide) (by decide)))
  have O23 := O17.wr W23 ga
  have Z23 : n0 ≤ h23.size := Nat.le_trans Z17 (Keep.of_wr W23).1
  have K23 : Keep h0 h23 [a1] := K17.wr W23 (Or.inl (List.mem_of_getElem? (i := 0) rfl))
  have F28 : Fld Z h23 a1 "com/example/halyard/halyard/model/ReplaceOrder" "newOrderId" "Ljava/lang/String;" (.ref y) := F19.same W23
  have N23 := Fr.snoc X23 N17 ga
  show Go p e below P (T23.setTop (mkF m 63 #[.val (.ref a1), .val (.ref x), .val (.long q1), .second, .val (.ref pr), .val (.ref y)] []))
  subst hP
  refine Go.retV X23 hx Bd.returns hlk (hb hby d10_63) (Nat.le_of_ble_eq_true rfl) (Nat.le_of_ble_eq_true rfl) ?_
  rw [e23]
  exact ⟨rfl, N23, K23, F25, F28⟩
theorem d15_0 : decode prog_54_method_2_code 0 = .ok (.aload_n 0, 1) := by decide +kernel
theorem d15_1 : decode prog_54_method_2_code 1 = .ok (.aload_n 1, 1) := by decide +kernel
theorem d15_2 : decode prog_54_method_2_code 2 = .ok (.lload_n 2, 1) := by decide +kernel
theorem d15_3 : decode prog_54_method_2_code 3 = .ok (.aload 4, 2) := by decide +kernel
theorem d15_5 : decode prog_54_method_2_code 5 = .ok (.aload_n 1, 1) := by decide +kernel
theorem d15_6 : decode prog_54_method_2_code 6 = .ok (.invokespecial 39, 3) := by decide +kernel
theorem d15_9 : decode prog_54_method_2_code 9 = .ok (.return_, 1) := by decide +kernel
theorem ef_ro3 (m : MethodId) (x0 : Addr) (x1 : Addr) (x2 : Int64) (x3 : Addr) : entryFrame m #[(.ref x0), (.ref x1), (.long x2), (.ref x3)] 5 = mkF m 0 #[.val (.ref x0), .val (.ref x1), .val (.long x2), .second, .val (.ref x3)] [] := by first | (simp [entryFrame, mkF, argsToLocals, Value.category]; done) | rfl
def Q_ro3 (Z : State) (zC : Int32) (a1 : Addr) (x : Addr) (q1 : Int64) (pr : Addr) (h0 : Heap) (n0 : Nat) (v : Option Value) (h : Heap) (L : List Loc) : Prop := v = none ∧ Fr n0 L ∧ Keep h0 h [a1] ∧ Fld Z h a1 "com/example/halyard/halyard/model/ReplaceOrder" "orderId" "Ljava/lang/String;" (.ref x) ∧ Fld Z h a1 "com/example/halyard/halyard/model/ReplaceOrder" "newOrderId" "Ljava/lang/String;" (.ref x)
set_option maxRecDepth 65536 in
set_option maxHeartbeats 40000000 in
theorem rm_ro3 (l : Launch) (Z : State) (a0 : Array Value) (hw : ∀ d ∈ tables_1, d.before a0 Z = true) (ws : List Jvm.Cond) (zC : Int32) (hG : Glob Z zC) (a1 : Addr) (x : Addr) (q1 : Int64) (pr : Addr) (h0 : Heap) (n0 : Nat) (Z0 : n0 ≤ h0.size) (O0 : Old Z n0 h0) (P0 : Exa Z h0 a1 "com/example/halyard/halyard/model/ReplaceOrder") (P1 : Fld Z h0 a1 "com/example/halyard/halyard/model/ReplaceOrder" "orderId" "Ljava/lang/String;" .null) (P2 : Fld Z h0 a1 "com/example/halyard/halyard/model/ReplaceOrder" "shares" "J" (.long (0 : Int64))) (P3 : Fld Z h0 a1 "com/example/halyard/halyard/model/ReplaceOrder" "price" "Lcom/example/halyard/halyard/model/Price;" .null) (P4 : Fld Z h0 a1 "com/example/halyard/halyard/model/ReplaceOrder" "newOrderId" "Ljava/lang/String;" .null) (ga : n0 ≤ a1) (hq : 0 < q1) :
    MetFree l (⟨"com/example/halyard/halyard/model/ReplaceOrder", "<init>", "(Ljava/lang/String;JLcom/example/halyard/halyard/model/Price;)V"⟩ : MethodName) (head1 (Jvm.Cond.code (⟨"com/example/halyard/halyard/model/ReplaceOrder", "<init>", "(Ljava/lang/String;JLcom/example/halyard/halyard/model/Price;)V"⟩ : MethodName) prog_54_method_2_code 5 none :: ws) ({ frames := 3, cells := 0, slots := 0, locals := 41 } : Room)) (fun a U => a = #[(.ref a1), (.ref x), (.long q1), (.ref pr)] ∧ Z.Warmed39 U.vm ∧ U.heap = h0) (fun _ _ _ _ _ => True) (fun _ U o U' => ∃ v L, o = .returned v ∧ Q_ro3 Z zC a1 x q1 pr h0 n0 v U'.heap L ∧ FrameEnd U o U' L ({ frames := 3, cells := 0, slots := 0, locals := 41 } : Room).cells ({ frames := 3, cells := 0, slots := 0, locals := 41 } : Room).slots) := by
  refine MetFree.of_bodySF (plainFor_of_name pn_5) hisR ?_
  intro p e s m args below meth c s₁ Bd hml0 hP hK
  obtain ⟨rfl, hZ, hh⟩ := hP
  have hx := Bd.exec
  have hby := Bd.bytes
  have hml : c.maxLocals = 5 := hml0
  have hown : s.vm.findClass "com/example/halyard/halyard/model/ReplaceOrder" = some m.cls := findClass_of_methodNamed Bd.named
  have hnm := (name_of_methodNamed Bd.named Bd.method).1
  have hlk : meth.locks = false := BodyLoose.notSynchronized Bd
  have X0 : Stand p l e ({ frames := 3, cells := 0, slots := 0, locals := 41 } : Room) s m #[(.ref a1), (.ref x), (.long q1), (.ref pr)] below meth c s₁ [] 0 0 := Stand.of_body Bd
  have e0 : s₁.heap = h0 := by rw [← hh, Bd.state]; rfl
  have N0 := Fr.nil n0
  obtain ⟨G0, own_cs⟩ := id hG
  show Go p e below (End s (Q_ro3 Z zC a1 x q1 pr h0 n0) ({ frames := 3, cells := 0, slots := 0, locals := 41 } : Room).cells ({ frames := 3, cells := 0, slots := 0, locals := 41 } : Room).slots) (s₁.setTop (entryFrame m #[(.ref a1), (.ref x), (.long q1), (.ref pr)] 5))
  rw [ef_ro3]
  generalize hP : End s (Q_ro3 Z zC a1 x q1 pr h0 n0) ({ frames := 3, cells := 0, slots := 0, locals := 41 } : Room).cells ({ frames := 3, cells := 0, slots := 0, locals := 41 } : Room).slots = P
  show Go p e below P (s₁.setTop (mkF m 0 #[.val (.ref a1), .val (.ref x), .val (.long q1), .second, .val (.ref pr)] []))
  refine Go.by (fun _ => XS.aloadN X0.here hx rfl (hb hby d15_0) rfl rfl) ?_
  show Go p e below P (s₁.setTop (mkF m 1 #[.val (.ref a1), .val (.ref x), .val (.long q1), .second, .val (.ref pr)] [(.ref a1)]))
  refine Go.by (fun _ => XS.aloadN X0.here hx rfl (hb hby d15_1) rfl rfl) ?_
  show Go p e below P (s₁.setTop (mkF m 2 #[.val (.ref a1), .val (.ref x), .val (.long q1), .second, .val (.ref pr)] [(.ref x), (.ref a1)]))
  refine Go.by (fun _ => XS.lloadN X0.here hx rfl (hb hby d15_2) rfl) ?_
  show Go p e below P (s₁.setTop (mkF m 3 #[.val (.ref a1), .val (.ref x), .val (.long q1), .second, .val (.ref pr)] [(.long q1), (.ref x), (.ref a1)]))
  refine Go.by (fun _ => XS.aload X0.here hx rfl (hb hby d15_3) rfl rfl) ?_
  show Go p e below P (s₁.setTop (mkF m 5 #[.val (.ref a1), .val (.ref x), .val (.long q1), .second, .val (.ref pr)] [(.ref pr), (.long q1), (.ref x), (.ref a1)]))
  refine Go.by (fun _ => XS.aloadN X0.here hx rfl (hb hby d15_5) rfl rfl) ?_
  show Go p e below P (s₁.setTop (mkF m 6 #[.val (.ref a1), .val (.ref x), .val (.long q1), .second, .val (.ref pr)] [(.ref x), (.ref pr), (.long q1), (.ref x), (.ref a1)]))
  obtain ⟨_, _, ⟨T1, L1, k1, n1⟩, -, X1, ⟨Lc1, hQ1, l1, y1, z1⟩, st1⟩ := X0.specialBack hx (y := (⟨"com/example/halyard/halyard/model/ReplaceOrder", "<init>", "(Ljava/lang/String;JLcom/example/halyard/halyard/model/Price;Ljava/lang/String;)V"⟩ : MethodName)) rfl hown (mvT hZ (hw _ (List.mem_of_getElem? (i := 88) rfl))) (mvT hZ (hw _ (List.mem_of_getElem? (i := 55) rfl))) (mvT hZ (hw _ (List.mem_of_getElem? (i := 56) rfl))) (by decide) (backOf (W := 0) (rm_ro4 l Z a0 hw [] zC hG a1 x q1 pr x h0 n0 Z0 O0 P0 P1 P2 P3 P4 ga hq) hZ (hw _ (List.mem_of_getElem? (i := 56) rfl)) (hw _ (List.mem_of_getElem? (i := 53) rfl)) (Nat.le_of_ble_eq_true rfl) (Nat.le_of_ble_eq_true rfl)) (g := (mkF m 6 #[.val (.ref a1), .val (.ref x), .val (.long q1), .second, .val (.ref pr)] [(.ref x), (.ref pr), (.long q1), (.ref x), (.ref a1)])) rfl (by rw [hml]; rfl) (Steps.refl _) (a := a1) (argsL := [(.ref x), (.long q1), (.ref pr), (.ref x)]) (rest := []) (lenOf pd_4 rfl) rfl (by show 2 * 0 + _ ≤ _; exact Nat.le_of_eq rfl) (hb hby d15_6) (fun _ _ => ⟨rfl, e0, (Nat.le_of_ble_eq_true rfl : 0 + 0 ≤ _), (Nat.le_of_ble_eq_true rfl : 0 + 0 ≤ _)⟩)
  dsimp only [Pt.U, Pt.locs, Pt.cells, Pt.slots] at X1 l1 y1 z1 st1 hQ1
  subst l1 y1 z1
  obtain ⟨rfl, Nq1, Kc1, F2, F3⟩ := hQ1
  have N1 := Fr.app N0 Nq1
  refine Go.by (fun _ k => st1.trans k) ?_
  have F4 : Exa Z T1.heap a1 "com/example/halyard/halyard/model/ReplaceOrder" := P0.keep Kc1
  have O1 := O0.keep Kc1 (allS ga all0)
  have Z1 : n0 ≤ T1.heap.size := Nat.le_trans Z0 Kc1.1
  have K1 : Keep h0 T1.heap [a1] := (Keep.refl h0 [a1]).trans Kc1 (allS (P := fun zz => zz ∈ [a1] ∨ h0.size ≤ zz) (Or.inl (List.mem_of_getElem? (i := 0) rfl)) all0)
  show Go p e below P (T1.setTop (mkF m 9 #[.val (.ref a1), .val (.ref x), .val (.long q1), .second, .val (.ref pr)] []))
  subst hP
  refine Go.retV X1 hx Bd.returns hlk (hb hby d15_9) (Nat.le_of_ble_eq_true rfl) (Nat.le_of_ble_eq_true rfl) ?_
  exact ⟨rfl, N1, K1, F2, F3⟩
theorem d12_0 : decode prog_54_method_3_code 0 = .ok (.aload_n 0, 1) := by decide +kernel
theorem d12_1 : decode prog_54_method_3_code 1 = .ok (.getfield 36, 3) := by decide +kernel
theorem d12_4 : decode prog_54_method_3_code 4 = .ok (.aload_n 0, 1) := by decide +kernel
theorem d12_5 : decode prog_54_method_3_code 5 = .ok (.getfield 22, 3) := by decide +kernel
theorem d12_8 : decode prog_54_method_3_code 8 = .ok (.invokevirtual 42, 3) := by decide +kernel
theorem d12_11 : decode prog_54_method_3_code 11 = .ok (.ifCond .ne 7, 3) := by decide +kernel
theorem d12_14 : decode prog_54_method_3_code 14 = .ok (.iconst 1, 1) := by decide +kernel
theorem d12_15 : decode prog_54_method_3_code 15 = .ok (.goto 4, 3) := by decide +kernel
theorem d12_18 : decode prog_54_method_3_code 18 = .ok (.iconst 0, 1) := by decide +kernel
theorem d12_19 : decode prog_54_method_3_code 19 = .ok (.ireturn, 1) := by decide +kernel
theorem ef_ren (m : MethodId) (x0 : Addr) : entryFrame m #[(.ref x0)] 1 = mkF m 0 #[.val (.ref x0)] [] := by first | (simp [entryFrame, mkF, argsToLocals, Value.category]; done) | rfl
def Q_ren (Z : State) (zC : Int32) (a1 : Addr) (x : Addr) (y : Addr) (tx : Addr) (ty : Addr) (cs : List Int32) (ds : List Int32) (r : Int32) (h0 : Heap) (n0 : Nat) (v : Option Value) (h : Heap) (L : List Loc) : Prop := v = some (.int r) ∧ Fr n0 L ∧ h = h0
set_option maxRecDepth 65536 in
set_option maxHeartbeats 40000000 in
theorem rm_ren (l : Launch) (Z : State) (a0 : Array Value) (hw : ∀ d ∈ tables_1, d.before a0 Z = true) (ws : List Jvm.Cond) (zC : Int32) (hG : Glob Z zC) (a1 : Addr) (x : Addr) (y : Addr) (tx : Addr) (ty : Addr) (cs : List Int32) (ds : List Int32) (r : Int32) (h0 : Heap) (n0 : Nat) (Z0 : n0 ≤ h0.size) (O0 : Old Z n0 h0) (P0 : Fld Z h0 a1 "com/example/halyard/halyard/model/ReplaceOrder" "orderId" "Ljava/lang/String;" (.ref x)) (P1 : Fld Z h0 a1 "com/example/halyard/halyard/model/ReplaceOrder" "newOrderId" "Ljava/lang/String;" (.ref y)) (P2 : Str Z h0 x tx cs) (P3 : Str Z h0 y ty ds) (hr : r = if ds = cs then 0 else 1) :
    MetFree l (⟨"com/example/halyard/halyard/model/ReplaceOrder", "renames", "()Z"⟩ : MethodName) (head1 (Jvm.Cond.code (⟨"com/example/halyard/halyard/model/ReplaceOrder", "renames", "()Z"⟩ : MethodName) prog_54_method_3_code 1 (some .boolean) :: ws) ({ frames := 2, cells := 0, slots := 0, locals := 28 } : Room)) (fun a U => a = #[(.ref a1)] ∧ Z.Warmed39 U.vm ∧ U.heap = h0) (fun _ _ _ _ _ => True) (fun _ U o U' => ∃ v L, o = .returned v ∧ Q_ren Z zC a1 x y tx ty cs ds r h0 n0 v U'.heap L ∧ FrameEnd U o U' L ({ frames := 2, cells := 0, slots := 0, locals := 28 } : Room).cells ({ frames := 2, cells := 0, slots := 0, locals := 28 } : Room).slots) := by
  refine MetFree.of_bodySF (plainFor_of_name pn_5) hisR ?_
  intro p e s m args below meth c s₁ Bd hml0 hP hK
  obtain ⟨rfl, hZ, hh⟩ := hP
  have hx := Bd.exec
  have hby := Bd.bytes
  have hml : c.maxLocals = 1 := hml0
  have hown : s.vm.findClass "com/example/halyard/halyard/model/ReplaceOrder" = some m.cls := findClass_of_methodNamed Bd.named
  have hnm := (name_of_methodNamed Bd.named Bd.method).1
  have hlk : meth.locks = false := BodyLoose.notSynchronized Bd
  have X0 : Stand p l e ({ frames := 2, cells := 0, slots := 0, locals := 28 } : Room) s m #[(.ref a1)] below meth c s₁ [] 0 0 := Stand.of_body Bd
  have e0 : s₁.heap = h0 := by rw [← hh, Bd.state]; rfl
  have N0 := Fr.nil n0
  obtain ⟨G0, own_cs⟩ := id hG
  show Go p e below (End s (Q_ren Z zC a1 x y tx ty cs ds r h0 n0) ({ frames := 2, cells := 0, slots := 0, locals := 28 } : Room).cells ({ frames := 2, cells := 0, slots := 0, locals := 28 } : Room).slots) (s₁.setTop (entryFrame m #[(.ref a1)] 1))
  rw [ef_ren]
  generalize hP : End s (Q_ren Z zC a1 x y tx ty cs ds r h0 n0) ({ frames := 2, cells := 0, slots := 0, locals := 28 } : Room).cells ({ frames := 2, cells := 0, slots := 0, locals := 28 } : Room).slots = P
  show Go p e below P (s₁.setTop (mkF m 0 #[.val (.ref a1)] []))
  refine Go.by (fun _ => XS.aloadN X0.here hx rfl (hb hby d12_0) rfl rfl) ?_
  show Go p e below P (s₁.setTop (mkF m 1 #[.val (.ref a1)] [(.ref a1)]))
  obtain ⟨T1, X1, e1, st1⟩ := getF X0 hx hZ hown (host := "") (Or.inl (hw _ (List.mem_of_getElem? (i := 68) rfl))) Via.refl e0 P1 (g := (mkF m 1 #[.val (.ref a1)] [(.ref a1)])) rfl rfl (hb hby d12_1)
  refine Go.by (fun _ => st1 _) ?_
  show Go p e below P (T1.setTop (mkF m 4 #[.val (.ref a1)] [(.ref y)]))
  refine Go.by (fun _ => XS.aloadN X1.here hx rfl (hb hby d12_4) rfl rfl) ?_
  show Go p e below P (T1.setTop (mkF m 5 #[.val (.ref a1)] [(.ref a1), (.ref y)]))
  obtain ⟨T2, X2, e2, st2⟩ := getF X1 hx hZ hown (host := "") (Or.inl (hw _ (List.mem_of_getElem? (i := 62) rfl))) Via.refl e1 P0 (g := (mkF m 5 #[.val (.ref a1)] [(.ref a1), (.ref y)])) rfl rfl (hb hby d12_5)
  refine Go.by (fun _ => st2 _) ?_
  show Go p e below P (T2.setTop (mkF m 8 #[.val (.ref a1)] [(.ref x), (.ref y)]))
  obtain ⟨cq3, kq3, qa3, qb3, qc3⟩ := isOf hZ e2 P3.exa
  obtain ⟨_, _, ⟨T3, L3, k3, n3⟩, -, X3, ⟨Lc3, hQ3, l3, y3, z3⟩, st3⟩ := X2.virtualBack hx (y := (⟨"java/lang/String", "equals", "(Ljava/lang/Object;)Z"⟩ : MethodName)) (z := (⟨"java/lang/String", "equals", "(Ljava/lang/Object;)Z"⟩ : MethodName)) hown (mvT hZ (hw _ (List.mem_of_getElem? (i := 75) rfl))) (mvT hZ (hw _ (List.mem_of_getElem? (i := 76) rfl))) (notFace_of_selects (args := #[]) (mvT hZ (hw _ (List.mem_of_getElem? (i := 78) rfl)))) (mvT hZ (hw _ (List.mem_of_getElem? (i := 78) rfl))) (mvT hZ (hw _ (List.mem_of_getElem? (i := 77) rfl))) (by decide) (own_eqW (W := 0) hZ (own_wordsEq hw) (hw _ (List.mem_of_getElem? (i := 6) rfl)) P3 P2 (G0.ext O0.2) own_cs (Nat.le_of_ble_eq_true rfl) (Nat.le_of_ble_eq_true rfl)) qa3 qc3 (g := (mkF m 8 #[.val (.ref a1)] [(.ref x), (.ref y)])) rfl (by rw [hml]; rfl) (Steps.refl _) (argsL := [(.ref x)]) (rest := []) (lenOf pd_5 rfl) rfl (by show 2 * 0 + _ ≤ _; exact Nat.le_of_eq rfl) (hb hby d12_8) (fun _ _ => ⟨rfl, e2, (Nat.le_of_ble_eq_true rfl : 0 + 0 ≤ _), (Nat.le_of_ble_eq_true rfl : 0 + 0 ≤ _)⟩)
  dsimp only [Pt.U, Pt.locs, Pt.cells, Pt.slots] at X3 l3 y3 z3 st3 hQ3
  subst l3 y3 z3
  obtain ⟨hor3, rfl, eq3⟩ := hQ3
  have N3 := Fr.app N0 (Fr.nil n0)
  rcases hor3 with ⟨rfl, hcs3⟩ | ⟨rfl, hcs3⟩
  · refine Go.by (fun _ k => st3.trans k) ?_
    show Go p e below P (T3.setTop (mkF m 11 #[.val (.ref a1)] [(.int (1 : Int32))]))
    have hc11 : ¬ ((1 : Int32) = (0 : Int32)) := by decide
    refine Go.by (fun _ => XS.ifYes X3.here hx rfl (pc0 := 11) (pc' := 18) rfl (hb hby d12_11) rfl ((if0 _ _).trans (feq hc11).2) (by decide) (by decide)) ?_
    show Go p e below P (T3.setTop (mkF m 18 #[.val (.ref a1)] []))
    refine Go.by (fun _ => XS.iconst X3.here hx rfl (hb hby d12_18)) ?_
    show Go p e below P (T3.setTop (mkF m 19 #[.val (.ref a1)] [(.int (0 : Int32))]))
    subst hP
    refine Go.retZ X3 hx (t := .boolean) Bd.returns (by simp) hlk (hb hby d12_19) (Nat.le_of_ble_eq_true rfl) (Nat.le_of_ble_eq_true rfl) ?_
    rw [eq3]
    exact ⟨by simp [hr, own_n1, own_n0, hcs3], N3, rfl⟩
  · refine Go.by (fun _ k => st3.trans k) ?_
    show Go p e below P (T3.setTop (mkF m 11 #[.val (.ref a1)] [(.int (0 : Int32))]))
    have hc11 : (0 : Int32) = (0 : Int32) := by decide
    refine Go.by (fun _ => XS.ifNo X3.here hx rfl (hb hby d12_11) rfl ((if0 _ _).trans (teq hc11).2)) ?_
    show Go p e below P (T3.setTop (mkF m 14 #[.val (.ref a1)] []))
    refine Go.by (fun _ => XS.iconst X3.here hx rfl (hb hby d12_14)) ?_
    show Go p e below P (T3.setTop (mkF m 15 #[.val (.ref a1)] [(.int (1 : Int32))]))
    refine Go.by (fun _ => XS.goto X3.here hx rfl (pc0 := 15) (pc' := 19) rfl (hb hby d12_15) (by decide) (by decide)) ?_
    show Go p e below P (T3.setTop (mkF m 19 #[.val (.ref a1)] [(.int (1 : Int32))]))
    subst hP
    refine Go.retZ X3 hx (t := .boolean) Bd.returns (by simp) hlk (hb hby d12_19) (Nat.le_of_ble_eq_true rfl) (Nat.le_of_ble_eq_true rfl) ?_
    rw [eq3]
    exact ⟨by simp [hr, own_n1, own_n0, hcs3], N3, rfl⟩
theorem ef_law (m : MethodId) (x0 : Int32) (x1 : Int32) (x2 : Int32) (x3 : Int64) (x4 : Int64) : entryFrame m #[(.int x0), (.int x1), (.int x2), (.long x3), (.long x4)] maxLocals = mkF m 0 #[.val (.int x0), .val (.int x1), .val (.int x2), .val (.long x3), .second, .val (.long x4), .second, .unset, .unset, .unset, .unset, .unset, .unset, .unset, .unset, .unset, .unset, .unset, .unset, .unset] [] := by first | (simp [entryFrame, mkF, argsToLocals, Value.category, maxLocals]; done) | rfl
def Q_law (Z : State) (zC : Int32) (p0 : Int32) (p1 : Int32) (p2 : Int32) (q3 : Int64) (q5 : Int64) (h0 : Heap) (n0 : Nat) (v : Option Value) (h : Heap) (L : List Loc) : Prop := v = some (.int 1) ∧ Fr n0 L
set_option maxRecDepth 65536 in
set_option maxHeartbeats 40000000 in
theorem rm_law (l : Launch) (Z : State) (a0 : Array Value) (hw : ∀ d ∈ tables_1, d.before a0 Z = true) (ws : List Jvm.Cond) (zC : Int32) (hG : Glob Z zC) (p0 : Int32) (p1 : Int32) (p2 : Int32) (q3 : Int64) (q5 : Int64) (h0 : Heap) (n0 : Nat) (Z0 : n0 ≤ h0.size) (O0 : Old Z n0 h0) :
    MetFree l x (head1 (Jvm.Cond.code x code maxLocals ret :: ws) room_1) (fun a U => a = #[(.int p0), (.int p1), (.int p2), (.long q3), (.long q5)] ∧ Z.Warmed39 U.vm ∧ U.heap = h0 ∧ CHv Z consts_1 U.vm h0) (fun _ _ _ _ _ => True) (fun _ U o U' => ∃ v L, o = .returned v ∧ Q_law Z zC p0 p1 p2 q3 q5 h0 n0 v U'.heap L ∧ CHr Z consts_1 U.vm U.heap U'.vm U'.heap ∧ ReturnedEndW U o U' L 14 29) := by
  refine MetFree.of_bodySF (plainFor_of_name pn_1) hisR ?_
  intro p e s m args below meth c s₁ Bd hml0 hP hK
  obtain ⟨rfl, hZ, hh, C0⟩ := hP
  have hx := Bd.exec
  have hby := Bd.bytes
  have hml : c.maxLocals = 20 := hml0
  have hown : s.vm.findClass "com/example/halyard/halyard/model/ReplaceOrderRenamesPinLaw" = some m.cls := findClass_of_methodNamed Bd.named
  have hnm := (name_of_methodNamed Bd.named Bd.method).1
  have hlk : meth.locks = false := BodyLoose.notSynchronized Bd
  have X0 : Stand p l e room_1 (s.setVm s.vm) m #[(.int p0), (.int p1), (.int p2), (.long q3), (.long q5)] below meth c s₁ [] 0 0 := Stand.of_body Bd
  have e0 : s₁.heap = h0 := by rw [← hh, Bd.state]; rfl
  have N0 := Fr.nil n0
  obtain ⟨G0, own_cs⟩ := id hG
  have hS : s.Since s.vm 0 := (State.WarmedH.refl s).since 0
  have hk : 0 ≤ h0.size := Nat.zero_le _
  have R0 : CHr Z consts_1 s.vm h0 s.vm h0 := CHr.refl C0
  show Go p e below (EndC Z consts_1 s (Q_law Z zC p0 p1 p2 q3 q5 h0 n0) 14 29) (s₁.setTop (entryFrame m #[(.int p0), (.int p1), (.int p2), (.long q3), (.long q5)] maxLocals))
  rw [ef_law]
  generalize hP : EndC Z consts_1 s (Q_law Z zC p0 p1 p2 q3 q5 h0 n0) 14 29 = P
  show Go p e below P (s₁.setTop (mkF m 0 #[.val (.int p0), .val (.int p1), .val (.int p2), .val (.long q3), .second, .val (.long q5), .second, .unset, .unset, .unset, .unset, .unset, .unset, .unset, .unset, .unset, .unset, .unset, .unset, .unset] []))
  refine Go.by (fun _ => XS.iloadN X0.here hx rfl (hb hby at_0) rfl) ?_
  show Go p e below P (s₁.setTop (mkF m 1 #[.val (.int p0), .val (.int p1), .val (.int p2), .val (.long q3), .second, .val (.long q5), .second, .unset, .unset, .unset, .unset, .unset, .unset, .unset, .unset, .unset, .unset, .unset, .unset, .unset] [(.int p0)]))
  refine Go.by (fun _ => XS.sipush X0.here hx rfl (hb hby at_1)) ?_
  show Go p e below P (s₁.setTop (mkF m 4 #[.val (.int p0), .val (.int p1), .val (.int p2), .val (.long q3), .second, .val (.long q5), .second, .unset, .unset, .unset, .unset, .unset, .unset, .unset, .unset, .unset, .unset, .unset, .unset, .unset] [(.int (255 : Int32)), (.int p0)]))
  refine Go.by (fun _ => XS.iand X0.here hx rfl (hb hby at_4) rfl) ?_
  show Go p e below P (s₁.setTop (mkF m 5 #[.val (.int p0), .val (.int p1), .val (.int p2), .val (.long q3), .second, .val (.long q5), .second, .unset, .unset, .unset, .unset, .unset, .unset, .unset, .unset, .unset, .unset, .unset, .unset, .unset] [(.int (p0 &&& (255 : Int32)))]))
  refine Go.by (fun _ => XS.i2c X0.here hx rfl (hb hby at_5) rfl) ?_
  show Go p e below P (s₁.setTop (mkF m 6 #[.val (.int p0), .val (.int p1), .val (.int p2), .val (.long q3), .second, .val (.long q5), .second, .unset, .unset, .unset, .unset, .unset, .unset, .unset, .unset, .unset, .unset, .unset, .unset, .unset] [(.int (((p0 &&& (255 : Int32))).toUInt32.toUInt16.toUInt32.toInt32))]))
  generalize hv_c0 : (((p0 &&& (255 : Int32))).toUInt32.toUInt16.toUInt32.toInt32) = c0
  refine Go.by (fun _ => XS.istore X0.here hx rfl (hb hby at_6) rfl (l' := #[.val (.int p0), .val (.int p1), .val (.int p2), .val (.long q3), .second, .val (.long q5), .second, .val (.int c0), .unset, .unset, .unset, .unset, .unset, .unset, .unset, .unset, .unset, .unset, .unset, .unset]) rfl) ?_
  show Go p e below P (s₁.setTop (mkF m 8 #[.val (.int p0), .val (.int p1), .val (.int p2), .val (.long q3), .second, .val (.long q5), .second, .val (.int c0), .unset, .unset, .unset, .unset, .unset, .unset, .unset, .unset, .unset, .unset, .unset, .unset] []))
  have hr0 : ¬ c0 < 0 ∧ ¬ (255 : Int32) < c0 := by rw [← hv_c0]; exact own_chr _
  refine Go.by (fun _ => XS.iloadN X0.here hx rfl (hb hby at_8) rfl) ?_
  show Go p e below P (s₁.setTop (mkF m 9 #[.val (.int p0), .val (.int p1), .val (.int p2), .val (.long q3), .second, .val (.long q5), .second, .val (.int c0), .unset, .unset, .unset, .unset, .unset, .unset, .unset, .unset, .unset, .unset, .unset, .unset] [(.int p0)]))
  refine Go.by (fun _ => XS.bipush X0.here hx rfl (hb hby at_9)) ?_
  show Go p e below P (s₁.setTop (mkF m 11 #[.val (.int p0), .val (.int p1), .val (.int p2), .val (.long q3), .second, .val (.long q5), .second, .val (.int c0), .unset, .unset, .unset, .unset, .unset, .unset, .unset, .unset, .unset, .unset, .unset, .unset] [(.int (8 : Int32)), (.int p0)]))
  refine Go.by (fun _ => XS.iushr X0.here hx rfl (hb hby at_11) rfl) ?_
  show Go p e below P (s₁.setTop (mkF m 12 #[.val (.int p0), .val (.int p1), .val (.int p2), .val (.long q3), .second, .val (.long q5), .second, .val (.int c0), .unset, .unset, .unset, .unset, .unset, .unset, .unset, .unset, .unset, .unset, .unset, .unset] [(.int (((p0).toUInt32 >>> ((8 : Int32) &&& 31).toUInt32).toInt32))]))
  refine Go.by (fun _ => XS.sipush X0.here hx rfl (hb hby at_12)) ?_
  show Go p e below P (s₁.setTop (mkF m 15 #[.val (.int p0), .val (.int p1), .val (.int p2), .val (.long q3), .second, .val (.long q5), .second, .val (.int c0), .unset, .unset, .unset, .unset, .unset, .unset, .unset, .unset, .unset, .unset, .unset, .unset] [(.int (255 : Int32)), (.int (((p0).toUInt32 >>> ((8 : Int32) &&& 31).toUInt32).toInt32))]))
  refine Go.by (fun _ => XS.iand X0.here hx rfl (hb hby at_15) rfl) ?_
  show Go p e below P (s₁.setTop (mkF m 16 #[.val (.int p0), .val (.int p1), .val (.int p2), .val (.long q3), .second, .val (.long q5), .second, .val (.int c0), .unset, .unset, .unset, .unset, .unset, .unset, .unset, .unset, .unset, .unset, .unset, .unset] [(.int ((((p0).toUInt32 >>> ((8 : Int32) &&& 31).toUInt32).toInt32) &&& (255 : Int32)))]))
  refine Go.by (fun _ => XS.i2c X0.here hx rfl (hb hby at_16) rfl) ?_
  show Go p e below P (s₁.setTop (mkF m 17 #[.val (.int p0), .val (.int p1), .val (.int p2), .val (.long q3), .second, .val (.long q5), .second, .val (.int c0), .unset, .unset, .unset, .unset, .unset, .unset, .unset, .unset, .unset, .unset, .unset, .unset] [(.int ((((((p0).toUInt32 >>> ((8 : Int32) &&& 31).toUInt32).toInt32) &&& (255 : Int32))).toUInt32.toUInt16.toUInt32.toInt32))]))
  generalize hv_c1 : ((((((p0).toUInt32 >>> ((8 : Int32) &&& 31).toUInt32).toInt32) &&& (255 : Int32))).toUInt32.toUInt16.toUInt32.toInt32) = c1
  refine Go.by (fun _ => XS.istore X0.here hx rfl (hb hby at_17) rfl (l' := #[.val (.int p0), .val (.int p1), .val (.int p2), .val (.long q3), .second, .val (.long q5), .second, .val (.int c0), .val (.int c1), .unset, .unset, .unset, .unset, .unset, .unset, .unset, .unset, .unset, .unset, .unset]) rfl) ?_
  show Go p e below P (s₁.setTop (mkF m 19 #[.val (.int p0), .val (.int p1), .val (.int p2), .val (.long q3), .second, .val (.long q5), .second, .val (.int c0), .val (.int c1), .unset, .unset, .unset, .unset, .unset, .unset, .unset, .unset, .unset, .unset, .unset] []))
  have hr1 : ¬ c1 < 0 ∧ ¬ (255 : Int32) < c1 := by rw [← hv_c1]; exact own_chr _
  refine Go.by (fun _ => XS.iloadN X0.here hx rfl (hb hby at_19) rfl) ?_
  show Go p e below P (s₁.setTop (mkF m 20 #[.val (.int p0), .val (.int p1), .val (.int p2), .val (.long q3), .second, .val (.long q5), .second, .val (.int c0), .val (.int c1), .unset, .unset, .unset, .unset, .unset, .unset, .unset, .unset, .unset, .unset, .unset] [(.int p1)]))
  refine Go.by (fun _ => XS.iconst X0.here hx rfl (hb hby at_20)) ?_
  show Go p e below P (s₁.setTop (mkF m 21 #[.val (.int p0), .val (.int p1), .val (.int p2), .val (.long q3), .second, .val (.long q5), .second, .val (.int c0), .val (.int c1), .unset, .unset, .unset, .unset, .unset, .unset, .unset, .unset, .unset, .unset, .unset] [(.int (1 : Int32)), (.int p1)]))
  refine Go.by (fun _ => XS.iand X0.here hx rfl (hb hby at_21) rfl) ?_
  show Go p e below P (s₁.setTop (mkF m 22 #[.val (.int p0), .val (.int p1), .val (.int p2), .val (.long q3), .second, .val (.long q5), .second, .val (.int c0), .val (.int c1), .unset, .unset, .unset, .unset, .unset, .unset, .unset, .unset, .unset, .unset, .unset] [(.int (p1 &&& (1 : Int32)))]))
  have J38 : ∀ (d0 : Int32) (hr2 : ¬ d0 < 0 ∧ ¬ (255 : Int32) < d0), Go p e below P (s₁.setTop (mkF m 38 #[.val (.int p0), .val (.int p1), .val (.int p2), .val (.long q3), .second, .val (.long q5), .second, .val (.int c0), .val (.int c1), .unset, .unset, .unset, .unset, .unset, .unset, .unset, .unset, .unset, .unset, .unset] [(.int d0)])) := by
    intro d0 hr2
    refine Go.by (fun _ => XS.istore X0.here hx rfl (hb hby at_38) rfl (l' := #[.val (.int p0), .val (.int p1), .val (.int p2), .val (.long q3), .second, .val (.long q5), .second, .val (.int c0), .val (.int c1), .val (.int d0), .unset, .unset, .unset, .unset, .unset, .unset, .unset, .unset, .unset, .unset]) rfl) ?_
    show Go p e below P (s₁.setTop (mkF m 40 #[.val (.int p0), .val (.int p1), .val (.int p2), .val (.long q3), .second, .val (.long q5), .second, .val (.int c0), .val (.int c1), .val (.int d0), .unset, .unset, .unset, .unset, .unset, .unset, .unset, .unset, .unset, .unset] []))
    refine Go.by (fun _ => XS.iloadN X0.here hx rfl (hb hby at_40) rfl) ?_
    show Go p e below P (s₁.setTop (mkF m 41 #[.val (.int p0), .val (.int p1), .val (.int p2), .val (.long q3), .second, .val (.long q5), .second, .val (.int c0), .val (.int c1), .val (.int d0), .unset, .unset, .unset, .unset, .unset, .unset, .unset, .unset, .unset, .unset] [(.int p1)]))
    refine Go.by (fun _ => XS.sipush X0.here hx rfl (hb hby at_41)) ?_
    show Go p e below P (s₁.setTop (mkF m 44 #[.val (.int p0), .val (.int p1), .val (.int p2), .val (.long q3), .second, .val (.long q5), .second, .val (.int c0), .val (.int c1), .val (.int d0), .unset, .unset, .unset, .unset, .unset, .unset, .unset, .unset, .unset, .unset] [(.int (512 : Int32)), (.int p1)]))
    refine Go.by (fun _ => XS.iand X0.here hx rfl (hb hby at_44) rfl) ?_
    show Go p e below P (s₁.setTop (mkF m 45 #[.val (.int p0), .val (.int p1), .val (.int p2), .val (.long q3), .second, .val (.long q5), .second, .val (.int c0), .val (.int c1), .val (.int d0), .unset, .unset, .unset, .unset, .unset, .unset, .unset, .unset, .unset, .unset] [(.int (p1 &&& (512 : Int32)))]))
    have J62 : ∀ (d1 : Int32) (hr3 : ¬ d1 < 0 ∧ ¬ (255 : Int32) < d1), Go p e below P (s₁.setTop (mkF m 62 #[.val (.int p0), .val (.int p1), .val (.int p2), .val (.long q3), .second, .val (.long q5), .second, .val (.int c0), .val (.int c1), .val (.int d0), .unset, .unset, .unset, .unset, .unset, .unset, .unset, .unset, .unset, .unset] [(.int d1)])) := by
      intro d1 hr3
      refine Go.by (fun _ => XS.istore X0.here hx rfl (hb hby at_62) rfl (l' := #[.val (.int p0), .val (.int p1), .val (.int p2), .val (.long q3), .second, .val (.long q5), .second, .val (.int c0), .val (.int c1), .val (.int d0), .val (.int d1), .unset, .unset, .unset, .unset, .unset, .unset, .unset, .unset, .unset]) rfl) ?_
      show Go p e below P (s₁.setTop (mkF m 64 #[.val (.int p0), .val (.int p1), .val (.int p2), .val (.long q3), .second, .val (.long q5), .second, .val (.int c0), .val (.int c1), .val (.int d0), .val (.int d1), .unset, .unset, .unset, .unset, .unset, .unset, .unset, .unset, .unset] []))
      refine Go.by (fun _ => XS.iloadN X0.here hx rfl (hb hby at_64) rfl) ?_
      show Go p e below P (s₁.setTop (mkF m 65 #[.val (.int p0), .val (.int p1), .val (.int p2), .val (.long q3), .second, .val (.long q5), .second, .val (.int c0), .val (.int c1), .val (.int d0), .val (.int d1), .unset, .unset, .unset, .unset, .unset, .unset, .unset, .unset, .unset] [(.int p2)]))
      refine Go.by (fun _ => X0.ldcInt hx hown (mvT hZ (hw _ (List.mem_of_getElem? (i := 0) rfl))) (g := (mkF m 65 #[.val (.int p0), .val (.int p1), .val (.int p2), .val (.long q3), .second, .val (.long q5), .second, .val (.int c0), .val (.int c1), .val (.int d0), .val (.int d1), .unset, .unset, .unset, .unset, .unset, .unset, .unset, .unset, .unset] [(.int p2)])) rfl (hb hby at_65) _) ?_
      show Go p e below P (s₁.setTop (mkF m 67 #[.val (.int p0), .val (.int p1), .val (.int p2), .val (.long q3), .second, .val (.long q5), .second, .val (.int c0), .val (.int c1), .val (.int d0), .val (.int d1), .unset, .unset, .unset, .unset, .unset, .unset, .unset, .unset, .unset] [(.int (2147483647 : Int32)), (.int p2)]))
      refine Go.by (fun _ => XS.iand X0.here hx rfl (hb hby at_67) rfl) ?_
      show Go p e below P (s₁.setTop (mkF m 68 #[.val (.int p0), .val (.int p1), .val (.int p2), .val (.long q3), .second, .val (.long q5), .second, .val (.int c0), .val (.int c1), .val (.int d0), .val (.int d1), .unset, .unset, .unset, .unset, .unset, .unset, .unset, .unset, .unset] [(.int (p2 &&& (2147483647 : Int32)))]))
      refine Go.by (fun _ => XS.iconst X0.here hx rfl (hb hby at_68)) ?_
      show Go p e below P (s₁.setTop (mkF m 69 #[.val (.int p0), .val (.int p1), .val (.int p2), .val (.long q3), .second, .val (.long q5), .second, .val (.int c0), .val (.int c1), .val (.int d0), .val (.int d1), .unset, .unset, .unset, .unset, .unset, .unset, .unset, .unset, .unset] [(.int (3 : Int32)), (.int (p2 &&& (2147483647 : Int32)))]))
      refine Go.by (fun _ => iremM X0 hx rfl (hb hby at_69) rfl (by decide)) ?_
      show Go p e below P (s₁.setTop (mkF m 70 #[.val (.int p0), .val (.int p1), .val (.int p2), .val (.long q3), .second, .val (.long q5), .second, .val (.int c0), .val (.int c1), .val (.int d0), .val (.int d1), .unset, .unset, .unset, .unset, .unset, .unset, .unset, .unset, .unset] [(.int ((p2 &&& (2147483647 : Int32)) % (3 : Int32)))]))
      generalize hv_l1 : ((p2 &&& (2147483647 : Int32)) % (3 : Int32)) = l1
      refine Go.by (fun _ => XS.istore X0.here hx rfl (hb hby at_70) rfl (l' := #[.val (.int p0), .val (.int p1), .val (.int p2), .val (.long q3), .second, .val (.long q5), .second, .val (.int c0), .val (.int c1), .val (.int d0), .val (.int d1), .val (.int l1), .unset, .unset, .unset, .unset, .unset, .unset, .unset, .unset]) rfl) ?_
      show Go p e below P (s₁.setTop (mkF m 72 #[.val (.int p0), .val (.int p1), .val (.int p2), .val (.long q3), .second, .val (.long q5), .second, .val (.int c0), .val (.int c1), .val (.int d0), .val (.int d1), .val (.int l1), .unset, .unset, .unset, .unset, .unset, .unset, .unset, .unset] []))
      have hl1 : 0 ≤ l1.toInt ∧ l1.toInt < 3 := by rw [← hv_l1]; exact own_mod3 _
      refine Go.by (fun _ => XS.iloadN X0.here hx rfl (hb hby at_72) rfl) ?_
      show Go p e below P (s₁.setTop (mkF m 73 #[.val (.int p0), .val (.int p1), .val (.int p2), .val (.long q3), .second, .val (.long q5), .second, .val (.int c0), .val (.int c1), .val (.int d0), .val (.int d1), .val (.int l1), .unset, .unset, .unset, .unset, .unset, .unset, .unset, .unset] [(.int p2)]))
      refine Go.by (fun _ => XS.bipush X0.here hx rfl (hb hby at_73)) ?_
      show Go p e below P (s₁.setTop (mkF m 75 #[.val (.int p0), .val (.int p1), .val (.int p2), .val (.long q3), .second, .val (.long q5), .second, .val (.int c0), .val (.int c1), .val (.int d0), .val (.int d1), .val (.int l1), .unset, .unset, .unset, .unset, .unset, .unset, .unset, .unset] [(.int (8 : Int32)), (.int p2)]))
      refine Go.by (fun _ => XS.iushr X0.here hx rfl (hb hby at_75) rfl) ?_
      show Go p e below P (s₁.setTop (mkF m 76 #[.val (.int p0), .val (.int p1), .val (.int p2), .val (.long q3), .second, .val (.long q5), .second, .val (.int c0), .val (.int c1), .val (.int d0), .val (.int d1), .val (.int l1), .unset, .unset, .unset, .unset, .unset, .unset, .unset, .unset] [(.int (((p2).toUInt32 >>> ((8 : Int32) &&& 31).toUInt32).toInt32))]))
      refine Go.by (fun _ => XS.iconst X0.here hx rfl (hb hby at_76)) ?_
      show Go p e below P (s₁.setTop (mkF m 77 #[.val (.int p0), .val (.int p1), .val (.int p2), .val (.long q3), .second, .val (.long q5), .second, .val (.int c0), .val (.int c1), .val (.int d0), .val (.int d1), .val (.int l1), .unset, .unset, .unset, .unset, .unset, .unset, .unset, .unset] [(.int (1 : Int32)), (.int (((p2).toUInt32 >>> ((8 : Int32) &&& 31).toUInt32).toInt32))]))
      refine Go.by (fun _ => XS.iand X0.here hx rfl (hb hby at_77) rfl) ?_
      show Go p e below P (s₁.setTop (mkF m 78 #[.val (.int p0), .val (.int p1), .val (.int p2), .val (.long q3), .second, .val (.long q5), .second, .val (.int c0), .val (.int c1), .val (.int d0), .val (.int d1), .val (.int l1), .unset, .unset, .unset, .unset, .unset, .unset, .unset, .unset] [(.int ((((p2).toUInt32 >>> ((8 : Int32) &&& 31).toUInt32).toInt32) &&& (1 : Int32)))]))
      have J92 : ∀ (l2 : Int32) (hl2 : 0 ≤ l2.toInt ∧ l2.toInt < 3), Go p e below P (s₁.setTop (mkF m 92 #[.val (.int p0), .val (.int p1), .val (.int p2), .val (.long q3), .second, .val (.long q5), .second, .val (.int c0), .val (.int c1), .val (.int d0), .val (.int d1), .val (.int l1), .unset, .unset, .unset, .unset, .unset, .unset, .unset, .unset] [(.int l2)])) := by
        intro l2 hl2
        refine Go.by (fun _ => XS.istore X0.here hx rfl (hb hby at_92) rfl (l' := #[.val (.int p0), .val (.int p1), .val (.int p2), .val (.long q3), .second, .val (.long q5), .second, .val (.int c0), .val (.int c1), .val (.int d0), .val (.int d1), .val (.int l1), .val (.int l2), .unset, .unset, .unset, .unset, .unset, .unset, .unset]) rfl) ?_
        show Go p e below P (s₁.setTop (mkF m 94 #[.val (.int p0), .val (.int p1), .val (.int p2), .val (.long q3), .second, .val (.long q5), .second, .val (.int c0), .val (.int c1), .val (.int d0), .val (.int d1), .val (.int l1), .val (.int l2), .unset, .unset, .unset, .unset, .unset, .unset, .unset] []))
        refine Go.by (fun _ => XS.iloadN X0.here hx rfl (hb hby at_94) rfl) ?_
        show Go p e below P (s₁.setTop (mkF m 95 #[.val (.int p0), .val (.int p1), .val (.int p2), .val (.long q3), .second, .val (.long q5), .second, .val (.int c0), .val (.int c1), .val (.int d0), .val (.int d1), .val (.int l1), .val (.int l2), .unset, .unset, .unset, .unset, .unset, .unset, .unset] [(.int p1)]))
        refine Go.by (fun _ => XS.bipush X0.here hx rfl (hb hby at_95)) ?_
        show Go p e below P (s₁.setTop (mkF m 97 #[.val (.int p0), .val (.int p1), .val (.int p2), .val (.long q3), .second, .val (.long q5), .second, .val (.int c0), .val (.int c1), .val (.int d0), .val (.int d1), .val (.int l1), .val (.int l2), .unset, .unset, .unset, .unset, .unset, .unset, .unset] [(.int (20 : Int32)), (.int p1)]))
        refine Go.by (fun _ => XS.iushr X0.here hx rfl (hb hby at_97) rfl) ?_
        show Go p e below P (s₁.setTop (mkF m 98 #[.val (.int p0), .val (.int p1), .val (.int p2), .val (.long q3), .second, .val (.long q5), .second, .val (.int c0), .val (.int c1), .val (.int d0), .val (.int d1), .val (.int l1), .val (.int l2), .unset, .unset, .unset, .unset, .unset, .unset, .unset] [(.int (((p1).toUInt32 >>> ((20 : Int32) &&& 31).toUInt32).toInt32))]))
        refine Go.by (fun _ => XS.iconst X0.here hx rfl (hb hby at_98)) ?_
        show Go p e below P (s₁.setTop (mkF m 99 #[.val (.int p0), .val (.int p1), .val (.int p2), .val (.long q3), .second, .val (.long q5), .second, .val (.int c0), .val (.int c1), .val (.int d0), .val (.int d1), .val (.int l1), .val (.int l2), .unset, .unset, .unset, .unset, .unset, .unset, .unset] [(.int (1 : Int32)), (.int (((p1).toUInt32 >>> ((20 : Int32) &&& 31).toUInt32).toInt32))]))
        refine Go.by (fun _ => XS.iand X0.here hx rfl (hb hby at_99) rfl) ?_
        show Go p e below P (s₁.setTop (mkF m 100 #[.val (.int p0), .val (.int p1), .val (.int p2), .val (.long q3), .second, .val (.long q5), .second, .val (.int c0), .val (.int c1), .val (.int d0), .val (.int d1), .val (.int l1), .val (.int l2), .unset, .unset, .unset, .unset, .unset, .unset, .unset] [(.int ((((p1).toUInt32 >>> ((20 : Int32) &&& 31).toUInt32).toInt32) &&& (1 : Int32)))]))
        have J108 : ∀ (kp : Int32) (hkp : kp = 0 ∨ kp = 1), Go p e below P (s₁.setTop (mkF m 108 #[.val (.int p0), .val (.int p1), .val (.int p2), .val (.long q3), .second, .val (.long q5), .second, .val (.int c0), .val (.int c1), .val (.int d0), .val (.int d1), .val (.int l1), .val (.int l2), .unset, .unset, .unset, .unset, .unset, .unset, .unset] [(.int kp)])) := by
          intro kp hkp
          refine Go.by (fun _ => XS.istore X0.here hx rfl (hb hby at_108) rfl (l' := #[.val (.int p0), .val (.int p1), .val (.int p2), .val (.long q3), .second, .val (.long q5), .second, .val (.int c0), .val (.int c1), .val (.int d0), .val (.int d1), .val (.int l1), .val (.int l2), .val (.int kp), .unset, .unset, .unset, .unset, .unset, .unset]) rfl) ?_
          show Go p e below P (s₁.setTop (mkF m 110 #[.val (.int p0), .val (.int p1), .val (.int p2), .val (.long q3), .second, .val (.long q5), .second, .val (.int c0), .val (.int c1), .val (.int d0), .val (.int d1), .val (.int l1), .val (.int l2), .val (.int kp), .unset, .unset, .unset, .unset, .unset, .unset] []))
          refine Go.by (fun _ => XS.iload X0.here hx rfl (hb hby at_110) rfl) ?_
          show Go p e below P (s₁.setTop (mkF m 112 #[.val (.int p0), .val (.int p1), .val (.int p2), .val (.long q3), .second, .val (.long q5), .second, .val (.int c0), .val (.int c1), .val (.int d0), .val (.int d1), .val (.int l1), .val (.int l2), .val (.int kp), .unset, .unset, .unset, .unset, .unset, .unset] [(.int l1)]))
          refine Go.by (fun _ => XS.iload X0.here hx rfl (hb hby at_112) rfl) ?_
          show Go p e below P (s₁.setTop (mkF m 114 #[.val (.int p0), .val (.int p1), .val (.int p2), .val (.long q3), .second, .val (.long q5), .second, .val (.int c0), .val (.int c1), .val (.int d0), .val (.int d1), .val (.int l1), .val (.int l2), .val (.int kp), .unset, .unset, .unset, .unset, .unset, .unset] [(.int c0), (.int l1)]))
          refine Go.by (fun _ => XS.iload X0.here hx rfl (hb hby at_114) rfl) ?_
          show Go p e below P (s₁.setTop (mkF m 116 #[.val (.int p0), .val (.int p1), .val (.int p2), .val (.long q3), .second, .val (.long q5), .second, .val (.int c0), .val (.int c1), .val (.int d0), .val (.int d1), .val (.int l1), .val (.int l2), .val (.int kp), .unset, .unset, .unset, .unset, .unset, .unset] [(.int c1), (.int c0), (.int l1)]))
          obtain ⟨_, _, ⟨T1, L1, k1, n1⟩, -, X1, hSc1, hgr1, ⟨Lc1, hQ1, l1, y1, z1, Cr1⟩, st1⟩ := callSS X0 hx (y := (⟨"com/example/halyard/halyard/model/ReplaceOrderRenamesPinLaw", "mk", "(ICC)Ljava/lang/String;"⟩ : MethodName)) hown (mvT hZ (hw _ (List.mem_of_getElem? (i := 1) rfl))) (mvT hZ (hw _ (List.mem_of_getElem? (i := 2) rfl))) (mvT hZ (hw _ (List.mem_of_getElem? (i := 3) rfl))) (mvT hZ (hw _ (List.mem_of_getElem? (i := 4) rfl))) (by decide) (backOfSH (W := 0) (rm_mk l Z a0 hw [] zC hG l1 c0 c1 h0 n0 Z0 O0  hr0 hr1) hZ (hw _ (List.mem_of_getElem? (i := 4) rfl)) (hw _ (List.mem_of_getElem? (i := 3) rfl)) (Nat.le_of_ble_eq_true rfl) (Nat.le_of_ble_eq_true rfl) (own_EW hw) C0) (g := (mkF m 116 #[.val (.int p0), .val (.int p1), .val (.int p2), .val (.long q3), .second, .val (.long q5), .second, .val (.int c0), .val (.int c1), .val (.int d0), .val (.int d1), .val (.int l1), .val (.int l2), .val (.int kp), .unset, .unset, .unset, .unset, .unset, .unset] [(.int c1), (.int c0), (.int l1)])) rfl (by rw [hml]; rfl) (argsL := [(.int l1), (.int c0), (.int c1)]) (rest := []) (lenOf pd_6 rfl) rfl (by show 2 * 0 + _ ≤ _; exact Nat.le_of_eq rfl) (hb hby at_116) (fun _ _ => ⟨rfl, e0, (Nat.le_of_ble_eq_true rfl : 0 + 6 ≤ _), (Nat.le_of_ble_eq_true rfl : 0 + 12 ≤ _)⟩)
          dsimp only [Pt.U, Pt.locs, Pt.cells, Pt.slots] at X1 l1 y1 z1 st1 hQ1 hSc1 hgr1 Cr1
          subst l1 y1 z1
          have hZo := hZ
          obtain ⟨X1, hS, hZ, hown⟩ := rebS hS (by rw [e0]; exact hk) X1 hSc1 hgr1 hZ hown
          have hk : T1.heap.size ≤ T1.heap.size := Nat.le_refl _
          have R1 := R0.trans Cr1
          have C1 := Cr1.1
          obtain ⟨r_1, t_1, rfl, Nq1, Kc1, F2⟩ := hQ1
          have N1 := Fr.app N0 Nq1
          refine Go.by (fun _ k => st1.trans k) ?_
          have O1 := O0.keep Kc1 all0
          have Z1 : n0 ≤ T1.heap.size := Nat.le_trans Z0 Kc1.1
          show Go p e below P (T1.setTop (mkF m 119 #[.val (.int p0), .val (.int p1), .val (.int p2), .val (.long q3), .second, .val (.long q5), .second, .val (.int c0), .val (.int c1), .val (.int d0), .val (.int d1), .val (.int l1), .val (.int l2), .val (.int kp), .unset, .unset, .unset, .unset, .unset, .unset] [(.ref r_1)]))
          refine Go.by (fun _ => XS.astore X1.here hx rfl (hb hby at_119) rfl rfl (l' := #[.val (.int p0), .val (.int p1), .val (.int p2), .val (.long q3), .second, .val (.long q5), .second, .val (.int c0), .val (.int c1), .val (.int d0), .val (.int d1), .val (.int l1), .val (.int l2), .val (.int kp), .val (.ref r_1), .unset, .unset, .unset, .unset, .unset]) rfl) ?_
          show Go p e below P (T1.setTop (mkF m 121 #[.val (.int p0), .val (.int p1), .val (.int p2), .val (.long q3), .second, .val (.long q5), .second, .val (.int c0), .val (.int c1), .val (.int d0), .val (.int d1), .val (.int l1), .val (.int l2), .val (.int kp), .val (.ref r_1), .unset, .unset, .unset, .unset, .unset] []))
          refine Go.by (fun _ => XS.iload X1.here hx rfl (hb hby at_121) rfl) ?_
          show Go p e below P (T1.setTop (mkF m 123 #[.val (.int p0), .val (.int p1), .val (.int p2), .val (.long q3), .second, .val (.long q5), .second, .val (.int c0), .val (.int c1), .val (.int d0), .val (.int d1), .val (.int l1), .val (.int l2), .val (.int kp), .val (.ref r_1), .unset, .unset, .unset, .unset, .unset] [(.int l2)]))
          refine Go.by (fun _ => XS.iload X1.here hx rfl (hb hby at_123) rfl) ?_
          show Go p e below P (T1.setTop (mkF m 125 #[.val (.int p0), .val (.int p1), .val (.int p2), .val (.long q3), .second, .val (.long q5), .second, .val (.int c0), .val (.int c1), .val (.int d0), .val (.int d1), .val (.int l1), .val (.int l2), .val (.int kp), .val (.ref r_1), .unset, .unset, .unset, .unset, .unset] [(.int d0), (.int l2)]))
          refine Go.by (fun _ => XS.iload X1.here hx rfl (hb hby at_125) rfl) ?_
          show Go p e below P (T1.setTop (mkF m 127 #[.val (.int p0), .val (.int p1), .val (.int p2), .val (.long q3), .second, .val (.long q5), .second, .val (.int c0), .val (.int c1), .val (.int d0), .val (.int d1), .val (.int l1), .val (.int l2), .val (.int kp), .val (.ref r_1), .unset, .unset, .unset, .unset, .unset] [(.int d1), (.int d0), (.int l2)]))
          obtain ⟨_, _, ⟨T3, L3, k3, n3⟩, -, X3, hSc3, hgr3, ⟨Lc3, hQ3, l3, y3, z3, Cr3⟩, st3⟩ := callSS X1 hx (y := (⟨"com/example/halyard/halyard/model/ReplaceOrderRenamesPinLaw", "mk", "(ICC)Ljava/lang/String;"⟩ : MethodName)) hown (mvT hZ (hw _ (List.mem_of_getElem? (i := 1) rfl))) (mvT hZ (hw _ (List.mem_of_getElem? (i := 2) rfl))) (mvT hZ (hw _ (List.mem_of_getElem? (i := 3) rfl))) (mvT hZ (hw _ (List.mem_of_getElem? (i := 4) rfl))) (by decide) (backOfSH (W := 0) (rm_mk l Z a0 hw [] zC hG l2 d0 d1 T1.heap n0 Z1 O1  hr2 hr3) hZ (hw _ (List.mem_of_getElem? (i := 4) rfl)) (hw _ (List.mem_of_getElem? (i := 3) rfl)) (Nat.le_of_ble_eq_true rfl) (Nat.le_of_ble_eq_true rfl) (own_EW hw) C1) (g := (mkF m 127 #[.val (.int p0), .val (.int p1), .val (.int p2), .val (.long q3), .second, .val (.long q5), .second, .val (.int c0), .val (.int c1), .val (.int d0), .val (.int d1), .val (.int l1), .val (.int l2), .val (.int kp), .val (.ref r_1), .unset, .unset, .unset, .unset, .unset] [(.int d1), (.int d0), (.int l2)])) rfl (by rw [hml]; rfl) (argsL := [(.int l2), (.int d0), (.int d1)]) (rest := []) (lenOf pd_6 rfl) rfl (by show 2 * 0 + _ ≤ _; exact Nat.le_of_eq rfl) (hb hby at_127) (fun _ _ => ⟨rfl, rfl, (Nat.le_of_ble_eq_true rfl : 6 + 6 ≤ _), (Nat.le_of_ble_eq_true rfl : 12 + 12 ≤ _)⟩)
          dsimp only [Pt.U, Pt.locs, Pt.cells, Pt.slots] at X3 l3 y3 z3 st3 hQ3 hSc3 hgr3 Cr3
          subst l3 y3 z3
          have hZo := hZ
          obtain ⟨X3, hS, hZ, hown⟩ := rebS hS hk X3 hSc3 hgr3 hZ hown
          have hk : T3.heap.size ≤ T3.heap.size := Nat.le_refl _
          have R3 := R1.trans Cr3
          have C3 := Cr3.1
          obtain ⟨r_3, t_3, rfl, Nq3, Kc3, F4⟩ := hQ3
          have N3 := Fr.app N1 Nq3
          refine Go.by (fun _ k => st3.trans k) ?_
          have F5 : Str Z T3.heap r_1 t_1 (mkL l1 c0 c1) := F2.keep Kc3 nin0 nin0
          have O3 := O1.keep Kc3 all0
          have Z3 : n0 ≤ T3.heap.size := Nat.le_trans Z1 Kc3.1
          show Go p e below P (T3.setTop (mkF m 130 #[.val (.int p0), .val (.int p1), .val (.int p2), .val (.long q3), .second, .val (.long q5), .second, .val (.int c0), .val (.int c1), .val (.int d0), .val (.int d1), .val (.int l1), .val (.int l2), .val (.int kp), .val (.ref r_1), .unset, .unset, .unset, .unset, .unset] [(.ref r_3)]))
          refine Go.by (fun _ => XS.astore X3.here hx rfl (hb hby at_130) rfl rfl (l' := #[.val (.int p0), .val (.int p1), .val (.int p2), .val (.long q3), .second, .val (.long q5), .second, .val (.int c0), .val (.int c1), .val (.int d0), .val (.int d1), .val (.int l1), .val (.int l2), .val (.int kp), .val (.ref r_1), .val (.ref r_3), .unset, .unset, .unset, .unset]) rfl) ?_
          show Go p e below P (T3.setTop (mkF m 132 #[.val (.int p0), .val (.int p1), .val (.int p2), .val (.long q3), .second, .val (.long q5), .second, .val (.int c0), .val (.int c1), .val (.int d0), .val (.int d1), .val (.int l1), .val (.int l2), .val (.int kp), .val (.ref r_1), .val (.ref r_3), .unset, .unset, .unset, .unset] []))
          refine Go.by (fun _ => XS.lloadN X3.here hx rfl (hb hby at_132) rfl) ?_
          show Go p e below P (T3.setTop (mkF m 133 #[.val (.int p0), .val (.int p1), .val (.int p2), .val (.long q3), .second, .val (.long q5), .second, .val (.int c0), .val (.int c1), .val (.int d0), .val (.int d1), .val (.int l1), .val (.int l2), .val (.int kp), .val (.ref r_1), .val (.ref r_3), .unset, .unset, .unset, .unset] [(.long q3)]))
          refine Go.by (fun _ => X3.ldc2Long hx hown (mvT hZ (hw _ (List.mem_of_getElem? (i := 35) rfl))) (g := (mkF m 133 #[.val (.int p0), .val (.int p1), .val (.int p2), .val (.long q3), .second, .val (.long q5), .second, .val (.int c0), .val (.int c1), .val (.int d0), .val (.int d1), .val (.int l1), .val (.int l2), .val (.int kp), .val (.ref r_1), .val (.ref r_3), .unset, .unset, .unset, .unset] [(.long q3)])) rfl (hb hby at_133) _) ?_
          show Go p e below P (T3.setTop (mkF m 136 #[.val (.int p0), .val (.int p1), .val (.int p2), .val (.long q3), .second, .val (.long q5), .second, .val (.int c0), .val (.int c1), .val (.int d0), .val (.int d1), .val (.int l1), .val (.int l2), .val (.int kp), .val (.ref r_1), .val (.ref r_3), .unset, .unset, .unset, .unset] [(.long (4611686018427387903 : Int64)), (.long q3)]))
          refine Go.by (fun _ => XS.land X3.here hx rfl (hb hby at_136) rfl) ?_
          show Go p e below P (T3.setTop (mkF m 137 #[.val (.int p0), .val (.int p1), .val (.int p2), .val (.long q3), .second, .val (.long q5), .second, .val (.int c0), .val (.int c1), .val (.int d0), .val (.int d1), .val (.int l1), .val (.int l2), .val (.int kp), .val (.ref r_1), .val (.ref r_3), .unset, .unset, .unset, .unset] [(.long (q3 &&& (4611686018427387903 : Int64)))]))
          refine Go.by (fun _ => XS.lconst X3.here hx rfl (hb hby at_137)) ?_
          show Go p e below P (T3.setTop (mkF m 138 #[.val (.int p0), .val (.int p1), .val (.int p2), .val (.long q3), .second, .val (.long q5), .second, .val (.int c0), .val (.int c1), .val (.int d0), .val (.int d1), .val (.int l1), .val (.int l2), .val (.int kp), .val (.ref r_1), .val (.ref r_3), .unset, .unset, .unset, .unset] [(.long (1 : Int64)), (.long (q3 &&& (4611686018427387903 : Int64)))]))
          refine Go.by (fun _ => XS.ladd X3.here hx rfl (hb hby at_138) rfl) ?_
          show Go p e below P (T3.setTop (mkF m 139 #[.val (.int p0), .val (.int p1), .val (.int p2), .val (.long q3), .second, .val (.long q5), .second, .val (.int c0), .val (.int c1), .val (.int d0), .val (.int d1), .val (.int l1), .val (.int l2), .val (.int kp), .val (.ref r_1), .val (.ref r_3), .unset, .unset, .unset, .unset] [(.long ((q3 &&& (4611686018427387903 : Int64)) + (1 : Int64)))]))
          refine Go.by (fun _ => XS.lstore X3.here hx rfl (hb hby at_139) rfl (l' := #[.val (.int p0), .val (.int p1), .val (.int p2), .val (.long q3), .second, .val (.long q5), .second, .val (.int c0), .val (.int c1), .val (.int d0), .val (.int d1), .val (.int l1), .val (.int l2), .val (.int kp), .val (.ref r_1), .val (.ref r_3), .val (.long ((q3 &&& (4611686018427387903 : Int64)) + (1 : Int64))), .second, .unset, .unset]) rfl) ?_
          show Go p e below P (T3.setTop (mkF m 141 #[.val (.int p0), .val (.int p1), .val (.int p2), .val (.long q3), .second, .val (.long q5), .second, .val (.int c0), .val (.int c1), .val (.int d0), .val (.int d1), .val (.int l1), .val (.int l2), .val (.int kp), .val (.ref r_1), .val (.ref r_3), .val (.long ((q3 &&& (4611686018427387903 : Int64)) + (1 : Int64))), .second, .unset, .unset] []))
          obtain ⟨T6, h6, X6, e6, E6, A6, D6, -, st6⟩ := newO X3 hx hZ hown (hw _ (List.mem_of_getElem? (i := 36) rfl)) (hw _ (List.mem_of_getElem? (i := 37) rfl)) (hw _ (List.mem_of_getElem? (i := 38) rfl)) rfl (g := (mkF m 141 #[.val (.int p0), .val (.int p1), .val (.int p2), .val (.long q3), .second, .val (.long q5), .second, .val (.int c0), .val (.int c1), .val (.int d0), .val (.int d1), .val (.int l1), .val (.int l2), .val (.int kp), .val (.ref r_1), .val (.ref r_3), .val (.long ((q3 &&& (4611686018427387903 : Int64)) + (1 : Int64))), .second, .unset, .unset] [])) rfl (hb hby at_141) (Nat.le_of_ble_eq_true rfl) (Nat.le_of_ble_eq_true rfl)
          obtain ⟨b6, q6⟩ : ∃ z, z = T3.heap.size := ⟨_, rfl⟩
          rw [← q6] at A6 D6 st6
          refine Go.by (fun _ => st6 _) ?_
          have ne_r_1_b6 : r_1 ≠ b6 := Nat.ne_of_lt (Nat.lt_of_lt_of_le F5.ltx (Nat.le_of_eq q6.symm))
          have ne_t_1_b6 : t_1 ≠ b6 := Nat.ne_of_lt (Nat.lt_of_lt_of_le F5.ltt (Nat.le_of_eq q6.symm))
          have ne_r_3_b6 : r_3 ≠ b6 := Nat.ne_of_lt (Nat.lt_of_lt_of_le F4.ltx (Nat.le_of_eq q6.symm))
          have ne_t_3_b6 : t_3 ≠ b6 := Nat.ne_of_lt (Nat.lt_of_lt_of_le F4.ltt (Nat.le_of_eq q6.symm))
          have g_b6 : n0 ≤ b6 := Nat.le_trans Z3 (Nat.le_of_eq q6.symm)
          have F7 : Str Z h6 r_1 t_1 (mkL l1 c0 c1) := F5.ext E6
          have F8 : Str Z h6 r_3 t_3 (mkL l2 d0 d1) := F4.ext E6
          have O6 := O3.ext E6
          have R6 := R3.trans (CHr.ext E6 C3)
          have C6 := CHv.ext E6 C3
          have hk := Nat.le_trans hk E6.1
          have Z6 : n0 ≤ h6.size := Nat.le_trans Z3 E6.1
          have F9 : Fld Z h6 b6 "com/example/halyard/halyard/model/Price" "units" "J" (.long (0 : Int64)) := D6 (Or.inr (hw _ (List.mem_of_getElem? (i := 50) rfl))) (ty := .long) (by decide)
          show Go p e below P (T6.setTop (mkF m 144 #[.val (.int p0), .val (.int p1), .val (.int p2), .val (.long q3), .second, .val (.long q5), .second, .val (.int c0), .val (.int c1), .val (.int d0), .val (.int d1), .val (.int l1), .val (.int l2), .val (.int kp), .val (.ref r_1), .val (.ref r_3), .val (.long ((q3 &&& (4611686018427387903 : Int64)) + (1 : Int64))), .second, .unset, .unset] [(.ref b6)]))
          refine Go.by (fun _ => XS.dup X6.here hx rfl (hb hby at_144) rfl rfl) ?_
          show Go p e below P (T6.setTop (mkF m 145 #[.val (.int p0), .val (.int p1), .val (.int p2), .val (.long q3), .second, .val (.long q5), .second, .val (.int c0), .val (.int c1), .val (.int d0), .val (.int d1), .val (.int l1), .val (.int l2), .val (.int kp), .val (.ref r_1), .val (.ref r_3), .val (.long ((q3 &&& (4611686018427387903 : Int64)) + (1 : Int64))), .second, .unset, .unset] [(.ref b6), (.ref b6)]))
          refine Go.by (fun _ => XS.lload X6.here hx rfl (hb hby at_145) rfl) ?_
          show Go p e below P (T6.setTop (mkF m 147 #[.val (.int p0), .val (.int p1), .val (.int p2), .val (.long q3), .second, .val (.long q5), .second, .val (.int c0), .val (.int c1), .val (.int d0), .val (.int d1), .val (.int l1), .val (.int l2), .val (.int kp), .val (.ref r_1), .val (.ref r_3), .val (.long ((q3 &&& (4611686018427387903 : Int64)) + (1 : Int64))), .second, .unset, .unset] [(.long q5), (.ref b6), (.ref b6)]))
          refine Go.by (fun _ => X6.ldc2Long hx hown (mvT hZ (hw _ (List.mem_of_getElem? (i := 39) rfl))) (g := (mkF m 147 #[.val (.int p0), .val (.int p1), .val (.int p2), .val (.long q3), .second, .val (.long q5), .second, .val (.int c0), .val (.int c1), .val (.int d0), .val (.int d1), .val (.int l1), .val (.int l2), .val (.int kp), .val (.ref r_1), .val (.ref r_3), .val (.long ((q3 &&& (4611686018427387903 : Int64)) + (1 : Int64))), .second, .unset, .unset] [(.long q5), (.ref b6), (.ref b6)])) rfl (hb hby at_147) _) ?_
          show Go p e below P (T6.setTop (mkF m 150 #[.val (.int p0), .val (.int p1), .val (.int p2), .val (.long q3), .second, .val (.long q5), .second, .val (.int c0), .val (.int c1), .val (.int d0), .val (.int d1), .val (.int l1), .val (.int l2), .val (.int kp), .val (.ref r_1), .val (.ref r_3), .val (.long ((q3 &&& (4611686018427387903 : Int64)) + (1 : Int64))), .second, .unset, .unset] [(.long (9223372036854775807 : Int64)), (.long q5), (.ref b6), (.ref b6)]))
          refine Go.by (fun _ => XS.land X6.here hx rfl (hb hby at_150) rfl) ?_
          show Go p e below P (T6.setTop (mkF m 151 #[.val (.int p0), .val (.int p1), .val (.int p2), .val (.long q3), .second, .val (.long q5), .second, .val (.int c0), .val (.int c1), .val (.int d0), .val (.int d1), .val (.int l1), .val (.int l2), .val (.int kp), .val (.ref r_1), .val (.ref r_3), .val (.long ((q3 &&& (4611686018427387903 : Int64)) + (1 : Int64))), .second, .unset, .unset] [(.long (q5 &&& (9223372036854775807 : Int64))), (.ref b6), (.ref b6)]))
          obtain ⟨_, _, ⟨T10, L10, k10, n10⟩, -, X10, ⟨Lc10, hQ10, l10, y10, z10⟩, st10⟩ := X6.specialBack hx (y := (⟨"com/example/halyard/halyard/model/Price", "<init>", "(J)V"⟩ : MethodName)) rfl hown (mvT hZ (hw _ (List.mem_of_getElem? (i := 40) rfl))) (mvT hZ (hw _ (List.mem_of_getElem? (i := 41) rfl))) (mvT hZ (hw _ (List.mem_of_getElem? (i := 42) rfl))) (by decide) (backOf (W := 1) (rm_pri l Z a0 hw [] zC hG b6 ((q5 &&& (9223372036854775807 : Int64))) h6 n0 Z6 O6 A6 F9 g_b6 (own_pos q5)) hZ (hw _ (List.mem_of_getElem? (i := 42) rfl)) (hw _ (List.mem_of_getElem? (i := 38) rfl)) (Nat.le_of_ble_eq_true rfl) (Nat.le_of_ble_eq_true rfl)) (g := (mkF m 151 #[.val (.int p0), .val (.int p1), .val (.int p2), .val (.long q3), .second, .val (.long q5), .second, .val (.int c0), .val (.int c1), .val (.int d0), .val (.int d1), .val (.int l1), .val (.int l2), .val (.int kp), .val (.ref r_1), .val (.ref r_3), .val (.long ((q3 &&& (4611686018427387903 : Int64)) + (1 : Int64))), .second, .unset, .unset] [(.long (q5 &&& (9223372036854775807 : Int64))), (.ref b6), (.ref b6)])) rfl (by rw [hml]; rfl) (Steps.refl _) (a := b6) (argsL := [(.long (q5 &&& (9223372036854775807 : Int64)))]) (rest := [(.ref b6)]) (lenOf pd_7 rfl) rfl (by show 2 * 0 + _ ≤ _; exact Nat.le_of_eq rfl) (hb hby at_151) (fun _ _ => ⟨rfl, e6, (Nat.le_of_ble_eq_true rfl : 13 + 0 ≤ _), (Nat.le_of_ble_eq_true rfl : 25 + 0 ≤ _)⟩)
          dsimp only [Pt.U, Pt.locs, Pt.cells, Pt.slots] at X10 l10 y10 z10 st10 hQ10
          subst l10 y10 z10
          obtain ⟨rfl, Nq10, Kc10⟩ := hQ10
          have N10 := Fr.app N3 Nq10
          refine Go.by (fun _ k => st10.trans k) ?_
          have F11 : Str Z T10.heap r_1 t_1 (mkL l1 c0 c1) := F7.keep Kc10 (ninS ne_r_1_b6 nin0) (ninS ne_t_1_b6 nin0)
          have F12 : Str Z T10.heap r_3 t_3 (mkL l2 d0 d1) := F8.keep Kc10 (ninS ne_r_3_b6 nin0) (ninS ne_t_3_b6 nin0)
          have F13 : Exa Z T10.heap b6 "com/example/halyard/halyard/model/Price" := A6.keep Kc10
          have Sk10 := own_sk (ws := [b6]) C6 (allS (Safe.exa (EL := consts_1) hZ.alike A6 (by decide) (by decide)) all0)
          have R10 := R6.trans (CHr.keep Kc10 Sk10 C6)
          have C10 := CHv.keep Kc10 Sk10 C6
          have hk := Nat.le_trans hk Kc10.1
          have O10 := O6.keep Kc10 (allS g_b6 all0)
          have Z10 : n0 ≤ T10.heap.size := Nat.le_trans Z6 Kc10.1
          show Go p e below P (T10.setTop (mkF m 154 #[.val (.int p0), .val (.int p1), .val (.int p2), .val (.long q3), .second, .val (.long q5), .second, .val (.int c0), .val (.int c1), .val (.int d0), .val (.int d1), .val (.int l1), .val (.int l2), .val (.int kp), .val (.ref r_1), .val (.ref r_3), .val (.long ((q3 &&& (4611686018427387903 : Int64)) + (1 : Int64))), .second, .unset, .unset] [(.ref b6)]))
          refine Go.by (fun _ => XS.astore X10.here hx rfl (hb hby at_154) rfl rfl (l' := #[.val (.int p0), .val (.int p1), .val (.int p2), .val (.long q3), .second, .val (.long q5), .second, .val (.int c0), .val (.int c1), .val (.int d0), .val (.int d1), .val (.int l1), .val (.int l2), .val (.int kp), .val (.ref r_1), .val (.ref r_3), .val (.long ((q3 &&& (4611686018427387903 : Int64)) + (1 : Int64))), .second, .val (.ref b6), .unset]) rfl) ?_
          show Go p e below P (T10.setTop (mkF m 156 #[.val (.int p0), .val (.int p1), .val (.int p2), .val (.long q3), .second, .val (.long q5), .second, .val (.int c0), .val (.int c1), .val (.int d0), .val (.int d1), .val (.int l1), .val (.int l2), .val (.int kp), .val (.ref r_1), .val (.ref r_3), .val (.long ((q3 &&& (4611686018427387903 : Int64)) + (1 : Int64))), .second, .val (.ref b6), .unset] []))
          rcases hkp with rfl | rfl
          · show Go p e below P (T10.setTop (mkF m 156 #[.val (.int p0), .val (.int p1), .val (.int p2), .val (.long q3), .second, .val (.long q5), .second, .val (.int c0), .val (.int c1), .val (.int d0), .val (.int d1), .val (.int l1), .val (.int l2), .val (.int (0 : Int32)), .val (.ref r_1), .val (.ref r_3), .val (.long ((q3 &&& (4611686018427387903 : Int64)) + (1 : Int64))), .second, .val (.ref b6), .unset] []))
            refine Go.by (fun _ => XS.iload X10.here hx rfl (hb hby at_156) rfl) ?_
            show Go p e below P (T10.setTop (mkF m 158 #[.val (.int p0), .val (.int p1), .val (.int p2), .val (.long q3), .second, .val (.long q5), .second, .val (.int c0), .val (.int c1), .val (.int d0), .val (.int d1), .val (.int l1), .val (.int l2), .val (.int (0 : Int32)), .val (.ref r_1), .val (.ref r_3), .val (.long ((q3 &&& (4611686018427387903 : Int64)) + (1 : Int64))), .second, .val (.ref b6), .unset] [(.int (0 : Int32))]))
            have hc158 : (0 : Int32) = (0 : Int32) := by decide
            refine Go.by (fun _ => XS.ifYes X10.here hx rfl (pc0 := 158) (pc' := 186) rfl (hb hby at_158) rfl ((if0 _ _).trans (teq hc158).1) (by decide) (by decide)) ?_
            show Go p e below P (T10.setTop (mkF m 186 #[.val (.int p0), .val (.int p1), .val (.int p2), .val (.long q3), .second, .val (.long q5), .second, .val (.int c0), .val (.int c1), .val (.int d0), .val (.int d1), .val (.int l1), .val (.int l2), .val (.int (0 : Int32)), .val (.ref r_1), .val (.ref r_3), .val (.long ((q3 &&& (4611686018427387903 : Int64)) + (1 : Int64))), .second, .val (.ref b6), .unset] []))
            refine Go.by (fun _ => XS.iload X10.here hx rfl (hb hby at_186) rfl) ?_
            show Go p e below P (T10.setTop (mkF m 188 #[.val (.int p0), .val (.int p1), .val (.int p2), .val (.long q3), .second, .val (.long q5), .second, .val (.int c0), .val (.int c1), .val (.int d0), .val (.int d1), .val (.int l1), .val (.int l2), .val (.int (0 : Int32)), .val (.ref r_1), .val (.ref r_3), .val (.long ((q3 &&& (4611686018427387903 : Int64)) + (1 : Int64))), .second, .val (.ref b6), .unset] [(.int l1)]))
            refine Go.by (fun _ => XS.iload X10.here hx rfl (hb hby at_188) rfl) ?_
            show Go p e below P (T10.setTop (mkF m 190 #[.val (.int p0), .val (.int p1), .val (.int p2), .val (.long q3), .second, .val (.long q5), .second, .val (.int c0), .val (.int c1), .val (.int d0), .val (.int d1), .val (.int l1), .val (.int l2), .val (.int (0 : Int32)), .val (.ref r_1), .val (.ref r_3), .val (.long ((q3 &&& (4611686018427387903 : Int64)) + (1 : Int64))), .second, .val (.ref b6), .unset] [(.int l2), (.int l1)]))
            by_cases hc190 : l1 = l2
            · refine Go.by (fun _ => XS.icmpNo X10.here hx rfl (hb hby at_190) rfl (teq hc190).2) ?_
              show Go p e below P (T10.setTop (mkF m 193 #[.val (.int p0), .val (.int p1), .val (.int p2), .val (.long q3), .second, .val (.long q5), .second, .val (.int c0), .val (.int c1), .val (.int d0), .val (.int d1), .val (.int l1), .val (.int l2), .val (.int (0 : Int32)), .val (.ref r_1), .val (.ref r_3), .val (.long ((q3 &&& (4611686018427387903 : Int64)) + (1 : Int64))), .second, .val (.ref b6), .unset] []))
              refine Go.by (fun _ => XS.iload X10.here hx rfl (hb hby at_193) rfl) ?_
              show Go p e below P (T10.setTop (mkF m 195 #[.val (.int p0), .val (.int p1), .val (.int p2), .val (.long q3), .second, .val (.long q5), .second, .val (.int c0), .val (.int c1), .val (.int d0), .val (.int d1), .val (.int l1), .val (.int l2), .val (.int (0 : Int32)), .val (.ref r_1), .val (.ref r_3), .val (.long ((q3 &&& (4611686018427387903 : Int64)) + (1 : Int64))), .second, .val (.ref b6), .unset] [(.int l1)]))
              refine Go.by (fun _ => XS.iconst X10.here hx rfl (hb hby at_195)) ?_
              show Go p e below P (T10.setTop (mkF m 196 #[.val (.int p0), .val (.int p1), .val (.int p2), .val (.long q3), .second, .val (.long q5), .second, .val (.int c0), .val (.int c1), .val (.int d0), .val (.int d1), .val (.int l1), .val (.int l2), .val (.int (0 : Int32)), .val (.ref r_1), .val (.ref r_3), .val (.long ((q3 &&& (4611686018427387903 : Int64)) + (1 : Int64))), .second, .val (.ref b6), .unset] [(.int (1 : Int32)), (.int l1)]))
              by_cases hc196 : l1 < (1 : Int32)
              · refine Go.by (fun _ => XS.icmpYes X10.here hx rfl (pc0 := 196) (pc' := 206) rfl (hb hby at_196) rfl (tlt hc196).1 (by decide) (by decide)) ?_
                show Go p e below P (T10.setTop (mkF m 206 #[.val (.int p0), .val (.int p1), .val (.int p2), .val (.long q3), .second, .val (.long q5), .second, .val (.int c0), .val (.int c1), .val (.int d0), .val (.int d1), .val (.int l1), .val (.int l2), .val (.int (0 : Int32)), .val (.ref r_1), .val (.ref r_3), .val (.long ((q3 &&& (4611686018427387903 : Int64)) + (1 : Int64))), .second, .val (.ref b6), .unset] []))
                refine Go.by (fun _ => XS.iload X10.here hx rfl (hb hby at_206) rfl) ?_
                show Go p e below P (T10.setTop (mkF m 208 #[.val (.int p0), .val (.int p1), .val (.int p2), .val (.long q3), .second, .val (.long q5), .second, .val (.int c0), .val (.int c1), .val (.int d0), .val (.int d1), .val (.int l1), .val (.int l2), .val (.int (0 : Int32)), .val (.ref r_1), .val (.ref r_3), .val (.long ((q3 &&& (4611686018427387903 : Int64)) + (1 : Int64))), .second, .val (.ref b6), .unset] [(.int l1)]))
                refine Go.by (fun _ => XS.iconst X10.here hx rfl (hb hby at_208)) ?_
                show Go p e below P (T10.setTop (mkF m 209 #[.val (.int p0), .val (.int p1), .val (.int p2), .val (.long q3), .second, .val (.long q5), .second, .val (.int c0), .val (.int c1), .val (.int d0), .val (.int d1), .val (.int l1), .val (.int l2), .val (.int (0 : Int32)), .val (.ref r_1), .val (.ref r_3), .val (.long ((q3 &&& (4611686018427387903 : Int64)) + (1 : Int64))), .second, .val (.ref b6), .unset] [(.int (2 : Int32)), (.int l1)]))
                by_cases hc209 : l1 < (2 : Int32)
                · refine Go.by (fun _ => XS.icmpYes X10.here hx rfl (pc0 := 209) (pc' := 223) rfl (hb hby at_209) rfl (tlt hc209).1 (by decide) (by decide)) ?_
                  show Go p e below P (T10.setTop (mkF m 223 #[.val (.int p0), .val (.int p1), .val (.int p2), .val (.long q3), .second, .val (.long q5), .second, .val (.int c0), .val (.int c1), .val (.int d0), .val (.int d1), .val (.int l1), .val (.int l2), .val (.int (0 : Int32)), .val (.ref r_1), .val (.ref r_3), .val (.long ((q3 &&& (4611686018427387903 : Int64)) + (1 : Int64))), .second, .val (.ref b6), .unset] []))
                  refine Go.by (fun _ => XS.iconst X10.here hx rfl (hb hby at_223)) ?_
                  show Go p e below P (T10.setTop (mkF m 224 #[.val (.int p0), .val (.int p1), .val (.int p2), .val (.long q3), .second, .val (.long q5), .second, .val (.int c0), .val (.int c1), .val (.int d0), .val (.int d1), .val (.int l1), .val (.int l2), .val (.int (0 : Int32)), .val (.ref r_1), .val (.ref r_3), .val (.long ((q3 &&& (4611686018427387903 : Int64)) + (1 : Int64))), .second, .val (.ref b6), .unset] [(.int (0 : Int32))]))
                  refine Go.by (fun _ => XS.istore X10.here hx rfl (hb hby at_224) rfl (l' := #[.val (.int p0), .val (.int p1), .val (.int p2), .val (.long q3), .second, .val (.long q5), .second, .val (.int c0), .val (.int c1), .val (.int d0), .val (.int d1), .val (.int l1), .val (.int l2), .val (.int (0 : Int32)), .val (.ref r_1), .val (.ref r_3), .val (.long ((q3 &&& (4611686018427387903 : Int64)) + (1 : Int64))), .second, .val (.ref b6), .val (.int (0 : Int32))]) rfl) ?_
                  show Go p e below P (T10.setTop (mkF m 226 #[.val (.int p0), .val (.int p1), .val (.int p2), .val (.long q3), .second, .val (.long q5), .second, .val (.int c0), .val (.int c1), .val (.int d0), .val (.int d1), .val (.int l1), .val (.int l2), .val (.int (0 : Int32)), .val (.ref r_1), .val (.ref r_3), .val (.long ((q3 &&& (4611686018427387903 : Int64)) + (1 : Int64))), .second, .val (.ref b6), .val (.int (0 : Int32))] []))
                  obtain ⟨T14, h14, X14, e14, E14, A14, D14, -, st14⟩ := newO X10 hx hZ hown (hw _ (List.mem_of_getElem? (i := 51) rfl)) (hw _ (List.mem_of_getElem? (i := 52) rfl)) (hw _ (List.mem_of_getElem? (i := 53) rfl)) rfl (g := (mkF m 226 #[.val (.int p0), .val (.int p1), .val (.int p2), .val (.long q3), .second, .val (.long q5), .second, .val (.int c0), .val (.int c1), .val (.int d0), .val (.int d1), .val (.int l1), .val (.int l2), .val (.int (0 : Int32)), .val (.ref r_1), .val (.ref r_3), .val (.long ((q3 &&& (4611686018427387903 : Int64)) + (1 : Int64))), .second, .val (.ref b6), .val (.int (0 : Int32))] [])) rfl (hb hby at_226) (Nat.le_of_ble_eq_true rfl) (Nat.le_of_ble_eq_true rfl)
                  obtain ⟨b14, q14⟩ : ∃ z, z = T10.heap.size := ⟨_, rfl⟩
                  rw [← q14] at A14 D14 st14
                  refine Go.by (fun _ => st14 _) ?_
                  have ne_r_1_b14 : r_1 ≠ b14 := Nat.ne_of_lt (Nat.lt_of_lt_of_le F11.ltx (Nat.le_of_eq q14.symm))
                  have ne_t_1_b14 : t_1 ≠ b14 := Nat.ne_of_lt (Nat.lt_of_lt_of_le F11.ltt (Nat.le_of_eq q14.symm))
                  have ne_r_3_b14 : r_3 ≠ b14 := Nat.ne_of_lt (Nat.lt_of_lt_of_le F12.ltx (Nat.le_of_eq q14.symm))
                  have ne_t_3_b14 : t_3 ≠ b14 := Nat.ne_of_lt (Nat.lt_of_lt_of_le F12.ltt (Nat.le_of_eq q14.symm))
                  have ne_b6_b14 : b6 ≠ b14 := Nat.ne_of_lt (Nat.lt_of_lt_of_le F13.lt (Nat.le_of_eq q14.symm))
                  have g_b14 : n0 ≤ b14 := Nat.le_trans Z10 (Nat.le_of_eq q14.symm)
                  have F15 : Str Z h14 r_1 t_1 (mkL l1 c0 c1) := F11.ext E14
                  have F16 : Str Z h14 r_3 t_3 (mkL l2 d0 d1) := F12.ext E14
                  have F17 : Exa Z h14 b6 "com/example/halyard/halyard/model/Price" := F13.ext E14
                  have O14 := O10.ext E14
                  have R14 := R10.trans (CHr.ext E14 C10)
                  have C14 := CHv.ext E14 C10
                  have hk := Nat.le_trans hk E14.1
                  have Z14 : n0 ≤ h14.size := Nat.le_trans Z10 E14.1
                  have F18 : Fld Z h14 b14 "com/example/halyard/halyard/model/ReplaceOrder" "orderId" "Ljava/lang/String;" .null := D14 (Or.inr (hw _ (List.mem_of_getElem? (i := 63) rfl))) (ty := (.object "java/lang/String")) (by decide)
                  have F19 : Fld Z h14 b14 "com/example/halyard/halyard/model/ReplaceOrder" "shares" "J" (.long (0 : Int64)) := D14 (Or.inr (hw _ (List.mem_of_getElem? (i := 65) rfl))) (ty := .long) (by decide)
                  have F20 : Fld Z h14 b14 "com/example/halyard/halyard/model/ReplaceOrder" "price" "Lcom/example/halyard/halyard/model/Price;" .null := D14 (Or.inr (hw _ (List.mem_of_getElem? (i := 67) rfl))) (ty := (.object "com/example/halyard/halyard/model/Price")) (by decide)
                  have F21 : Fld Z h14 b14 "com/example/halyard/halyard/model/ReplaceOrder" "newOrderId" "Ljava/lang/String;" .null := D14 (Or.inr (hw _ (List.mem_of_getElem? (i := 69) rfl))) (ty := (.object "java/lang/String")) (by decide)
                  show Go p e below P (T14.setTop (mkF m 229 #[.val (.int p0), .val (.int p1), .val (.int p2), .val (.long q3), .second, .val (.long q5), .second, .val (.int c0), .val (.int c1), .val (.int d0), .val (.int d1), .val (.int l1), .val (.int l2), .val (.int (0 : Int32)), .val (.ref r_1), .val (.ref r_3), .val (.long ((q3 &&& (4611686018427387903 : Int64)) + (1 : Int64))), .second, .val (.ref b6), .val (.int (0 : Int32))] [(.ref b14)]))
                  refine Go.by (fun _ => XS.dup X14.here hx rfl (hb hby at_229) rfl rfl) ?_
                  show Go p e below P (T14.setTop (mkF m 230 #[.val (.int p0), .val (.int p1), .val (.int p2), .val (.long q3), .second, .val (.long q5), .second, .val (.int c0), .val (.int c1), .val (.int d0), .val (.int d1), .val (.int l1), .val (.int l2), .val (.int (0 : Int32)), .val (.ref r_1), .val (.ref r_3), .val (.long ((q3 &&& (4611686018427387903 : Int64)) + (1 : Int64))), .second, .val (.ref b6), .val (.int (0 : Int32))] [(.ref b14), (.ref b14)]))
                  refine Go.by (fun _ => XS.aload X14.here hx rfl (hb hby at_230) rfl rfl) ?_
                  show Go p e below P (T14.setTop (mkF m 232 #[.val (.int p0), .val (.int p1), .val (.int p2), .val (.long q3), .second, .val (.long q5), .second, .val (.int c0), .val (.int c1), .val (.int d0), .val (.int d1), .val (.int l1), .val (.int l2), .val (.int (0 : Int32)), .val (.ref r_1), .val (.ref r_3), .val (.long ((q3 &&& (4611686018427387903 : Int64)) + (1 : Int64))), .second, .val (.ref b6), .val (.int (0 : Int32))] [(.ref r_1), (.ref b14), (.ref b14)]))
                  refine Go.by (fun _ => XS.lload X14.here hx rfl (hb hby at_232) rfl) ?_
                  show Go p e below P (T14.setTop (mkF m 234 #[.val (.int p0), .val (.int p1), .val (.int p2), .val (.long q3), .second, .val (.long q5), .second, .val (.int c0), .val (.int c1), .val (.int d0), .val (.int d1), .val (.int l1), .val (.int l2), .val (.int (0 : Int32)), .val (.ref r_1), .val (.ref r_3), .val (.long ((q3 &&& (4611686018427387903 : Int64)) + (1 : Int64))), .second, .val (.ref b6), .val (.int (0 : Int32))] [(.long ((q3 &&& (4611686018427387903 : Int64)) + (1 : Int64))), (.ref r_1), (.ref b14), (.ref b14)]))
                  refine Go.by (fun _ => XS.aload X14.here hx rfl (hb hby at_234) rfl rfl) ?_
                  show Go p e below P (T14.setTop (mkF m 236 #[.val (.int p0), .val (.int p1), .val (.int p2), .val (.long q3), .second, .val (.long q5), .second, .val (.int c0), .val (.int c1), .val (.int d0), .val (.int d1), .val (.int l1), .val (.int l2), .val (.int (0 : Int32)), .val (.ref r_1), .val (.ref r_3), .val (.long ((q3 &&& (4611686018427387903 : Int64)) + (1 : Int64))), .second, .val (.ref b6), .val (.int (0 : Int32))] [(.ref b6), (.long ((q3 &&& (4611686018427387903 : Int64)) + (1 : Int64))), (.ref r_1), (.ref b14), (.ref b14)]))
                  refine Go.by (fun _ => XS.aload X14.here hx rfl (hb hby at_236) rfl rfl) ?_
                  show Go p e below P (T14.setTop (mkF m 238 #[.val (.int p0), .val (.int p1), .val (.int p2), .val (.long q3), .second, .val (.long q5), .second, .val (.int c0), .val (.int c1), .val (.int d0), .val (.int d1), .val (.int l1), .val (.int l2), .val (.int (0 : Int32)), .val (.ref r_1), .val (.ref r_3), .val (.long ((q3 &&& (4611686018427387903 : Int64)) + (1 : Int64))), .second, .val (.ref b6), .val (.int (0 : Int32))] [(.ref r_3), (.ref b6), (.long ((q3 &&& (4611686018427387903 : Int64)) + (1 : Int64))), (.ref r_1), (.ref b14), (.ref b14)]))
                  obtain ⟨_, _, ⟨T22, L22, k22, n22⟩, -, X22, ⟨Lc22, hQ22, l22, y22, z22⟩, st22⟩ := X14.specialBack hx (y := (⟨"com/example/halyard/halyard/model/ReplaceOrder", "<init>", "(Ljava/lang/String;JLcom/example/halyard/halyard/model/Price;Ljava/lang/String;)V"⟩ : MethodName)) rfl hown (mvT hZ (hw _ (List.mem_of_getElem? (i := 54) rfl))) (mvT hZ (hw _ (List.mem_of_getElem? (i := 55) rfl))) (mvT hZ (hw _ (List.mem_of_getElem? (i := 56) rfl))) (by decide) (backOf (W := 1) (rm_ro4 l Z a0 hw [] zC hG b14 r_1 (((q3 &&& (4611686018427387903 : Int64)) + (1 : Int64))) b6 r_3 h14 n0 Z14 O14 A14 F18 F19 F20 F21 g_b14 (own_shares q3)) hZ (hw _ (List.mem_of_getElem? (i := 56) rfl)) (hw _ (List.mem_of_getElem? (i := 53) rfl)) (Nat.le_of_ble_eq_true rfl) (Nat.le_of_ble_eq_true rfl)) (g := (mkF m 238 #[.val (.int p0), .val (.int p1), .val (.int p2), .val (.long q3), .second, .val (.long q5), .second, .val (.int c0), .val (.int c1), .val (.int d0), .val (.int d1), .val (.int l1), .val (.int l2), .val (.int (0 : Int32)), .val (.ref r_1), .val (.ref r_3), .val (.long ((q3 &&& (4611686018427387903 : Int64)) + (1 : Int64))), .second, .val (.ref b6), .val (.int (0 : Int32))] [(.ref r_3), (.ref b6), (.long ((q3 &&& (4611686018427387903 : Int64)) + (1 : Int64))), (.ref r_1), (.ref b14), (.ref b14)])) rfl (by rw [hml]; rfl) (Steps.refl _) (a := b14) (argsL := [(.ref r_1), (.long ((q3 &&& (4611686018427387903 : Int64)) + (1 : Int64))), (.ref b6), (.ref r_3)]) (rest := [(.ref b14)]) (lenOf pd_4 rfl) rfl (by show 2 * 0 + _ ≤ _; exact Nat.le_of_eq rfl) (hb hby at_238) (fun _ _ => ⟨rfl, e14, (Nat.le_of_ble_eq_true rfl : 14 + 0 ≤ _), (Nat.le_of_ble_eq_true rfl : 29 + 0 ≤ _)⟩)
                  dsimp only [Pt.U, Pt.locs, Pt.cells, Pt.slots] at X22 l22 y22 z22 st22 hQ22
                  subst l22 y22 z22
                  obtain ⟨rfl, Nq22, Kc22, F23, F24⟩ := hQ22
                  have N22 := Fr.app N10 Nq22
                  refine Go.by (fun _ k => st22.trans k) ?_
                  have F25 : Str Z T22.heap r_1 t_1 (mkL l1 c0 c1) := F15.keep Kc22 (ninS ne_r_1_b14 nin0) (ninS ne_t_1_b14 nin0)
                  have F26 : Str Z T22.heap r_3 t_3 (mkL l2 d0 d1) := F16.keep Kc22 (ninS ne_r_3_b14 nin0) (ninS ne_t_3_b14 nin0)
                  have F27 : Exa Z T22.heap b6 "com/example/halyard/halyard/model/Price" := F17.keep Kc22
                  have F28 : Exa Z T22.heap b14 "com/example/halyard/halyard/model/ReplaceOrder" := A14.keep Kc22
                  have Sk22 := own_sk (ws := [b14]) C14 (allS (Safe.exa (EL := consts_1) hZ.alike A14 (by decide) (by decide)) all0)
                  have R22 := R14.trans (CHr.keep Kc22 Sk22 C14)
                  have C22 := CHv.keep Kc22 Sk22 C14
                  have hk := Nat.le_trans hk Kc22.1
                  have O22 := O14.keep Kc22 (allS g_b14 all0)
                  have Z22 : n0 ≤ T22.heap.size := Nat.le_trans Z14 Kc22.1
                  show Go p e below P (T22.setTop (mkF m 241 #[.val (.int p0), .val (.int p1), .val (.int p2), .val (.long q3), .second, .val (.long q5), .second, .val (.int c0), .val (.int c1), .val (.int d0), .val (.int d1), .val (.int l1), .val (.int l2), .val (.int (0 : Int32)), .val (.ref r_1), .val (.ref r_3), .val (.long ((q3 &&& (4611686018427387903 : Int64)) + (1 : Int64))), .second, .val (.ref b6), .val (.int (0 : Int32))] [(.ref b14)]))
                  obtain ⟨cq29, kq29, qa29, qb29, qc29⟩ := isOf hZ rfl F28
                  obtain ⟨_, _, ⟨T29, L29, k29, n29⟩, -, X29, ⟨Lc29, hQ29, l29, y29, z29⟩, st29⟩ := X22.virtualBack hx (y := (⟨"com/example/halyard/halyard/model/ReplaceOrder", "renames", "()Z"⟩ : MethodName)) (z := (⟨"com/example/halyard/halyard/model/ReplaceOrder", "renames", "()Z"⟩ : MethodName)) hown (mvT hZ (hw _ (List.mem_of_getElem? (i := 70) rfl))) (mvT hZ (hw _ (List.mem_of_getElem? (i := 71) rfl))) (notFace_of_selects (args := #[]) (mvT hZ (hw _ (List.mem_of_getElem? (i := 73) rfl)))) (mvT hZ (hw _ (List.mem_of_getElem? (i := 73) rfl))) (mvT hZ (hw _ (List.mem_of_getElem? (i := 72) rfl))) (by decide) (backOf (W := 0) (rm_ren l Z a0 hw [] zC hG b14 r_1 r_3 t_1 t_3 ((mkL l1 c0 c1)) ((mkL l2 d0 d1)) ((0 : Int32)) T22.heap n0 Z22 O22 F23 F24 F25 F26 (by have hd := own_diff l1 l2 c0 c1 d0 d1 hl1 hl2; rw [if_pos (hd.mpr ⟨hc190.symm, fun q => absurd hc196 q, fun q => absurd hc209 q⟩)])) hZ (hw _ (List.mem_of_getElem? (i := 74) rfl)) (hw _ (List.mem_of_getElem? (i := 53) rfl)) (Nat.le_of_ble_eq_true rfl) (Nat.le_of_ble_eq_true rfl)) qa29 qc29 (g := (mkF m 241 #[.val (.int p0), .val (.int p1), .val (.int p2), .val (.long q3), .second, .val (.long q5), .second, .val (.int c0), .val (.int c1), .val (.int d0), .val (.int d1), .val (.int l1), .val (.int l2), .val (.int (0 : Int32)), .val (.ref r_1), .val (.ref r_3), .val (.long ((q3 &&& (4611686018427387903 : Int64)) + (1 : Int64))), .second, .val (.ref b6), .val (.int (0 : Int32))] [(.ref b14)])) rfl (by rw [hml]; rfl) (Steps.refl _) (argsL := []) (rest := []) (lenOf pd_8 rfl) rfl (by show 2 * 0 + _ ≤ _; exact Nat.le_of_eq rfl) (hb hby at_241) (fun _ _ => ⟨rfl, rfl, (Nat.le_of_ble_eq_true rfl : 14 + 0 ≤ _), (Nat.le_of_ble_eq_true rfl : 29 + 0 ≤ _)⟩)
                  dsimp only [Pt.U, Pt.locs, Pt.cells, Pt.slots] at X29 l29 y29 z29 st29 hQ29
                  subst l29 y29 z29
                  obtain ⟨rfl, Nq29, eq29⟩ := hQ29
                  have N29 := Fr.app N22 Nq29
                  refine Go.by (fun _ k => st29.trans k) ?_
                  show Go p e below P (T29.setTop (mkF m 244 #[.val (.int p0), .val (.int p1), .val (.int p2), .val (.long q3), .second, .val (.long q5), .second, .val (.int c0), .val (.int c1), .val (.int d0), .val (.int d1), .val (.int l1), .val (.int l2), .val (.int (0 : Int32)), .val (.ref r_1), .val (.ref r_3), .val (.long ((q3 &&& (4611686018427387903 : Int64)) + (1 : Int64))), .second, .val (.ref b6), .val (.int (0 : Int32))] [(.int (0 : Int32))]))
                  refine Go.by (fun _ => XS.iload X29.here hx rfl (hb hby at_244) rfl) ?_
                  show Go p e below P (T29.setTop (mkF m 246 #[.val (.int p0), .val (.int p1), .val (.int p2), .val (.long q3), .second, .val (.long q5), .second, .val (.int c0), .val (.int c1), .val (.int d0), .val (.int d1), .val (.int l1), .val (.int l2), .val (.int (0 : Int32)), .val (.ref r_1), .val (.ref r_3), .val (.long ((q3 &&& (4611686018427387903 : Int64)) + (1 : Int64))), .second, .val (.ref b6), .val (.int (0 : Int32))] [(.int (0 : Int32)), (.int (0 : Int32))]))
                  have hc246 : (0 : Int32) = (0 : Int32) := by decide
                  refine Go.by (fun _ => XS.icmpNo X29.here hx rfl (hb hby at_246) rfl (teq hc246).2) ?_
                  show Go p e below P (T29.setTop (mkF m 249 #[.val (.int p0), .val (.int p1), .val (.int p2), .val (.long q3), .second, .val (.long q5), .second, .val (.int c0), .val (.int c1), .val (.int d0), .val (.int d1), .val (.int l1), .val (.int l2), .val (.int (0 : Int32)), .val (.ref r_1), .val (.ref r_3), .val (.long ((q3 &&& (4611686018427387903 : Int64)) + (1 : Int64))), .second, .val (.ref b6), .val (.int (0 : Int32))] []))
                  refine Go.by (fun _ => XS.iconst X29.here hx rfl (hb hby at_249)) ?_
                  show Go p e below P (T29.setTop (mkF m 250 #[.val (.int p0), .val (.int p1), .val (.int p2), .val (.long q3), .second, .val (.long q5), .second, .val (.int c0), .val (.int c1), .val (.int d0), .val (.int d1), .val (.int l1), .val (.int l2), .val (.int (0 : Int32)), .val (.ref r_1), .val (.ref r_3), .val (.long ((q3 &&& (4611686018427387903 : Int64)) + (1 : Int64))), .second, .val (.ref b6), .val (.int (0 : Int32))] [(.int (1 : Int32))]))
                  refine Go.by (fun _ => XS.goto X29.here hx rfl (pc0 := 250) (pc' := 254) rfl (hb hby at_250) (by decide) (by decide)) ?_
                  show Go p e below P (T29.setTop (mkF m 254 #[.val (.int p0), .val (.int p1), .val (.int p2), .val (.long q3), .second, .val (.long q5), .second, .val (.int c0), .val (.int c1), .val (.int d0), .val (.int d1), .val (.int l1), .val (.int l2), .val (.int (0 : Int32)), .val (.ref r_1), .val (.ref r_3), .val (.long ((q3 &&& (4611686018427387903 : Int64)) + (1 : Int64))), .second, .val (.ref b6), .val (.int (0 : Int32))] [(.int (1 : Int32))]))
                  subst hP
                  refine Go.retZC (t := .boolean) X29 hx hS (by rw [eq29]; exact hk) Bd.returns (by simp) hlk (hb hby at_254) (Nat.le_of_ble_eq_true rfl) (Nat.le_of_ble_eq_true rfl) ?_ (by rw [hh, eq29]; exact R22.trans (CHv.at X29 hZ (own_EW hw) C22))
                  rw [eq29]
                  exact ⟨rfl, N29⟩
                · refine Go.by (fun _ => XS.icmpNo X10.here hx rfl (hb hby at_209) rfl (flt hc209).1) ?_
                  show Go p e below P (T10.setTop (mkF m 212 #[.val (.int p0), .val (.int p1), .val (.int p2), .val (.long q3), .second, .val (.long q5), .second, .val (.int c0), .val (.int c1), .val (.int d0), .val (.int d1), .val (.int l1), .val (.int l2), .val (.int (0 : Int32)), .val (.ref r_1), .val (.ref r_3), .val (.long ((q3 &&& (4611686018427387903 : Int64)) + (1 : Int64))), .second, .val (.ref b6), .unset] []))
                  refine Go.by (fun _ => XS.iload X10.here hx rfl (hb hby at_212) rfl) ?_
                  show Go p e below P (T10.setTop (mkF m 214 #[.val (.int p0), .val (.int p1), .val (.int p2), .val (.long q3), .second, .val (.long q5), .second, .val (.int c0), .val (.int c1), .val (.int d0), .val (.int d1), .val (.int l1), .val (.int l2), .val (.int (0 : Int32)), .val (.ref r_1), .val (.ref r_3), .val (.long ((q3 &&& (4611686018427387903 : Int64)) + (1 : Int64))), .second, .val (.ref b6), .unset] [(.int c1)]))
                  refine Go.by (fun _ => XS.iload X10.here hx rfl (hb hby at_214) rfl) ?_
                  show Go p e below P (T10.setTop (mkF m 216 #[.val (.int p0), .val (.int p1), .val (.int p2), .val (.long q3), .second, .val (.long q5), .second, .val (.int c0), .val (.int c1), .val (.int d0), .val (.int d1), .val (.int l1), .val (.int l2), .val (.int (0 : Int32)), .val (.ref r_1), .val (.ref r_3), .val (.long ((q3 &&& (4611686018427387903 : Int64)) + (1 : Int64))), .second, .val (.ref b6), .unset] [(.int d1), (.int c1)]))
                  by_cases hc216 : c1 = d1
                  · refine Go.by (fun _ => XS.icmpYes X10.here hx rfl (pc0 := 216) (pc' := 223) rfl (hb hby at_216) rfl (teq hc216).1 (by decide) (by decide)) ?_
                    show Go p e below P (T10.setTop (mkF m 223 #[.val (.int p0), .val (.int p1), .val (.int p2), .val (.long q3), .second, .val (.long q5), .second, .val (.int c0), .val (.int c1), .val (.int d0), .val (.int d1), .val (.int l1), .val (.int l2), .val (.int (0 : Int32)), .val (.ref r_1), .val (.ref r_3), .val (.long ((q3 &&& (4611686018427387903 : Int64)) + (1 : Int64))), .second, .val (.ref b6), .unset] []))
                    refine Go.by (fun _ => XS.iconst X10.here hx rfl (hb hby at_223)) ?_
                    show Go p e below P (T10.setTop (mkF m 224 #[.val (.int p0), .val (.int p1), .val (.int p2), .val (.long q3), .second, .val (.long q5), .second, .val (.int c0), .val (.int c1), .val (.int d0), .val (.int d1), .val (.int l1), .val (.int l2), .val (.int (0 : Int32)), .val (.ref r_1), .val (.ref r_3), .val (.long ((q3 &&& (4611686018427387903 : Int64)) + (1 : Int64))), .second, .val (.ref b6), .unset] [(.int (0 : Int32))]))
                    refine Go.by (fun _ => XS.istore X10.here hx rfl (hb hby at_224) rfl (l' := #[.val (.int p0), .val (.int p1), .val (.int p2), .val (.long q3), .second, .val (.long q5), .second, .val (.int c0), .val (.int c1), .val (.int d0), .val (.int d1), .val (.int l1), .val (.int l2), .val (.int (0 : Int32)), .val (.ref r_1), .val (.ref r_3), .val (.long ((q3 &&& (4611686018427387903 : Int64)) + (1 : Int64))), .second, .val (.ref b6), .val (.int (0 : Int32))]) rfl) ?_
                    show Go p e below P (T10.setTop (mkF m 226 #[.val (.int p0), .val (.int p1), .val (.int p2), .val (.long q3), .second, .val (.long q5), .second, .val (.int c0), .val (.int c1), .val (.int d0), .val (.int d1), .val (.int l1), .val (.int l2), .val (.int (0 : Int32)), .val (.ref r_1), .val (.ref r_3), .val (.long ((q3 &&& (4611686018427387903 : Int64)) + (1 : Int64))), .second, .val (.ref b6), .val (.int (0 : Int32))] []))
                    obtain ⟨T30, h30, X30, e30, E30, A30, D30, -, st30⟩ := newO X10 hx hZ hown (hw _ (List.mem_of_getElem? (i := 51) rfl)) (hw _ (List.mem_of_getElem? (i := 52) rfl)) (hw _ (List.mem_of_getElem? (i := 53) rfl)) rfl (g := (mkF m 226 #[.val (.int p0), .val (.int p1), .val (.int p2), .val (.long q3), .second, .val (.long q5), .second, .val (.int c0), .val (.int c1), .val (.int d0), .val (.int d1), .val (.int l1), .val (.int l2), .val (.int (0 : Int32)), .val (.ref r_1), .val (.ref r_3), .val (.long ((q3 &&& (4611686018427387903 : Int64)) + (1 : Int64))), .second, .val (.ref b6), .val (.int (0 : Int32))] [])) rfl (hb hby at_226) (Nat.le_of_ble_eq_true rfl) (Nat.le_of_ble_eq_true rfl)
                    obtain ⟨b30, q30⟩ : ∃ z, z = T10.heap.size := ⟨_, rfl⟩
                    rw [← q30] at A30 D30 st30
                    refine Go.by (fun _ => st30 _) ?_
                    have ne_r_1_b30 : r_1 ≠ b30 := Nat.ne_of_lt (Nat.lt_of_lt_of_le F11.ltx (Nat.le_of_eq q30.symm))
                    have ne_t_1_b30 : t_1 ≠ b30 := Nat.ne_of_lt (Nat.lt_of_lt_of_le F11.ltt (Nat.le_of_eq q30.symm))
                    have ne_r_3_b30 : r_3 ≠ b30 := Nat.ne_of_lt (Nat.lt_of_lt_of_le F12.ltx (Nat.le_of_eq q30.symm))
                    have ne_t_3_b30 : t_3 ≠ b30 := Nat.ne_of_lt (Nat.lt_of_lt_of_le F12.ltt (Nat.le_of_eq q30.symm))
                    have ne_b6_b30 : b6 ≠ b30 := Nat.ne_of_lt (Nat.lt_of_lt_of_le F13.lt (Nat.le_of_eq q30.symm))
                    have g_b30 : n0 ≤ b30 := Nat.le_trans Z10 (Nat.le_of_eq q30.symm)
                    have F31 : Str Z h30 r_1 t_1 (mkL l1 c0 c1) := F11.ext E30
                    have F32 : Str Z h30 r_3 t_3 (mkL l2 d0 d1) := F12.ext E30
                    have F33 : Exa Z h30 b6 "com/example/halyard/halyard/model/Price" := F13.ext E30
                    have O30 := O10.ext E30
                    have R30 := R10.trans (CHr.ext E30 C10)
                    have C30 := CHv.ext E30 C10
                    have hk := Nat.le_trans hk E30.1
                    have Z30 : n0 ≤ h30.size := Nat.le_trans Z10 E30.1
                    have F34 : Fld Z h30 b30 "com/example/halyard/halyard/model/ReplaceOrder" "orderId" "Ljava/lang/String;" .null := D30 (Or.inr (hw _ (List.mem_of_getElem? (i := 63) rfl))) (ty := (.object "java/lang/String")) (by decide)
                    have F35 : Fld Z h30 b30 "com/example/halyard/halyard/model/ReplaceOrder" "shares" "J" (.long (0 : Int64)) := D30 (Or.inr (hw _ (List.mem_of_getElem? (i := 65) rfl))) (ty := .long) (by decide)
                    have F36 : Fld Z h30 b30 "com/example/halyard/halyard/model/ReplaceOrder" "price" "Lcom/example/halyard/halyard/model/Price;" .null := D30 (Or.inr (hw _ (List.mem_of_getElem? (i := 67) rfl))) (ty := (.object "com/example/halyard/halyard/model/Price")) (by decide)
                    have F37 : Fld Z h30 b30 "com/example/halyard/halyard/model/ReplaceOrder" "newOrderId" "Ljava/lang/String;" .null := D30 (Or.inr (hw _ (List.mem_of_getElem? (i := 69) rfl))) (ty := (.object "java/lang/String")) (by decide)
                    show Go p e below P (T30.setTop (mkF m 229 #[.val (.int p0), .val (.int p1), .val (.int p2), .val (.long q3), .second, .val (.long q5), .second, .val (.int c0), .val (.int c1), .val (.int d0), .val (.int d1), .val (.int l1), .val (.int l2), .val (.int (0 : Int32)), .val (.ref r_1), .val (.ref r_3), .val (.long ((q3 &&& (4611686018427387903 : Int64)) + (1 : Int64))), .second, .val (.ref b6), .val (.int (0 : Int32))] [(.ref b30)]))
                    refine Go.by (fun _ => XS.dup X30.here hx rfl (hb hby at_229) rfl rfl) ?_
                    show Go p e below P (T30.setTop (mkF m 230 #[.val (.int p0), .val (.int p1), .val (.int p2), .val (.long q3), .second, .val (.long q5), .second, .val (.int c0), .val (.int c1), .val (.int d0), .val (.int d1), .val (.int l1), .val (.int l2), .val (.int (0 : Int32)), .val (.ref r_1), .val (.ref r_3), .val (.long ((q3 &&& (4611686018427387903 : Int64)) + (1 : Int64))), .second, .val (.ref b6), .val (.int (0 : Int32))] [(.ref b30), (.ref b30)]))
                    refine Go.by (fun _ => XS.aload X30.here hx rfl (hb hby at_230) rfl rfl) ?_
                    show Go p e below P (T30.setTop (mkF m 232 #[.val (.int p0), .val (.int p1), .val (.int p2), .val (.long q3), .second, .val (.long q5), .second, .val (.int c0), .val (.int c1), .val (.int d0), .val (.int d1), .val (.int l1), .val (.int l2), .val (.int (0 : Int32)), .val (.ref r_1), .val (.ref r_3), .val (.long ((q3 &&& (4611686018427387903 : Int64)) + (1 : Int64))), .second, .val (.ref b6), .val (.int (0 : Int32))] [(.ref r_1), (.ref b30), (.ref b30)]))
                    refine Go.by (fun _ => XS.lload X30.here hx rfl (hb hby at_232) rfl) ?_
                    show Go p e below P (T30.setTop (mkF m 234 #[.val (.int p0), .val (.int p1), .val (.int p2), .val (.long q3), .second, .val (.long q5), .second, .val (.int c0), .val (.int c1), .val (.int d0), .val (.int d1), .val (.int l1), .val (.int l2), .val (.int (0 : Int32)), .val (.ref r_1), .val (.ref r_3), .val (.long ((q3 &&& (4611686018427387903 : Int64)) + (1 : Int64))), .second, .val (.ref b6), .val (.int (0 : Int32))] [(.long ((q3 &&& (4611686018427387903 : Int64)) + (1 : Int64))), (.ref r_1), (.ref b30), (.ref b30)]))
                    refine Go.by (fun _ => XS.aload X30.here hx rfl (hb hby at_234) rfl rfl) ?_
                    show Go p e below P (T30.setTop (mkF m 236 #[.val (.int p0), .val (.int p1), .val (.int p2), .val (.long q3), .second, .val (.long q5), .second, .val (.int c0), .val (.int c1), .val (.int d0), .val (.int d1), .val (.int l1), .val (.int l2), .val (.int (0 : Int32)), .val (.ref r_1), .val (.ref r_3), .val (.long ((q3 &&& (4611686018427387903 : Int64)) + (1 : Int64))), .second, .val (.ref b6), .val (.int (0 : Int32))] [(.ref b6), (.long ((q3 &&& (4611686018427387903 : Int64)) + (1 : Int64))), (.ref r_1), (.ref b30), (.ref b30)]))
                    refine Go.by (fun _ => XS.aload X30.here hx rfl (hb hby at_236) rfl rfl) ?_
                    show Go p e below P (T30.setTop (mkF m 238 #[.val (.int p0), .val (.int p1), .val (.int p2), .val (.long q3), .second, .val (.long q5), .second, .val (.int c0), .val (.int c1), .val (.int d0), .val (.int d1), .val (.int l1), .val (.int l2), .val (.int (0 : Int32)), .val (.ref r_1), .val (.ref r_3), .val (.long ((q3 &&& (4611686018427387903 : Int64)) + (1 : Int64))), .second, .val (.ref b6), .val (.int (0 : Int32))] [(.ref r_3), (.ref b6), (.long ((q3 &&& (4611686018427387903 : Int64)) + (1 : Int64))), (.ref r_1), (.ref b30), (.ref b30)]))
                    obtain ⟨_, _, ⟨T38, L38, k38, n38⟩, -, X38, ⟨Lc38, hQ38, l38, y38, z38⟩, st38⟩ := X30.specialBack hx (y := (⟨"com/example/halyard/halyard/model/ReplaceOrder", "<init>", "(Ljava/lang/String;JLcom/example/halyard/halyard/model/Price;Ljava/lang/String;)V"⟩ : MethodName)) rfl hown (mvT hZ (hw _ (List.mem_of_getElem? (i := 54) rfl))) (mvT hZ (hw _ (List.mem_of_getElem? (i := 55) rfl))) (mvT hZ (hw _ (List.mem_of_getElem? (i := 56) rfl))) (by decide) (backOf (W := 1) (rm_ro4 l Z a0 hw [] zC hG b30 r_1 (((q3 &&& (4611686018427387903 : Int64)) + (1 : Int64))) b6 r_3 h30 n0 Z30 O30 A30 F34 F35 F36 F37 g_b30 (own_shares q3)) hZ (hw _ (List.mem_of_getElem? (i := 56) rfl)) (hw _ (List.mem_of_getElem? (i := 53) rfl)) (Nat.le_of_ble_eq_true rfl) (Nat.le_of_ble_eq_true rfl)) (g := (mkF m 238 #[.val (.int p0), .val (.int p1), .val (.int p2), .val (.long q3), .second, .val (.long q5), .second, .val (.int c0), .val (.int c1), .val (.int d0), .val (.int d1), .val (.int l1), .val (.int l2), .val (.int (0 : Int32)), .val (.ref r_1), .val (.ref r_3), .val (.long ((q3 &&& (4611686018427387903 : Int64)) + (1 : Int64))), .second, .val (.ref b6), .val (.int (0 : Int32))] [(.ref r_3), (.ref b6), (.long ((q3 &&& (4611686018427387903 : Int64)) + (1 : Int64))), (.ref r_1), (.ref b30), (.ref b30)])) rfl (by rw [hml]; rfl) (Steps.refl _) (a := b30) (argsL := [(.ref r_1), (.long ((q3 &&& (4611686018427387903 : Int64)) + (1 : Int64))), (.ref b6), (.ref r_3)]) (rest := [(.ref b30)]) (lenOf pd_4 rfl) rfl (by show 2 * 0 + _ ≤ _; exact Nat.le_of_eq rfl) (hb hby at_238) (fun _ _ => ⟨rfl, e30, (Nat.le_of_ble_eq_true rfl : 14 + 0 ≤ _), (Nat.le_of_ble_eq_true rfl : 29 + 0 ≤ _)⟩)
                    dsimp only [Pt.U, Pt.locs, Pt.cells, Pt.slots] at X38 l38 y38 z38 st38 hQ38
                    subst l38 y38 z38
                    obtain ⟨rfl, Nq38, Kc38, F39, F40⟩ := hQ38
                    have N38 := Fr.app N10 Nq38
                    refine Go.by (fun _ k => st38.trans k) ?_
                    have F41 : Str Z T38.heap r_1 t_1 (mkL l1 c0 c1) := F31.keep Kc38 (ninS ne_r_1_b30 nin0) (ninS ne_t_1_b30 nin0)
                    have F42 : Str Z T38.heap r_3 t_3 (mkL l2 d0 d1) := F32.keep Kc38 (ninS ne_r_3_b30 nin0) (ninS ne_t_3_b30 nin0)
                    have F43 : Exa Z T38.heap b6 "com/example/halyard/halyard/model/Price" := F33.keep Kc38
                    have F44 : Exa Z T38.heap b30 "com/example/halyard/halyard/model/ReplaceOrder" := A30.keep Kc38
                    have Sk38 := own_sk (ws := [b30]) C30 (allS (Safe.exa (EL := consts_1) hZ.alike A30 (by decide) (by decide)) all0)
                    have R38 := R30.trans (CHr.keep Kc38 Sk38 C30)
                    have C38 := CHv.keep Kc38 Sk38 C30
                    have hk := Nat.le_trans hk Kc38.1
                    have O38 := O30.keep Kc38 (allS g_b30 all0)
                    have Z38 : n0 ≤ T38.heap.size := Nat.le_trans Z30 Kc38.1
                    show Go p e below P (T38.setTop (mkF m 241 #[.val (.int p0), .val (.int p1), .val (.int p2), .val (.long q3), .second, .val (.long q5), .second, .val (.int c0), .val (.int c1), .val (.int d0), .val (.int d1), .val (.int l1), .val (.int l2), .val (.int (0 : Int32)), .val (.ref r_1), .val (.ref r_3), .val (.long ((q3 &&& (4611686018427387903 : Int64)) + (1 : Int64))), .second, .val (.ref b6), .val (.int (0 : Int32))] [(.ref b30)]))
                    obtain ⟨cq45, kq45, qa45, qb45, qc45⟩ := isOf hZ rfl F44
                    obtain ⟨_, _, ⟨T45, L45, k45, n45⟩, -, X45, ⟨Lc45, hQ45, l45, y45, z45⟩, st45⟩ := X38.virtualBack hx (y := (⟨"com/example/halyard/halyard/model/ReplaceOrder", "renames", "()Z"⟩ : MethodName)) (z := (⟨"com/example/halyard/halyard/model/ReplaceOrder", "renames", "()Z"⟩ : MethodName)) hown (mvT hZ (hw _ (List.mem_of_getElem? (i := 70) rfl))) (mvT hZ (hw _ (List.mem_of_getElem? (i := 71) rfl))) (notFace_of_selects (args := #[]) (mvT hZ (hw _ (List.mem_of_getElem? (i := 73) rfl)))) (mvT hZ (hw _ (List.mem_of_getElem? (i := 73) rfl))) (mvT hZ (hw _ (List.mem_of_getElem? (i := 72) rfl))) (by decide) (backOf (W := 0) (rm_ren l Z a0 hw [] zC hG b30 r_1 r_3 t_1 t_3 ((mkL l1 c0 c1)) ((mkL l2 d0 d1)) ((0 : Int32)) T38.heap n0 Z38 O38 F39 F40 F41 F42 (by have hd := own_diff l1 l2 c0 c1 d0 d1 hl1 hl2; rw [if_pos (hd.mpr ⟨hc190.symm, fun q => absurd hc196 q, fun _ => hc216.symm⟩)])) hZ (hw _ (List.mem_of_getElem? (i := 74) rfl)) (hw _ (List.mem_of_getElem? (i := 53) rfl)) (Nat.le_of_ble_eq_true rfl) (Nat.le_of_ble_eq_true rfl)) qa45 qc45 (g := (mkF m 241 #[.val (.int p0), .val (.int p1), .val (.int p2), .val (.long q3), .second, .val (.long q5), .second, .val (.int c0), .val (.int c1), .val (.int d0), .val (.int d1), .val (.int l1), .val (.int l2), .val (.int (0 : Int32)), .val (.ref r_1), .val (.ref r_3), .val (.long ((q3 &&& (4611686018427387903 : Int64)) + (1 : Int64))), .second, .val (.ref b6), .val (.int (0 : Int32))] [(.ref b30)])) rfl (by rw [hml]; rfl) (Steps.refl _) (argsL := []) (rest := []) (lenOf pd_8 rfl) rfl (by show 2 * 0 + _ ≤ _; exact Nat.le_of_eq rfl) (hb hby at_241) (fun _ _ => ⟨rfl, rfl, (Nat.le_of_ble_eq_true rfl : 14 + 0 ≤ _), (Nat.le_of_ble_eq_true rfl : 29 + 0 ≤ _)⟩)
                    dsimp only [Pt.U, Pt.locs, Pt.cells, Pt.slots] at X45 l45 y45 z45 st45 hQ45
                    subst l45 y45 z45
                    obtain ⟨rfl, Nq45, eq45⟩ := hQ45
                    have N45 := Fr.app N38 Nq45
                    refine Go.by (fun _ k => st45.trans k) ?_
                    show Go p e below P (T45.setTop (mkF m 244 #[.val (.int p0), .val (.int p1), .val (.int p2), .val (.long q3), .second, .val (.long q5), .second, .val (.int c0), .val (.int c1), .val (.int d0), .val (.int d1), .val (.int l1), .val (.int l2), .val (.int (0 : Int32)), .val (.ref r_1), .val (.ref r_3), .val (.long ((q3 &&& (4611686018427387903 : Int64)) + (1 : Int64))), .second, .val (.ref b6), .val (.int (0 : Int32))] [(.int (0 : Int32))]))
                    refine Go.by (fun _ => XS.iload X45.here hx rfl (hb hby at_244) rfl) ?_
                    show Go p e below P (T45.setTop (mkF m 246 #[.val (.int p0), .val (.int p1), .val (.int p2), .val (.long q3), .second, .val (.long q5), .second, .val (.int c0), .val (.int c1), .val (.int d0), .val (.int d1), .val (.int l1), .val (.int l2), .val (.int (0 : Int32)), .val (.ref r_1), .val (.ref r_3), .val (.long ((q3 &&& (4611686018427387903 : Int64)) + (1 : Int64))), .second, .val (.ref b6), .val (.int (0 : Int32))] [(.int (0 : Int32)), (.int (0 : Int32))]))
                    have hc246 : (0 : Int32) = (0 : Int32) := by decide
                    refine Go.by (fun _ => XS.icmpNo X45.here hx rfl (hb hby at_246) rfl (teq hc246).2) ?_
                    show Go p e below P (T45.setTop (mkF m 249 #[.val (.int p0), .val (.int p1), .val (.int p2), .val (.long q3), .second, .val (.long q5), .second, .val (.int c0), .val (.int c1), .val (.int d0), .val (.int d1), .val (.int l1), .val (.int l2), .val (.int (0 : Int32)), .val (.ref r_1), .val (.ref r_3), .val (.long ((q3 &&& (4611686018427387903 : Int64)) + (1 : Int64))), .second, .val (.ref b6), .val (.int (0 : Int32))] []))
                    refine Go.by (fun _ => XS.iconst X45.here hx rfl (hb hby at_249)) ?_
                    show Go p e below P (T45.setTop (mkF m 250 #[.val (.int p0), .val (.int p1), .val (.int p2), .val (.long q3), .second, .val (.long q5), .second, .val (.int c0), .val (.int c1), .val (.int d0), .val (.int d1), .val (.int l1), .val (.int l2), .val (.int (0 : Int32)), .val (.ref r_1), .val (.ref r_3), .val (.long ((q3 &&& (4611686018427387903 : Int64)) + (1 : Int64))), .second, .val (.ref b6), .val (.int (0 : Int32))] [(.int (1 : Int32))]))
                    refine Go.by (fun _ => XS.goto X45.here hx rfl (pc0 := 250) (pc' := 254) rfl (hb hby at_250) (by decide) (by decide)) ?_
                    show Go p e below P (T45.setTop (mkF m 254 #[.val (.int p0), .val (.int p1), .val (.int p2), .val (.long q3), .second, .val (.long q5), .second, .val (.int c0), .val (.int c1), .val (.int d0), .val (.int d1), .val (.int l1), .val (.int l2), .val (.int (0 : Int32)), .val (.ref r_1), .val (.ref r_3), .val (.long ((q3 &&& (4611686018427387903 : Int64)) + (1 : Int64))), .second, .val (.ref b6), .val (.int (0 : Int32))] [(.int (1 : Int32))]))
                    subst hP
                    refine Go.retZC (t := .boolean) X45 hx hS (by rw [eq45]; exact hk) Bd.returns (by simp) hlk (hb hby at_254) (Nat.le_of_ble_eq_true rfl) (Nat.le_of_ble_eq_true rfl) ?_ (by rw [hh, eq45]; exact R38.trans (CHv.at X45 hZ (own_EW hw) C38))
                    rw [eq45]
                    exact ⟨rfl, N45⟩
                  · refine Go.by (fun _ => XS.icmpNo X10.here hx rfl (hb hby at_216) rfl (feq hc216).1) ?_
                    show Go p e below P (T10.setTop (mkF m 219 #[.val (.int p0), .val (.int p1), .val (.int p2), .val (.long q3), .second, .val (.long q5), .second, .val (.int c0), .val (.int c1), .val (.int d0), .val (.int d1), .val (.int l1), .val (.int l2), .val (.int (0 : Int32)), .val (.ref r_1), .val (.ref r_3), .val (.long ((q3 &&& (4611686018427387903 : Int64)) + (1 : Int64))), .second, .val (.ref b6), .unset] []))
                    refine Go.by (fun _ => XS.iconst X10.here hx rfl (hb hby at_219)) ?_
                    show Go p e below P (T10.setTop (mkF m 220 #[.val (.int p0), .val (.int p1), .val (.int p2), .val (.long q3), .second, .val (.long q5), .second, .val (.int c0), .val (.int c1), .val (.int d0), .val (.int d1), .val (.int l1), .val (.int l2), .val (.int (0 : Int32)), .val (.ref r_1), .val (.ref r_3), .val (.long ((q3 &&& (4611686018427387903 : Int64)) + (1 : Int64))), .second, .val (.ref b6), .unset] [(.int (1 : Int32))]))
                    refine Go.by (fun _ => XS.goto X10.here hx rfl (pc0 := 220) (pc' := 224) rfl (hb hby at_220) (by decide) (by decide)) ?_
                    show Go p e below P (T10.setTop (mkF m 224 #[.val (.int p0), .val (.int p1), .val (.int p2), .val (.long q3), .second, .val (.long q5), .second, .val (.int c0), .val (.int c1), .val (.int d0), .val (.int d1), .val (.int l1), .val (.int l2), .val (.int (0 : Int32)), .val (.ref r_1), .val (.ref r_3), .val (.long ((q3 &&& (4611686018427387903 : Int64)) + (1 : Int64))), .second, .val (.ref b6), .unset] [(.int (1 : Int32))]))
                    refine Go.by (fun _ => XS.istore X10.here hx rfl (hb hby at_224) rfl (l' := #[.val (.int p0), .val (.int p1), .val (.int p2), .val (.long q3), .second, .val (.long q5), .second, .val (.int c0), .val (.int c1), .val (.int d0), .val (.int d1), .val (.int l1), .val (.int l2), .val (.int (0 : Int32)), .val (.ref r_1), .val (.ref r_3), .val (.long ((q3 &&& (4611686018427387903 : Int64)) + (1 : Int64))), .second, .val (.ref b6), .val (.int (1 : Int32))]) rfl) ?_
                    show Go p e below P (T10.setTop (mkF m 226 #[.val (.int p0), .val (.int p1), .val (.int p2), .val (.long q3), .second, .val (.long q5), .second, .val (.int c0), .val (.int c1), .val (.int d0), .val (.int d1), .val (.int l1), .val (.int l2), .val (.int (0 : Int32)), .val (.ref r_1), .val (.ref r_3), .val (.long ((q3 &&& (4611686018427387903 : Int64)) + (1 : Int64))), .second, .val (.ref b6), .val (.int (1 : Int32))] []))
                    obtain ⟨T46, h46, X46, e46, E46, A46, D46, -, st46⟩ := newO X10 hx hZ hown (hw _ (List.mem_of_getElem? (i := 51) rfl)) (hw _ (List.mem_of_getElem? (i := 52) rfl)) (hw _ (List.mem_of_getElem? (i := 53) rfl)) rfl (g := (mkF m 226 #[.val (.int p0), .val (.int p1), .val (.int p2), .val (.long q3), .second, .val (.long q5), .second, .val (.int c0), .val (.int c1), .val (.int d0), .val (.int d1), .val (.int l1), .val (.int l2), .val (.int (0 : Int32)), .val (.ref r_1), .val (.ref r_3), .val (.long ((q3 &&& (4611686018427387903 : Int64)) + (1 : Int64))), .second, .val (.ref b6), .val (.int (1 : Int32))] [])) rfl (hb hby at_226) (Nat.le_of_ble_eq_true rfl) (Nat.le_of_ble_eq_true rfl)
                    obtain ⟨b46, q46⟩ : ∃ z, z = T10.heap.size := ⟨_, rfl⟩
                    rw [← q46] at A46 D46 st46
                    refine Go.by (fun _ => st46 _) ?_
                    have ne_r_1_b46 : r_1 ≠ b46 := Nat.ne_of_lt (Nat.lt_of_lt_of_le F11.ltx (Nat.le_of_eq q46.symm))
                    have ne_t_1_b46 : t_1 ≠ b46 := Nat.ne_of_lt (Nat.lt_of_lt_of_le F11.ltt (Nat.le_of_eq q46.symm))
                    have ne_r_3_b46 : r_3 ≠ b46 := Nat.ne_of_lt (Nat.lt_of_lt_of_le F12.ltx (Nat.le_of_eq q46.symm))
                    have ne_t_3_b46 : t_3 ≠ b46 := Nat.ne_of_lt (Nat.lt_of_lt_of_le F12.ltt (Nat.le_of_eq q46.symm))
                    have ne_b6_b46 : b6 ≠ b46 := Nat.ne_of_lt (Nat.lt_of_lt_of_le F13.lt (Nat.le_of_eq q46.symm))
                    have g_b46 : n0 ≤ b46 := Nat.le_trans Z10 (Nat.le_of_eq q46.symm)
                    have F47 : Str Z h46 r_1 t_1 (mkL l1 c0 c1) := F11.ext E46
                    have F48 : Str Z h46 r_3 t_3 (mkL l2 d0 d1) := F12.ext E46
                    have F49 : Exa Z h46 b6 "com/example/halyard/halyard/model/Price" := F13.ext E46
                    have O46 := O10.ext E46
                    have R46 := R10.trans (CHr.ext E46 C10)
                    have C46 := CHv.ext E46 C10
                    have hk := Nat.le_trans hk E46.1
                    have Z46 : n0 ≤ h46.size := Nat.le_trans Z10 E46.1
                    have F50 : Fld Z h46 b46 "com/example/halyard/halyard/model/ReplaceOrder" "orderId" "Ljava/lang/String;" .null := D46 (Or.inr (hw _ (List.mem_of_getElem? (i := 63) rfl))) (ty := (.object "java/lang/String")) (by decide)
                    have F51 : Fld Z h46 b46 "com/example/halyard/halyard/model/ReplaceOrder" "shares" "J" (.long (0 : Int64)) := D46 (Or.inr (hw _ (List.mem_of_getElem? (i := 65) rfl))) (ty := .long) (by decide)
                    have F52 : Fld Z h46 b46 "com/example/halyard/halyard/model/ReplaceOrder" "price" "Lcom/example/halyard/halyard/model/Price;" .null := D46 (Or.inr (hw _ (List.mem_of_getElem? (i := 67) rfl))) (ty := (.object "com/example/halyard/halyard/model/Price")) (by decide)
                    have F53 : Fld Z h46 b46 "com/example/halyard/halyard/model/ReplaceOrder" "newOrderId" "Ljava/lang/String;" .null := D46 (Or.inr (hw _ (List.mem_of_getElem? (i := 69) rfl))) (ty := (.object "java/lang/String")) (by decide)
                    show Go p e below P (T46.setTop (mkF m 229 #[.val (.int p0), .val (.int p1), .val (.int p2), .val (.long q3), .second, .val (.long q5), .second, .val (.int c0), .val (.int c1), .val (.int d0), .val (.int d1), .val (.int l1), .val (.int l2), .val (.int (0 : Int32)), .val (.ref r_1), .val (.ref r_3), .val (.long ((q3 &&& (4611686018427387903 : Int64)) + (1 : Int64))), .second, .val (.ref b6), .val (.int (1 : Int32))] [(.ref b46)]))
                    refine Go.by (fun _ => XS.dup X46.here hx rfl (hb hby at_229) rfl rfl) ?_
                    show Go p e below P (T46.setTop (mkF m 230 #[.val (.int p0), .val (.int p1), .val (.int p2), .val (.long q3), .second, .val (.long q5), .second, .val (.int c0), .val (.int c1), .val (.int d0), .val (.int d1), .val (.int l1), .val (.int l2), .val (.int (0 : Int32)), .val (.ref r_1), .val (.ref r_3), .val (.long ((q3 &&& (4611686018427387903 : Int64)) + (1 : Int64))), .second, .val (.ref b6), .val (.int (1 : Int32))] [(.ref b46), (.ref b46)]))
                    refine Go.by (fun _ => XS.aload X46.here hx rfl (hb hby at_230) rfl rfl) ?_
                    show Go p e below P (T46.setTop (mkF m 232 #[.val (.int p0), .val (.int p1), .val (.int p2), .val (.long q3), .second, .val (.long q5), .second, .val (.int c0), .val (.int c1), .val (.int d0), .val (.int d1), .val (.int l1), .val (.int l2), .val (.int (0 : Int32)), .val (.ref r_1), .val (.ref r_3), .val (.long ((q3 &&& (4611686018427387903 : Int64)) + (1 : Int64))), .second, .val (.ref b6), .val (.int (1 : Int32))] [(.ref r_1), (.ref b46), (.ref b46)]))
                    refine Go.by (fun _ => XS.lload X46.here hx rfl (hb hby at_232) rfl) ?_
                    show Go p e below P (T46.setTop (mkF m 234 #[.val (.int p0), .val (.int p1), .val (.int p2), .val (.long q3), .second, .val (.long q5), .second, .val (.int c0), .val (.int c1), .val (.int d0), .val (.int d1), .val (.int l1), .val (.int l2), .val (.int (0 : Int32)), .val (.ref r_1), .val (.ref r_3), .val (.long ((q3 &&& (4611686018427387903 : Int64)) + (1 : Int64))), .second, .val (.ref b6), .val (.int (1 : Int32))] [(.long ((q3 &&& (4611686018427387903 : Int64)) + (1 : Int64))), (.ref r_1), (.ref b46), (.ref b46)]))
                    refine Go.by (fun _ => XS.aload X46.here hx rfl (hb hby at_234) rfl rfl) ?_
                    show Go p e below P (T46.setTop (mkF m 236 #[.val (.int p0), .val (.int p1), .val (.int p2), .val (.long q3), .second, .val (.long q5), .second, .val (.int c0), .val (.int c1), .val (.int d0), .val (.int d1), .val (.int l1), .val (.int l2), .val (.int (0 : Int32)), .val (.ref r_1), .val (.ref r_3), .val (.long ((q3 &&& (4611686018427387903 : Int64)) + (1 : Int64))), .second, .val (.ref b6), .val (.int (1 : Int32))] [(.ref b6), (.long ((q3 &&& (4611686018427387903 : Int64)) + (1 : Int64))), (.ref r_1), (.ref b46), (.ref b46)]))
                    refine Go.by (fun _ => XS.aload X46.here hx rfl (hb hby at_236) rfl rfl) ?_
                    show Go p e below P (T46.setTop (mkF m 238 #[.val (.int p0), .val (.int p1), .val (.int p2), .val (.long q3), .second, .val (.long q5), .second, .val (.int c0), .val (.int c1), .val (.int d0), .val (.int d1), .val (.int l1), .val (.int l2), .val (.int (0 : Int32)), .val (.ref r_1), .val (.ref r_3), .val (.long ((q3 &&& (4611686018427387903 : Int64)) + (1 : Int64))), .second, .val (.ref b6), .val (.int (1 : Int32))] [(.ref r_3), (.ref b6), (.long ((q3 &&& (4611686018427387903 : Int64)) + (1 : Int64))), (.ref r_1), (.ref b46), (.ref b46)]))
                    obtain ⟨_, _, ⟨T54, L54, k54, n54⟩, -, X54, ⟨Lc54, hQ54, l54, y54, z54⟩, st54⟩ := X46.specialBack hx (y := (⟨"com/example/halyard/halyard/model/ReplaceOrder", "<init>", "(Ljava/lang/String;JLcom/example/halyard/halyard/model/Price;Ljava/lang/String;)V"⟩ : MethodName)) rfl hown (mvT hZ (hw _ (List.mem_of_getElem? (i := 54) rfl))) (mvT hZ (hw _ (List.mem_of_getElem? (i := 55) rfl))) (mvT hZ (hw _ (List.mem_of_getElem? (i := 56) rfl))) (by decide) (backOf (W := 1) (rm_ro4 l Z a0 hw [] zC hG b46 r_1 (((q3 &&& (4611686018427387903 : Int64)) + (1 : Int64))) b6 r_3 h46 n0 Z46 O46 A46 F50 F51 F52 F53 g_b46 (own_shares q3)) hZ (hw _ (List.mem_of_getElem? (i := 56) rfl)) (hw _ (List.mem_of_getElem? (i := 53) rfl)) (Nat.le_of_ble_eq_true rfl) (Nat.le_of_ble_eq_true rfl)) (g := (mkF m 238 #[.val (.int p0), .val (.int p1), .val (.int p2), .val (.long q3), .second, .val (.long q5), .second, .val (.int c0), .val (.int c1), .val (.int d0), .val (.int d1), .val (.int l1), .val (.int l2), .val (.int (0 : Int32)), .val (.ref r_1), .val (.ref r_3), .val (.long ((q3 &&& (4611686018427387903 : Int64)) + (1 : Int64))), .second, .val (.ref b6), .val (.int (1 : Int32))] [(.ref r_3), (.ref b6), (.long ((q3 &&& (4611686018427387903 : Int64)) + (1 : Int64))), (.ref r_1), (.ref b46), (.ref b46)])) rfl (by rw [hml]; rfl) (Steps.refl _) (a := b46) (argsL := [(.ref r_1), (.long ((q3 &&& (4611686018427387903 : Int64)) + (1 : Int64))), (.ref b6), (.ref r_3)]) (rest := [(.ref b46)]) (lenOf pd_4 rfl) rfl (by show 2 * 0 + _ ≤ _; exact Nat.le_of_eq rfl) (hb hby at_238) (fun _ _ => ⟨rfl, e46, (Nat.le_of_ble_eq_true rfl : 14 + 0 ≤ _), (Nat.le_of_ble_eq_true rfl : 29 + 0 ≤ _)⟩)
                    dsimp only [Pt.U, Pt.locs, Pt.cells, Pt.slots] at X54 l54 y54 z54 st54 hQ54
                    subst l54 y54 z54
                    obtain ⟨rfl, Nq54, Kc54, F55, F56⟩ := hQ54
                    have N54 := Fr.app N10 Nq54
                    refine Go.by (fun _ k => st54.trans k) ?_
                    have F57 : Str Z T54.heap r_1 t_1 (mkL l1 c0 c1) := F47.keep Kc54 (ninS ne_r_1_b46 nin0) (ninS ne_t_1_b46 nin0)
                    have F58 : Str Z T54.heap r_3 t_3 (mkL l2 d0 d1) := F48.keep Kc54 (ninS ne_r_3_b46 nin0) (ninS ne_t_3_b46 nin0)
                    have F59 : Exa Z T54.heap b6 "com/example/halyard/halyard/model/Price" := F49.keep Kc54
                    have F60 : Exa Z T54.heap b46 "com/example/halyard/halyard/model/ReplaceOrder" := A46.keep Kc54
                    have Sk54 := own_sk (ws := [b46]) C46 (allS (Safe.exa (EL := consts_1) hZ.alike A46 (by decide) (by decide)) all0)
                    have R54 := R46.trans (CHr.keep Kc54 Sk54 C46)
                    have C54 := CHv.keep Kc54 Sk54 C46
                    have hk := Nat.le_trans hk Kc54.1
                    have O54 := O46.keep Kc54 (allS g_b46 all0)
                    have Z54 : n0 ≤ T54.heap.size := Nat.le_trans Z46 Kc54.1
                    show Go p e below P (T54.setTop (mkF m 241 #[.val (.int p0), .val (.int p1), .val (.int p2), .val (.long q3), .second, .val (.long q5), .second, .val (.int c0), .val (.int c1), .val (.int d0), .val (.int d1), .val (.int l1), .val (.int l2), .val (.int (0 : Int32)), .val (.ref r_1), .val (.ref r_3), .val (.long ((q3 &&& (4611686018427387903 : Int64)) + (1 : Int64))), .second, .val (.ref b6), .val (.int (1 : Int32))] [(.ref b46)]))
                    obtain ⟨cq61, kq61, qa61, qb61, qc61⟩ := isOf hZ rfl F60
                    obtain ⟨_, _, ⟨T61, L61, k61, n61⟩, -, X61, ⟨Lc61, hQ61, l61, y61, z61⟩, st61⟩ := X54.virtualBack hx (y := (⟨"com/example/halyard/halyard/model/ReplaceOrder", "renames", "()Z"⟩ : MethodName)) (z := (⟨"com/example/halyard/halyard/model/ReplaceOrder", "renames", "()Z"⟩ : MethodName)) hown (mvT hZ (hw _ (List.mem_of_getElem? (i := 70) rfl))) (mvT hZ (hw _ (List.mem_of_getElem? (i := 71) rfl))) (notFace_of_selects (args := #[]) (mvT hZ (hw _ (List.mem_of_getElem? (i := 73) rfl)))) (mvT hZ (hw _ (List.mem_of_getElem? (i := 73) rfl))) (mvT hZ (hw _ (List.mem_of_getElem? (i := 72) rfl))) (by decide) (backOf (W := 0) (rm_ren l Z a0 hw [] zC hG b46 r_1 r_3 t_1 t_3 ((mkL l1 c0 c1)) ((mkL l2 d0 d1)) ((1 : Int32)) T54.heap n0 Z54 O54 F55 F56 F57 F58 (by have hd := own_diff l1 l2 c0 c1 d0 d1 hl1 hl2; rw [if_neg (fun q => absurd (hd.mp q) (by intro z; first | (exact hc190 z.1.symm) | (exact hc190 z.1) | (exact hc203 (z.2.1 hc196).symm) | (exact hc203 (z.2.1 hc196)) | (exact hc216 (z.2.2 hc209).symm) | (exact hc216 (z.2.2 hc209))))])) hZ (hw _ (List.mem_of_getElem? (i := 74) rfl)) (hw _ (List.mem_of_getElem? (i := 53) rfl)) (Nat.le_of_ble_eq_true rfl) (Nat.le_of_ble_eq_true rfl)) qa61 qc61 (g := (mkF m 241 #[.val (.int p0), .val (.int p1), .val (.int p2), .val (.long q3), .second, .val (.long q5), .second, .val (.int c0), .val (.int c1), .val (.int d0), .val (.int d1), .val (.int l1), .val (.int l2), .val (.int (0 : Int32)), .val (.ref r_1), .val (.ref r_3), .val (.long ((q3 &&& (4611686018427387903 : Int64)) + (1 : Int64))), .second, .val (.ref b6), .val (.int (1 : Int32))] [(.ref b46)])) rfl (by rw [hml]; rfl) (Steps.refl _) (argsL := []) (rest := []) (lenOf pd_8 rfl) rfl (by show 2 * 0 + _ ≤ _; exact Nat.le_of_eq rfl) (hb hby at_241) (fun _ _ => ⟨rfl, rfl, (Nat.le_of_ble_eq_true rfl : 14 + 0 ≤ _), (Nat.le_of_ble_eq_true rfl : 29 + 0 ≤ _)⟩)
                    dsimp only [Pt.U, Pt.locs, Pt.cells, Pt.slots] at X61 l61 y61 z61 st61 hQ61
                    subst l61 y61 z61
                    obtain ⟨rfl, Nq61, eq61⟩ := hQ61
                    have N61 := Fr.app N54 Nq61
                    refine Go.by (fun _ k => st61.trans k) ?_
                    show Go p e below P (T61.setTop (mkF m 244 #[.val (.int p0), .val (.int p1), .val (.int p2), .val (.long q3), .second, .val (.long q5), .second, .val (.int c0), .val (.int c1), .val (.int d0), .val (.int d1), .val (.int l1), .val (.int l2), .val (.int (0 : Int32)), .val (.ref r_1), .val (.ref r_3), .val (.long ((q3 &&& (4611686018427387903 : Int64)) + (1 : Int64))), .second, .val (.ref b6), .val (.int (1 : Int32))] [(.int (1 : Int32))]))
                    refine Go.by (fun _ => XS.iload X61.here hx rfl (hb hby at_244) rfl) ?_
                    show Go p e below P (T61.setTop (mkF m 246 #[.val (.int p0), .val (.int p1), .val (.int p2), .val (.long q3), .second, .val (.long q5), .second, .val (.int c0), .val (.int c1), .val (.int d0), .val (.int d1), .val (.int l1), .val (.int l2), .val (.int (0 : Int32)), .val (.ref r_1), .val (.ref r_3), .val (.long ((q3 &&& (4611686018427387903 : Int64)) + (1 : Int64))), .second, .val (.ref b6), .val (.int (1 : Int32))] [(.int (1 : Int32)), (.int (1 : Int32))]))
                    have hc246 : (1 : Int32) = (1 : Int32) := by decide
                    refine Go.by (fun _ => XS.icmpNo X61.here hx rfl (hb hby at_246) rfl (teq hc246).2) ?_
                    show Go p e below P (T61.setTop (mkF m 249 #[.val (.int p0), .val (.int p1), .val (.int p2), .val (.long q3), .second, .val (.long q5), .second, .val (.int c0), .val (.int c1), .val (.int d0), .val (.int d1), .val (.int l1), .val (.int l2), .val (.int (0 : Int32)), .val (.ref r_1), .val (.ref r_3), .val (.long ((q3 &&& (4611686018427387903 : Int64)) + (1 : Int64))), .second, .val (.ref b6), .val (.int (1 : Int32))] []))
                    refine Go.by (fun _ => XS.iconst X61.here hx rfl (hb hby at_249)) ?_
                    show Go p e below P (T61.setTop (mkF m 250 #[.val (.int p0), .val (.int p1), .val (.int p2), .val (.long q3), .second, .val (.long q5), .second, .val (.int c0), .val (.int c1), .val (.int d0), .val (.int d1), .val (.int l1), .val (.int l2), .val (.int (0 : Int32)), .val (.ref r_1), .val (.ref r_3), .val (.long ((q3 &&& (4611686018427387903 : Int64)) + (1 : Int64))), .second, .val (.ref b6), .val (.int (1 : Int32))] [(.int (1 : Int32))]))
                    refine Go.by (fun _ => XS.goto X61.here hx rfl (pc0 := 250) (pc' := 254) rfl (hb hby at_250) (by decide) (by decide)) ?_
                    show Go p e below P (T61.setTop (mkF m 254 #[.val (.int p0), .val (.int p1), .val (.int p2), .val (.long q3), .second, .val (.long q5), .second, .val (.int c0), .val (.int c1), .val (.int d0), .val (.int d1), .val (.int l1), .val (.int l2), .val (.int (0 : Int32)), .val (.ref r_1), .val (.ref r_3), .val (.long ((q3 &&& (4611686018427387903 : Int64)) + (1 : Int64))), .second, .val (.ref b6), .val (.int (1 : Int32))] [(.int (1 : Int32))]))
                    subst hP
                    refine Go.retZC (t := .boolean) X61 hx hS (by rw [eq61]; exact hk) Bd.returns (by simp) hlk (hb hby at_254) (Nat.le_of_ble_eq_true rfl) (Nat.le_of_ble_eq_true rfl) ?_ (by rw [hh, eq61]; exact R54.trans (CHv.at X61 hZ (own_EW hw) C54))
                    rw [eq61]
                    exact ⟨rfl, N61⟩
              · refine Go.by (fun _ => XS.icmpNo X10.here hx rfl (hb hby at_196) rfl (flt hc196).1) ?_
                show Go p e below P (T10.setTop (mkF m 199 #[.val (.int p0), .val (.int p1), .val (.int p2), .val (.long q3), .second, .val (.long q5), .second, .val (.int c0), .val (.int c1), .val (.int d0), .val (.int d1), .val (.int l1), .val (.int l2), .val (.int (0 : Int32)), .val (.ref r_1), .val (.ref r_3), .val (.long ((q3 &&& (4611686018427387903 : Int64)) + (1 : Int64))), .second, .val (.ref b6), .unset] []))
                refine Go.by (fun _ => XS.iload X10.here hx rfl (hb hby at_199) rfl) ?_
                show Go p e below P (T10.setTop (mkF m 201 #[.val (.int p0), .val (.int p1), .val (.int p2), .val (.long q3), .second, .val (.long q5), .second, .val (.int c0), .val (.int c1), .val (.int d0), .val (.int d1), .val (.int l1), .val (.int l2), .val (.int (0 : Int32)), .val (.ref r_1), .val (.ref r_3), .val (.long ((q3 &&& (4611686018427387903 : Int64)) + (1 : Int64))), .second, .val (.ref b6), .unset] [(.int c0)]))
                refine Go.by (fun _ => XS.iload X10.here hx rfl (hb hby at_201) rfl) ?_
                show Go p e below P (T10.setTop (mkF m 203 #[.val (.int p0), .val (.int p1), .val (.int p2), .val (.long q3), .second, .val (.long q5), .second, .val (.int c0), .val (.int c1), .val (.int d0), .val (.int d1), .val (.int l1), .val (.int l2), .val (.int (0 : Int32)), .val (.ref r_1), .val (.ref r_3), .val (.long ((q3 &&& (4611686018427387903 : Int64)) + (1 : Int64))), .second, .val (.ref b6), .unset] [(.int d0), (.int c0)]))
                by_cases hc203 : c0 = d0
                · refine Go.by (fun _ => XS.icmpNo X10.here hx rfl (hb hby at_203) rfl (teq hc203).2) ?_
                  show Go p e below P (T10.setTop (mkF m 206 #[.val (.int p0), .val (.int p1), .val (.int p2), .val (.long q3), .second, .val (.long q5), .second, .val (.int c0), .val (.int c1), .val (.int d0), .val (.int d1), .val (.int l1), .val (.int l2), .val (.int (0 : Int32)), .val (.ref r_1), .val (.ref r_3), .val (.long ((q3 &&& (4611686018427387903 : Int64)) + (1 : Int64))), .second, .val (.ref b6), .unset] []))
                  refine Go.by (fun _ => XS.iload X10.here hx rfl (hb hby at_206) rfl) ?_
                  show Go p e below P (T10.setTop (mkF m 208 #[.val (.int p0), .val (.int p1), .val (.int p2), .val (.long q3), .second, .val (.long q5), .second, .val (.int c0), .val (.int c1), .val (.int d0), .val (.int d1), .val (.int l1), .val (.int l2), .val (.int (0 : Int32)), .val (.ref r_1), .val (.ref r_3), .val (.long ((q3 &&& (4611686018427387903 : Int64)) + (1 : Int64))), .second, .val (.ref b6), .unset] [(.int l1)]))
                  refine Go.by (fun _ => XS.iconst X10.here hx rfl (hb hby at_208)) ?_
                  show Go p e below P (T10.setTop (mkF m 209 #[.val (.int p0), .val (.int p1), .val (.int p2), .val (.long q3), .second, .val (.long q5), .second, .val (.int c0), .val (.int c1), .val (.int d0), .val (.int d1), .val (.int l1), .val (.int l2), .val (.int (0 : Int32)), .val (.ref r_1), .val (.ref r_3), .val (.long ((q3 &&& (4611686018427387903 : Int64)) + (1 : Int64))), .second, .val (.ref b6), .unset] [(.int (2 : Int32)), (.int l1)]))
                  by_cases hc209 : l1 < (2 : Int32)
                  · refine Go.by (fun _ => XS.icmpYes X10.here hx rfl (pc0 := 209) (pc' := 223) rfl (hb hby at_209) rfl (tlt hc209).1 (by decide) (by decide)) ?_
                    show Go p e below P (T10.setTop (mkF m 223 #[.val (.int p0), .val (.int p1), .val (.int p2), .val (.long q3), .second, .val (.long q5), .second, .val (.int c0), .val (.int c1), .val (.int d0), .val (.int d1), .val (.int l1), .val (.int l2), .val (.int (0 : Int32)), .val (.ref r_1), .val (.ref r_3), .val (.long ((q3 &&& (4611686018427387903 : Int64)) + (1 : Int64))), .second, .val (.ref b6), .unset] []))
                    refine Go.by (fun _ => XS.iconst X10.here hx rfl (hb hby at_223)) ?_
                    show Go p e below P (T10.setTop (mkF m 224 #[.val (.int p0), .val (.int p1), .val (.int p2), .val (.long q3), .second, .val (.long q5), .second, .val (.int c0), .val (.int c1), .val (.int d0), .val (.int d1), .val (.int l1), .val (.int l2), .val (.int (0 : Int32)), .val (.ref r_1), .val (.ref r_3), .val (.long ((q3 &&& (4611686018427387903 : Int64)) + (1 : Int64))), .second, .val (.ref b6), .unset] [(.int (0 : Int32))]))
                    refine Go.by (fun _ => XS.istore X10.here hx rfl (hb hby at_224) rfl (l' := #[.val (.int p0), .val (.int p1), .val (.int p2), .val (.long q3), .second, .val (.long q5), .second, .val (.int c0), .val (.int c1), .val (.int d0), .val (.int d1), .val (.int l1), .val (.int l2), .val (.int (0 : Int32)), .val (.ref r_1), .val (.ref r_3), .val (.long ((q3 &&& (4611686018427387903 : Int64)) + (1 : Int64))), .second, .val (.ref b6), .val (.int (0 : Int32))]) rfl) ?_
                    show Go p e below P (T10.setTop (mkF m 226 #[.val (.int p0), .val (.int p1), .val (.int p2), .val (.long q3), .second, .val (.long q5), .second, .val (.int c0), .val (.int c1), .val (.int d0), .val (.int d1), .val (.int l1), .val (.int l2), .val (.int (0 : Int32)), .val (.ref r_1), .val (.ref r_3), .val (.long ((q3 &&& (4611686018427387903 : Int64)) + (1 : Int64))), .second, .val (.ref b6), .val (.int (0 : Int32))] []))
                    obtain ⟨T62, h62, X62, e62, E62, A62, D62, -, st62⟩ := newO X10 hx hZ hown (hw _ (List.mem_of_getElem? (i := 51) rfl)) (hw _ (List.mem_of_getElem? (i := 52) rfl)) (hw _ (List.mem_of_getElem? (i := 53) rfl)) rfl (g := (mkF m 226 #[.val (.int p0), .val (.int p1), .val (.int p2), .val (.long q3), .second, .val (.long q5), .second, .val (.int c0), .val (.int c1), .val (.int d0), .val (.int d1), .val (.int l1), .val (.int l2), .val (.int (0 : Int32)), .val (.ref r_1), .val (.ref r_3), .val (.long ((q3 &&& (4611686018427387903 : Int64)) + (1 : Int64))), .second, .val (.ref b6), .val (.int (0 : Int32))] [])) rfl (hb hby at_226) (Nat.le_of_ble_eq_true rfl) (Nat.le_of_ble_eq_true rfl)
                    obtain ⟨b62, q62⟩ : ∃ z, z = T10.heap.size := ⟨_, rfl⟩
                    rw [← q62] at A62 D62 st62
                    refine Go.by (fun _ => st62 _) ?_
                    have ne_r_1_b62 : r_1 ≠ b62 := Nat.ne_of_lt (Nat.lt_of_lt_of_le F11.ltx (Nat.le_of_eq q62.symm))
                    have ne_t_1_b62 : t_1 ≠ b62 := Nat.ne_of_lt (Nat.lt_of_lt_of_le F11.ltt (Nat.le_of_eq q62.symm))
                    have ne_r_3_b62 : r_3 ≠ b62 := Nat.ne_of_lt (Nat.lt_of_lt_of_le F12.ltx (Nat.le_of_eq q62.symm))
                    have ne_t_3_b62 : t_3 ≠ b62 := Nat.ne_of_lt (Nat.lt_of_lt_of_le F12.ltt (Nat.le_of_eq q62.symm))
                    have ne_b6_b62 : b6 ≠ b62 := Nat.ne_of_lt (Nat.lt_of_lt_of_le F13.lt (Nat.le_of_eq q62.symm))
                    have g_b62 : n0 ≤ b62 := Nat.le_trans Z10 (Nat.le_of_eq q62.symm)
                    have F63 : Str Z h62 r_1 t_1 (mkL l1 c0 c1) := F11.ext E62
                    have F64 : Str Z h62 r_3 t_3 (mkL l2 d0 d1) := F12.ext E62
                    have F65 : Exa Z h62 b6 "com/example/halyard/halyard/model/Price" := F13.ext E62
                    have O62 := O10.ext E62
                    have R62 := R10.trans (CHr.ext E62 C10)
                    have C62 := CHv.ext E62 C10
                    have hk := Nat.le_trans hk E62.1
                    have Z62 : n0 ≤ h62.size := Nat.le_trans Z10 E62.1
                    have F66 : Fld Z h62 b62 "com/example/halyard/halyard/model/ReplaceOrder" "orderId" "Ljava/lang/String;" .null := D62 (Or.inr (hw _ (List.mem_of_getElem? (i := 63) rfl))) (ty := (.object "java/lang/String")) (by decide)
                    have F67 : Fld Z h62 b62 "com/example/halyard/halyard/model/ReplaceOrder" "shares" "J" (.long (0 : Int64)) := D62 (Or.inr (hw _ (List.mem_of_getElem? (i := 65) rfl))) (ty := .long) (by decide)
                    have F68 : Fld Z h62 b62 "com/example/halyard/halyard/model/ReplaceOrder" "price" "Lcom/example/halyard/halyard/model/Price;" .null := D62 (Or.inr (hw _ (List.mem_of_getElem? (i := 67) rfl))) (ty := (.object "com/example/halyard/halyard/model/Price")) (by decide)
                    have F69 : Fld Z h62 b62 "com/example/halyard/halyard/model/ReplaceOrder" "newOrderId" "Ljava/lang/String;" .null := D62 (Or.inr (hw _ (List.mem_of_getElem? (i := 69) rfl))) (ty := (.object "java/lang/String")) (by decide)
                    show Go p e below P (T62.setTop (mkF m 229 #[.val (.int p0), .val (.int p1), .val (.int p2), .val (.long q3), .second, .val (.long q5), .second, .val (.int c0), .val (.int c1), .val (.int d0), .val (.int d1), .val (.int l1), .val (.int l2), .val (.int (0 : Int32)), .val (.ref r_1), .val (.ref r_3), .val (.long ((q3 &&& (4611686018427387903 : Int64)) + (1 : Int64))), .second, .val (.ref b6), .val (.int (0 : Int32))] [(.ref b62)]))
                    refine Go.by (fun _ => XS.dup X62.here hx rfl (hb hby at_229) rfl rfl) ?_
                    show Go p e below P (T62.setTop (mkF m 230 #[.val (.int p0), .val (.int p1), .val (.int p2), .val (.long q3), .second, .val (.long q5), .second, .val (.int c0), .val (.int c1), .val (.int d0), .val (.int d1), .val (.int l1), .val (.int l2), .val (.int (0 : Int32)), .val (.ref r_1), .val (.ref r_3), .val (.long ((q3 &&& (4611686018427387903 : Int64)) + (1 : Int64))), .second, .val (.ref b6), .val (.int (0 : Int32))] [(.ref b62), (.ref b62)]))
                    refine Go.by (fun _ => XS.aload X62.here hx rfl (hb hby at_230) rfl rfl) ?_
                    show Go p e below P (T62.setTop (mkF m 232 #[.val (.int p0), .val (.int p1), .val (.int p2), .val (.long q3), .second, .val (.long q5), .second, .val (.int c0), .val (.int c1), .val (.int d0), .val (.int d1), .val (.int l1), .val (.int l2), .val (.int (0 : Int32)), .val (.ref r_1), .val (.ref r_3), .val (.long ((q3 &&& (4611686018427387903 : Int64)) + (1 : Int64))), .second, .val (.ref b6), .val (.int (0 : Int32))] [(.ref r_1), (.ref b62), (.ref b62)]))
                    refine Go.by (fun _ => XS.lload X62.here hx rfl (hb hby at_232) rfl) ?_
                    show Go p e below P (T62.setTop (mkF m 234 #[.val (.int p0), .val (.int p1), .val (.int p2), .val (.long q3), .second, .val (.long q5), .second, .val (.int c0), .val (.int c1), .val (.int d0), .val (.int d1), .val (.int l1), .val (.int l2), .val (.int (0 : Int32)), .val (.ref r_1), .val (.ref r_3), .val (.long ((q3 &&& (4611686018427387903 : Int64)) + (1 : Int64))), .second, .val (.ref b6), .val (.int (0 : Int32))] [(.long ((q3 &&& (4611686018427387903 : Int64)) + (1 : Int64))), (.ref r_1), (.ref b62), (.ref b62)]))
                    refine Go.by (fun _ => XS.aload X62.here hx rfl (hb hby at_234) rfl rfl) ?_
                    show Go p e below P (T62.setTop (mkF m 236 #[.val (.int p0), .val (.int p1), .val (.int p2), .val (.long q3), .second, .val (.long q5), .second, .val (.int c0), .val (.int c1), .val (.int d0), .val (.int d1), .val (.int l1), .val (.int l2), .val (.int (0 : Int32)), .val (.ref r_1), .val (.ref r_3), .val (.long ((q3 &&& (4611686018427387903 : Int64)) + (1 : Int64))), .second, .val (.ref b6), .val (.int (0 : Int32))] [(.ref b6), (.long ((q3 &&& (4611686018427387903 : Int64)) + (1 : Int64))), (.ref r_1), (.ref b62), (.ref b62)]))
                    refine Go.by (fun _ => XS.aload X62.here hx rfl (hb hby at_236) rfl rfl) ?_
                    show Go p e below P (T62.setTop (mkF m 238 #[.val (.int p0), .val (.int p1), .val (.int p2), .val (.long q3), .second, .val (.long q5), .second, .val (.int c0), .val (.int c1), .val (.int d0), .val (.int d1), .val (.int l1), .val (.int l2), .val (.int (0 : Int32)), .val (.ref r_1), .val (.ref r_3), .val (.long ((q3 &&& (4611686018427387903 : Int64)) + (1 : Int64))), .second, .val (.ref b6), .val (.int (0 : Int32))] [(.ref r_3), (.ref b6), (.long ((q3 &&& (4611686018427387903 : Int64)) + (1 : Int64))), (.ref r_1), (.ref b62), (.ref b62)]))
                    obtain ⟨_, _, ⟨T70, L70, k70, n70⟩, -, X70, ⟨Lc70, hQ70, l70, y70, z70⟩, st70⟩ := X62.specialBack hx (y := (⟨"com/example/halyard/halyard/model/ReplaceOrder", "<init>", "(Ljava/lang/String;JLcom/example/halyard/halyard/model/Price;Ljava/lang/String;)V"⟩ : MethodName)) rfl hown (mvT hZ (hw _ (List.mem_of_getElem? (i := 54) rfl))) (mvT hZ (hw _ (List.mem_of_getElem? (i := 55) rfl))) (mvT hZ (hw _ (List.mem_of_getElem? (i := 56) rfl))) (by decide) (backOf (W := 1) (rm_ro4 l Z a0 hw [] zC hG b62 r_1 (((q3 &&& (4611686018427387903 : Int64)) + (1 : Int64))) b6 r_3 h62 n0 Z62 O62 A62 F66 F67 F68 F69 g_b62 (own_shares q3)) hZ (hw _ (List.mem_of_getElem? (i := 56) rfl)) (hw _ (List.mem_of_getElem? (i := 53) rfl)) (Nat.le_of_ble_eq_true rfl) (Nat.le_of_ble_eq_true rfl)) (g := (mkF m 238 #[.val (.int p0), .val (.int p1), .val (.int p2), .val (.long q3), .second, .val (.long q5), .second, .val (.int c0), .val (.int c1), .val (.int d0), .val (.int d1), .val (.int l1), .val (.int l2), .val (.int (0 : Int32)), .val (.ref r_1), .val (.ref r_3), .val (.long ((q3 &&& (4611686018427387903 : Int64)) + (1 : Int64))), .second, .val (.ref b6), .val (.int (0 : Int32))] [(.ref r_3), (.ref b6), (.long ((q3 &&& (4611686018427387903 : Int64)) + (1 : Int64))), (.ref r_1), (.ref b62), (.ref b62)])) rfl (by rw [hml]; rfl) (Steps.refl _) (a := b62) (argsL := [(.ref r_1), (.long ((q3 &&& (4611686018427387903 : Int64)) + (1 : Int64))), (.ref b6), (.ref r_3)]) (rest := [(.ref b62)]) (lenOf pd_4 rfl) rfl (by show 2 * 0 + _ ≤ _; exact Nat.le_of_eq rfl) (hb hby at_238) (fun _ _ => ⟨rfl, e62, (Nat.le_of_ble_eq_true rfl : 14 + 0 ≤ _), (Nat.le_of_ble_eq_true rfl : 29 + 0 ≤ _)⟩)
                    dsimp only [Pt.U, Pt.locs, Pt.cells, Pt.slots] at X70 l70 y70 z70 st70 hQ70
                    subst l70 y70 z70
                    obtain ⟨rfl, Nq70, Kc70, F71, F72⟩ := hQ70
                    have N70 := Fr.app N10 Nq70
                    refine Go.by (fun _ k => st70.trans k) ?_
                    have F73 : Str Z T70.heap r_1 t_1 (mkL l1 c0 c1) := F63.keep Kc70 (ninS ne_r_1_b62 nin0) (ninS ne_t_1_b62 nin0)
                    have F74 : Str Z T70.heap r_3 t_3 (mkL l2 d0 d1) := F64.keep Kc70 (ninS ne_r_3_b62 nin0) (ninS ne_t_3_b62 nin0)
                    have F75 : Exa Z T70.heap b6 "com/example/halyard/halyard/model/Price" := F65.keep Kc70
                    have F76 : Exa Z T70.heap b62 "com/example/halyard/halyard/model/ReplaceOrder" := A62.keep Kc70
                    have Sk70 := own_sk (ws := [b62]) C62 (allS (Safe.exa (EL := consts_1) hZ.alike A62 (by decide) (by decide)) all0)
                    have R70 := R62.trans (CHr.keep Kc70 Sk70 C62)
                    have C70 := CHv.keep Kc70 Sk70 C62
                    have hk := Nat.le_trans hk Kc70.1
                    have O70 := O62.keep Kc70 (allS g_b62 all0)
                    have Z70 : n0 ≤ T70.heap.size := Nat.le_trans Z62 Kc70.1
                    show Go p e below P (T70.setTop (mkF m 241 #[.val (.int p0), .val (.int p1), .val (.int p2), .val (.long q3), .second, .val (.long q5), .second, .val (.int c0), .val (.int c1), .val (.int d0), .val (.int d1), .val (.int l1), .val (.int l2), .val (.int (0 : Int32)), .val (.ref r_1), .val (.ref r_3), .val (.long ((q3 &&& (4611686018427387903 : Int64)) + (1 : Int64))), .second, .val (.ref b6), .val (.int (0 : Int32))] [(.ref b62)]))
                    obtain ⟨cq77, kq77, qa77, qb77, qc77⟩ := isOf hZ rfl F76
                    obtain ⟨_, _, ⟨T77, L77, k77, n77⟩, -, X77, ⟨Lc77, hQ77, l77, y77, z77⟩, st77⟩ := X70.virtualBack hx (y := (⟨"com/example/halyard/halyard/model/ReplaceOrder", "renames", "()Z"⟩ : MethodName)) (z := (⟨"com/example/halyard/halyard/model/ReplaceOrder", "renames", "()Z"⟩ : MethodName)) hown (mvT hZ (hw _ (List.mem_of_getElem? (i := 70) rfl))) (mvT hZ (hw _ (List.mem_of_getElem? (i := 71) rfl))) (notFace_of_selects (args := #[]) (mvT hZ (hw _ (List.mem_of_getElem? (i := 73) rfl)))) (mvT hZ (hw _ (List.mem_of_getElem? (i := 73) rfl))) (mvT hZ (hw _ (List.mem_of_getElem? (i := 72) rfl))) (by decide) (backOf (W := 0) (rm_ren l Z a0 hw [] zC hG b62 r_1 r_3 t_1 t_3 ((mkL l1 c0 c1)) ((mkL l2 d0 d1)) ((0 : Int32)) T70.heap n0 Z70 O70 F71 F72 F73 F74 (by have hd := own_diff l1 l2 c0 c1 d0 d1 hl1 hl2; rw [if_pos (hd.mpr ⟨hc190.symm, fun _ => hc203.symm, fun q => absurd hc209 q⟩)])) hZ (hw _ (List.mem_of_getElem? (i := 74) rfl)) (hw _ (List.mem_of_getElem? (i := 53) rfl)) (Nat.le_of_ble_eq_true rfl) (Nat.le_of_ble_eq_true rfl)) qa77 qc77 (g := (mkF m 241 #[.val (.int p0), .val (.int p1), .val (.int p2), .val (.long q3), .second, .val (.long q5), .second, .val (.int c0), .val (.int c1), .val (.int d0), .val (.int d1), .val (.int l1), .val (.int l2), .val (.int (0 : Int32)), .val (.ref r_1), .val (.ref r_3), .val (.long ((q3 &&& (4611686018427387903 : Int64)) + (1 : Int64))), .second, .val (.ref b6), .val (.int (0 : Int32))] [(.ref b62)])) rfl (by rw [hml]; rfl) (Steps.refl _) (argsL := []) (rest := []) (lenOf pd_8 rfl) rfl (by show 2 * 0 + _ ≤ _; exact Nat.le_of_eq rfl) (hb hby at_241) (fun _ _ => ⟨rfl, rfl, (Nat.le_of_ble_eq_true rfl : 14 + 0 ≤ _), (Nat.le_of_ble_eq_true rfl : 29 + 0 ≤ _)⟩)
                    dsimp only [Pt.U, Pt.locs, Pt.cells, Pt.slots] at X77 l77 y77 z77 st77 hQ77
                    subst l77 y77 z77
                    obtain ⟨rfl, Nq77, eq77⟩ := hQ77
                    have N77 := Fr.app N70 Nq77
                    refine Go.by (fun _ k => st77.trans k) ?_
                    show Go p e below P (T77.setTop (mkF m 244 #[.val (.int p0), .val (.int p1), .val (.int p2), .val (.long q3), .second, .val (.long q5), .second, .val (.int c0), .val (.int c1), .val (.int d0), .val (.int d1), .val (.int l1), .val (.int l2), .val (.int (0 : Int32)), .val (.ref r_1), .val (.ref r_3), .val (.long ((q3 &&& (4611686018427387903 : Int64)) + (1 : Int64))), .second, .val (.ref b6), .val (.int (0 : Int32))] [(.int (0 : Int32))]))
                    refine Go.by (fun _ => XS.iload X77.here hx rfl (hb hby at_244) rfl) ?_
                    show Go p e below P (T77.setTop (mkF m 246 #[.val (.int p0), .val (.int p1), .val (.int p2), .val (.long q3), .second, .val (.long q5), .second, .val (.int c0), .val (.int c1), .val (.int d0), .val (.int d1), .val (.int l1), .val (.int l2), .val (.int (0 : Int32)), .val (.ref r_1), .val (.ref r_3), .val (.long ((q3 &&& (4611686018427387903 : Int64)) + (1 : Int64))), .second, .val (.ref b6), .val (.int (0 : Int32))] [(.int (0 : Int32)), (.int (0 : Int32))]))
                    have hc246 : (0 : Int32) = (0 : Int32) := by decide
                    refine Go.by (fun _ => XS.icmpNo X77.here hx rfl (hb hby at_246) rfl (teq hc246).2) ?_
                    show Go p e below P (T77.setTop (mkF m 249 #[.val (.int p0), .val (.int p1), .val (.int p2), .val (.long q3), .second, .val (.long q5), .second, .val (.int c0), .val (.int c1), .val (.int d0), .val (.int d1), .val (.int l1), .val (.int l2), .val (.int (0 : Int32)), .val (.ref r_1), .val (.ref r_3), .val (.long ((q3 &&& (4611686018427387903 : Int64)) + (1 : Int64))), .second, .val (.ref b6), .val (.int (0 : Int32))] []))
                    refine Go.by (fun _ => XS.iconst X77.here hx rfl (hb hby at_249)) ?_
                    show Go p e below P (T77.setTop (mkF m 250 #[.val (.int p0), .val (.int p1), .val (.int p2), .val (.long q3), .second, .val (.long q5), .second, .val (.int c0), .val (.int c1), .val (.int d0), .val (.int d1), .val (.int l1), .val (.int l2), .val (.int (0 : Int32)), .val (.ref r_1), .val (.ref r_3), .val (.long ((q3 &&& (4611686018427387903 : Int64)) + (1 : Int64))), .second, .val (.ref b6), .val (.int (0 : Int32))] [(.int (1 : Int32))]))
                    refine Go.by (fun _ => XS.goto X77.here hx rfl (pc0 := 250) (pc' := 254) rfl (hb hby at_250) (by decide) (by decide)) ?_
                    show Go p e below P (T77.setTop (mkF m 254 #[.val (.int p0), .val (.int p1), .val (.int p2), .val (.long q3), .second, .val (.long q5), .second, .val (.int c0), .val (.int c1), .val (.int d0), .val (.int d1), .val (.int l1), .val (.int l2), .val (.int (0 : Int32)), .val (.ref r_1), .val (.ref r_3), .val (.long ((q3 &&& (4611686018427387903 : Int64)) + (1 : Int64))), .second, .val (.ref b6), .val (.int (0 : Int32))] [(.int (1 : Int32))]))
                    subst hP
                    refine Go.retZC (t := .boolean) X77 hx hS (by rw [eq77]; exact hk) Bd.returns (by simp) hlk (hb hby at_254) (Nat.le_of_ble_eq_true rfl) (Nat.le_of_ble_eq_true rfl) ?_ (by rw [hh, eq77]; exact R70.trans (CHv.at X77 hZ (own_EW hw) C70))
                    rw [eq77]
                    exact ⟨rfl, N77⟩
                  · refine Go.by (fun _ => XS.icmpNo X10.here hx rfl (hb hby at_209) rfl (flt hc209).1) ?_
                    show Go p e below P (T10.setTop (mkF m 212 #[.val (.int p0), .val (.int p1), .val (.int p2), .val (.long q3), .second, .val (.long q5), .second, .val (.int c0), .val (.int c1), .val (.int d0), .val (.int d1), .val (.int l1), .val (.int l2), .val (.int (0 : Int32)), .val (.ref r_1), .val (.ref r_3), .val (.long ((q3 &&& (4611686018427387903 : Int64)) + (1 : Int64))), .second, .val (.ref b6), .unset] []))
                    refine Go.by (fun _ => XS.iload X10.here hx rfl (hb hby at_212) rfl) ?_
                    show Go p e below P (T10.setTop (mkF m 214 #[.val (.int p0), .val (.int p1), .val (.int p2), .val (.long q3), .second, .val (.long q5), .second, .val (.int c0), .val (.int c1), .val (.int d0), .val (.int d1), .val (.int l1), .val (.int l2), .val (.int (0 : Int32)), .val (.ref r_1), .val (.ref r_3), .val (.long ((q3 &&& (4611686018427387903 : Int64)) + (1 : Int64))), .second, .val (.ref b6), .unset] [(.int c1)]))
                    refine Go.by (fun _ => XS.iload X10.here hx rfl (hb hby at_214) rfl) ?_
                    show Go p e below P (T10.setTop (mkF m 216 #[.val (.int p0), .val (.int p1), .val (.int p2), .val (.long q3), .second, .val (.long q5), .second, .val (.int c0), .val (.int c1), .val (.int d0), .val (.int d1), .val (.int l1), .val (.int l2), .val (.int (0 : Int32)), .val (.ref r_1), .val (.ref r_3), .val (.long ((q3 &&& (4611686018427387903 : Int64)) + (1 : Int64))), .second, .val (.ref b6), .unset] [(.int d1), (.int c1)]))
                    by_cases hc216 : c1 = d1
                    · refine Go.by (fun _ => XS.icmpYes X10.here hx rfl (pc0 := 216) (pc' := 223) rfl (hb hby at_216) rfl (teq hc216).1 (by decide) (by decide)) ?_
                      show Go p e below P (T10.setTop (mkF m 223 #[.val (.int p0), .val (.int p1), .val (.int p2), .val (.long q3), .second, .val (.long q5), .second, .val (.int c0), .val (.int c1), .val (.int d0), .val (.int d1), .val (.int l1), .val (.int l2), .val (.int (0 : Int32)), .val (.ref r_1), .val (.ref r_3), .val (.long ((q3 &&& (4611686018427387903 : Int64)) + (1 : Int64))), .second, .val (.ref b6), .unset] []))
                      refine Go.by (fun _ => XS.iconst X10.here hx rfl (hb hby at_223)) ?_
                      show Go p e below P (T10.setTop (mkF m 224 #[.val (.int p0), .val (.int p1), .val (.int p2), .val (.long q3), .second, .val (.long q5), .second, .val (.int c0), .val (.int c1), .val (.int d0), .val (.int d1), .val (.int l1), .val (.int l2), .val (.int (0 : Int32)), .val (.ref r_1), .val (.ref r_3), .val (.long ((q3 &&& (4611686018427387903 : Int64)) + (1 : Int64))), .second, .val (.ref b6), .unset] [(.int (0 : Int32))]))
                      refine Go.by (fun _ => XS.istore X10.here hx rfl (hb hby at_224) rfl (l' := #[.val (.int p0), .val (.int p1), .val (.int p2), .val (.long q3), .second, .val (.long q5), .second, .val (.int c0), .val (.int c1), .val (.int d0), .val (.int d1), .val (.int l1), .val (.int l2), .val (.int (0 : Int32)), .val (.ref r_1), .val (.ref r_3), .val (.long ((q3 &&& (4611686018427387903 : Int64)) + (1 : Int64))), .second, .val (.ref b6), .val (.int (0 : Int32))]) rfl) ?_
                      show Go p e below P (T10.setTop (mkF m 226 #[.val (.int p0), .val (.int p1), .val (.int p2), .val (.long q3), .second, .val (.long q5), .second, .val (.int c0), .val (.int c1), .val (.int d0), .val (.int d1), .val (.int l1), .val (.int l2), .val (.int (0 : Int32)), .val (.ref r_1), .val (.ref r_3), .val (.long ((q3 &&& (4611686018427387903 : Int64)) + (1 : Int64))), .second, .val (.ref b6), .val (.int (0 : Int32))] []))
                      obtain ⟨T78, h78, X78, e78, E78, A78, D78, -, st78⟩ := newO X10 hx hZ hown (hw _ (List.mem_of_getElem? (i := 51) rfl)) (hw _ (List.mem_of_getElem? (i := 52) rfl)) (hw _ (List.mem_of_getElem? (i := 53) rfl)) rfl (g := (mkF m 226 #[.val (.int p0), .val (.int p1), .val (.int p2), .val (.long q3), .second, .val (.long q5), .second, .val (.int c0), .val (.int c1), .val (.int d0), .val (.int d1), .val (.int l1), .val (.int l2), .val (.int (0 : Int32)), .val (.ref r_1), .val (.ref r_3), .val (.long ((q3 &&& (4611686018427387903 : Int64)) + (1 : Int64))), .second, .val (.ref b6), .val (.int (0 : Int32))] [])) rfl (hb hby at_226) (Nat.le_of_ble_eq_true rfl) (Nat.le_of_ble_eq_true rfl)
                      obtain ⟨b78, q78⟩ : ∃ z, z = T10.heap.size := ⟨_, rfl⟩
                      rw [← q78] at A78 D78 st78
                      refine Go.by (fun _ => st78 _) ?_
                      have ne_r_1_b78 : r_1 ≠ b78 := Nat.ne_of_lt (Nat.lt_of_lt_of_le F11.ltx (Nat.le_of_eq q78.symm))
                      have ne_t_1_b78 : t_1 ≠ b78 := Nat.ne_of_lt (Nat.lt_of_lt_of_le F11.ltt (Nat.le_of_eq q78.symm))
                      have ne_r_3_b78 : r_3 ≠ b78 := Nat.ne_of_lt (Nat.lt_of_lt_of_le F12.ltx (Nat.le_of_eq q78.symm))
                      have ne_t_3_b78 : t_3 ≠ b78 := Nat.ne_of_lt (Nat.lt_of_lt_of_le F12.ltt (Nat.le_of_eq q78.symm))
                      have ne_b6_b78 : b6 ≠ b78 := Nat.ne_of_lt (Nat.lt_of_lt_of_le F13.lt (Nat.le_of_eq q78.symm))
                      have g_b78 : n0 ≤ b78 := Nat.le_trans Z10 (Nat.le_of_eq q78.symm)
                      have F79 : Str Z h78 r_1 t_1 (mkL l1 c0 c1) := F11.ext E78
                      have F80 : Str Z h78 r_3 t_3 (mkL l2 d0 d1) := F12.ext E78
                      have F81 : Exa Z h78 b6 "com/example/halyard/halyard/model/Price" := F13.ext E78
                      have O78 := O10.ext E78
                      have R78 := R10.trans (CHr.ext E78 C10)
                      have C78 := CHv.ext E78 C10
                      have hk := Nat.le_trans hk E78.1
                      have Z78 : n0 ≤ h78.size := Nat.le_trans Z10 E78.1
                      have F82 : Fld Z h78 b78 "com/example/halyard/halyard/model/ReplaceOrder" "orderId" "Ljava/lang/String;" .null := D78 (Or.inr (hw _ (List.mem_of_getElem? (i := 63) rfl))) (ty := (.object "java/lang/String")) (by decide)
                      have F83 : Fld Z h78 b78 "com/example/halyard/halyard/model/ReplaceOrder" "shares" "J" (.long (0 : Int64)) := D78 (Or.inr (hw _ (List.mem_of_getElem? (i := 65) rfl))) (ty := .long) (by decide)
                      have F84 : Fld Z h78 b78 "com/example/halyard/halyard/model/ReplaceOrder" "price" "Lcom/example/halyard/halyard/model/Price;" .null := D78 (Or.inr (hw _ (List.mem_of_getElem? (i := 67) rfl))) (ty := (.object "com/example/halyard/halyard/model/Price")) (by decide)
                      have F85 : Fld Z h78 b78 "com/example/halyard/halyard/model/ReplaceOrder" "newOrderId" "Ljava/lang/String;" .null := D78 (Or.inr (hw _ (List.mem_of_getElem? (i := 69) rfl))) (ty := (.object "java/lang/String")) (by decide)
                      show Go p e below P (T78.setTop (mkF m 229 #[.val (.int p0), .val (.int p1), .val (.int p2), .val (.long q3), .second, .val (.long q5), .second, .val (.int c0), .val (.int c1), .val (.int d0), .val (.int d1), .val (.int l1), .val (.int l2), .val (.int (0 : Int32)), .val (.ref r_1), .val (.ref r_3), .val (.long ((q3 &&& (4611686018427387903 : Int64)) + (1 : Int64))), .second, .val (.ref b6), .val (.int (0 : Int32))] [(.ref b78)]))
                      refine Go.by (fun _ => XS.dup X78.here hx rfl (hb hby at_229) rfl rfl) ?_
                      show Go p e below P (T78.setTop (mkF m 230 #[.val (.int p0), .val (.int p1), .val (.int p2), .val (.long q3), .second, .val (.long q5), .second, .val (.int c0), .val (.int c1), .val (.int d0), .val (.int d1), .val (.int l1), .val (.int l2), .val (.int (0 : Int32)), .val (.ref r_1), .val (.ref r_3), .val (.long ((q3 &&& (4611686018427387903 : Int64)) + (1 : Int64))), .second, .val (.ref b6), .val (.int (0 : Int32))] [(.ref b78), (.ref b78)]))
                      refine Go.by (fun _ => XS.aload X78.here hx rfl (hb hby at_230) rfl rfl) ?_
                      show Go p e below P (T78.setTop (mkF m 232 #[.val (.int p0), .val (.int p1), .val (.int p2), .val (.long q3), .second, .val (.long q5), .second, .val (.int c0), .val (.int c1), .val (.int d0), .val (.int d1), .val (.int l1), .val (.int l2), .val (.int (0 : Int32)), .val (.ref r_1), .val (.ref r_3), .val (.long ((q3 &&& (4611686018427387903 : Int64)) + (1 : Int64))), .second, .val (.ref b6), .val (.int (0 : Int32))] [(.ref r_1), (.ref b78), (.ref b78)]))
                      refine Go.by (fun _ => XS.lload X78.here hx rfl (hb hby at_232) rfl) ?_
                      show Go p e below P (T78.setTop (mkF m 234 #[.val (.int p0), .val (.int p1), .val (.int p2), .val (.long q3), .second, .val (.long q5), .second, .val (.int c0), .val (.int c1), .val (.int d0), .val (.int d1), .val (.int l1), .val (.int l2), .val (.int (0 : Int32)), .val (.ref r_1), .val (.ref r_3), .val (.long ((q3 &&& (4611686018427387903 : Int64)) + (1 : Int64))), .second, .val (.ref b6), .val (.int (0 : Int32))] [(.long ((q3 &&& (4611686018427387903 : Int64)) + (1 : Int64))), (.ref r_1), (.ref b78), (.ref b78)]))
                      refine Go.by (fun _ => XS.aload X78.here hx rfl (hb hby at_234) rfl rfl) ?_
                      show Go p e below P (T78.setTop (mkF m 236 #[.val (.int p0), .val (.int p1), .val (.int p2), .val (.long q3), .second, .val (.long q5), .second, .val (.int c0), .val (.int c1), .val (.int d0), .val (.int d1), .val (.int l1), .val (.int l2), .val (.int (0 : Int32)), .val (.ref r_1), .val (.ref r_3), .val (.long ((q3 &&& (4611686018427387903 : Int64)) + (1 : Int64))), .second, .val (.ref b6), .val (.int (0 : Int32))] [(.ref b6), (.long ((q3 &&& (4611686018427387903 : Int64)) + (1 : Int64))), (.ref r_1), (.ref b78), (.ref b78)]))
                      refine Go.by (fun _ => XS.aload X78.here hx rfl (hb hby at_236) rfl rfl) ?_
                      show Go p e below P (T78.setTop (mkF m 238 #[.val (.int p0), .val (.int p1), .val (.int p2), .val (.long q3), .second, .val (.long q5), .second, .val (.int c0), .val (.int c1), .val (.int d0), .val (.int d1), .val (.int l1), .val (.int l2), .val (.int (0 : Int32)), .val (.ref r_1), .val (.ref r_3), .val (.long ((q3 &&& (4611686018427387903 : Int64)) + (1 : Int64))), .second, .val (.ref b6), .val (.int (0 : Int32))] [(.ref r_3), (.ref b6), (.long ((q3 &&& (4611686018427387903 : Int64)) + (1 : Int64))), (.ref r_1), (.ref b78), (.ref b78)]))
                      obtain ⟨_, _, ⟨T86, L86, k86, n86⟩, -, X86, ⟨Lc86, hQ86, l86, y86, z86⟩, st86⟩ := X78.specialBack hx (y := (⟨"com/example/halyard/halyard/model/ReplaceOrder", "<init>", "(Ljava/lang/String;JLcom/example/halyard/halyard/model/Price;Ljava/lang/String;)V"⟩ : MethodName)) rfl hown (mvT hZ (hw _ (List.mem_of_getElem? (i := 54) rfl))) (mvT hZ (hw _ (List.mem_of_getElem? (i := 55) rfl))) (mvT hZ (hw _ (List.mem_of_getElem? (i := 56) rfl))) (by decide) (backOf (W := 1) (rm_ro4 l Z a0 hw [] zC hG b78 r_1 (((q3 &&& (4611686018427387903 : Int64)) + (1 : Int64))) b6 r_3 h78 n0 Z78 O78 A78 F82 F83 F84 F85 g_b78 (own_shares q3)) hZ (hw _ (List.mem_of_getElem? (i := 56) rfl)) (hw _ (List.mem_of_getElem? (i := 53) rfl)) (Nat.le_of_ble_eq_true rfl) (Nat.le_of_ble_eq_true rfl)) (g := (mkF m 238 #[.val (.int p0), .val (.int p1), .val (.int p2), .val (.long q3), .second, .val (.long q5), .second, .val (.int c0), .val (.int c1), .val (.int d0), .val (.int d1), .val (.int l1), .val (.int l2), .val (.int (0 : Int32)), .val (.ref r_1), .val (.ref r_3), .val (.long ((q3 &&& (4611686018427387903 : Int64)) + (1 : Int64))), .second, .val (.ref b6), .val (.int (0 : Int32))] [(.ref r_3), (.ref b6), (.long ((q3 &&& (4611686018427387903 : Int64)) + (1 : Int64))), (.ref r_1), (.ref b78), (.ref b78)])) rfl (by rw [hml]; rfl) (Steps.refl _) (a := b78) (argsL := [(.ref r_1), (.long ((q3 &&& (4611686018427387903 : Int64)) + (1 : Int64))), (.ref b6), (.ref r_3)]) (rest := [(.ref b78)]) (lenOf pd_4 rfl) rfl (by show 2 * 0 + _ ≤ _; exact Nat.le_of_eq rfl) (hb hby at_238) (fun _ _ => ⟨rfl, e78, (Nat.le_of_ble_eq_true rfl : 14 + 0 ≤ _), (Nat.le_of_ble_eq_true rfl : 29 + 0 ≤ _)⟩)
                      dsimp only [Pt.U, Pt.locs, Pt.cells, Pt.slots] at X86 l86 y86 z86 st86 hQ86
                      subst l86 y86 z86
                      obtain ⟨rfl, Nq86, Kc86, F87, F88⟩ := hQ86
                      have N86 := Fr.app N10 Nq86
                      refine Go.by (fun _ k => st86.trans k) ?_
                      have F89 : Str Z T86.heap r_1 t_1 (mkL l1 c0 c1) := F79.keep Kc86 (ninS ne_r_1_b78 nin0) (ninS ne_t_1_b78 nin0)
                      have F90 : Str Z T86.heap r_3 t_3 (mkL l2 d0 d1) := F80.keep Kc86 (ninS ne_r_3_b78 nin0) (ninS ne_t_3_b78 nin0)
                      have F91 : Exa Z T86.heap b6 "com/example/halyard/halyard/model/Price" := F81.keep Kc86
                      have F92 : Exa Z T86.heap b78 "com/example/halyard/halyard/model/ReplaceOrder" := A78.keep Kc86
                      have Sk86 := own_sk (ws := [b78]) C78 (allS (Safe.exa (EL := consts_1) hZ.alike A78 (by decide) (by decide)) all0)
                      have R86 := R78.trans (CHr.keep Kc86 Sk86 C78)
                      have C86 := CHv.keep Kc86 Sk86 C78
                      have hk := Nat.le_trans hk Kc86.1
                      have O86 := O78.keep Kc86 (allS g_b78 all0)
                      have Z86 : n0 ≤ T86.heap.size := Nat.le_trans Z78 Kc86.1
                      show Go p e below P (T86.setTop (mkF m 241 #[.val (.int p0), .val (.int p1), .val (.int p2), .val (.long q3), .second, .val (.long q5), .second, .val (.int c0), .val (.int c1), .val (.int d0), .val (.int d1), .val (.int l1), .val (.int l2), .val (.int (0 : Int32)), .val (.ref r_1), .val (.ref r_3), .val (.long ((q3 &&& (4611686018427387903 : Int64)) + (1 : Int64))), .second, .val (.ref b6), .val (.int (0 : Int32))] [(.ref b78)]))
                      obtain ⟨cq93, kq93, qa93, qb93, qc93⟩ := isOf hZ rfl F92
                      obtain ⟨_, _, ⟨T93, L93, k93, n93⟩, -, X93, ⟨Lc93, hQ93, l93, y93, z93⟩, st93⟩ := X86.virtualBack hx (y := (⟨"com/example/halyard/halyard/model/ReplaceOrder", "renames", "()Z"⟩ : MethodName)) (z := (⟨"com/example/halyard/halyard/model/ReplaceOrder", "renames", "()Z"⟩ : MethodName)) hown (mvT hZ (hw _ (List.mem_of_getElem? (i := 70) rfl))) (mvT hZ (hw _ (List.mem_of_getElem? (i := 71) rfl))) (notFace_of_selects (args := #[]) (mvT hZ (hw _ (List.mem_of_getElem? (i := 73) rfl)))) (mvT hZ (hw _ (List.mem_of_getElem? (i := 73) rfl))) (mvT hZ (hw _ (List.mem_of_getElem? (i := 72) rfl))) (by decide) (backOf (W := 0) (rm_ren l Z a0 hw [] zC hG b78 r_1 r_3 t_1 t_3 ((mkL l1 c0 c1)) ((mkL l2 d0 d1)) ((0 : Int32)) T86.heap n0 Z86 O86 F87 F88 F89 F90 (by have hd := own_diff l1 l2 c0 c1 d0 d1 hl1 hl2; rw [if_pos (hd.mpr ⟨hc190.symm, fun _ => hc203.symm, fun _ => hc216.symm⟩)])) hZ (hw _ (List.mem_of_getElem? (i := 74) rfl)) (hw _ (List.mem_of_getElem? (i := 53) rfl)) (Nat.le_of_ble_eq_true rfl) (Nat.le_of_ble_eq_true rfl)) qa93 qc93 (g := (mkF m 241 #[.val (.int p0), .val (.int p1), .val (.int p2), .val (.long q3), .second, .val (.long q5), .second, .val (.int c0), .val (.int c1), .val (.int d0), .val (.int d1), .val (.int l1), .val (.int l2), .val (.int (0 : Int32)), .val (.ref r_1), .val (.ref r_3), .val (.long ((q3 &&& (4611686018427387903 : Int64)) + (1 : Int64))), .second, .val (.ref b6), .val (.int (0 : Int32))] [(.ref b78)])) rfl (by rw [hml]; rfl) (Steps.refl _) (argsL := []) (rest := []) (lenOf pd_8 rfl) rfl (by show 2 * 0 + _ ≤ _; exact Nat.le_of_eq rfl) (hb hby at_241) (fun _ _ => ⟨rfl, rfl, (Nat.le_of_ble_eq_true rfl : 14 + 0 ≤ _), (Nat.le_of_ble_eq_true rfl : 29 + 0 ≤ _)⟩)
                      dsimp only [Pt.U, Pt.locs, Pt.cells, Pt.slots] at X93 l93 y93 z93 st93 hQ93
                      subst l93 y93 z93
                      obtain ⟨rfl, Nq93, eq93⟩ := hQ93
                      have N93 := Fr.app N86 Nq93
                      refine Go.by (fun _ k => st93.trans k) ?_
                      show Go p e below P (T93.setTop (mkF m 244 #[.val (.int p0), .val (.int p1), .val (.int p2), .val (.long q3), .second, .val (.long q5), .second, .val (.int c0), .val (.int c1), .val (.int d0), .val (.int d1), .val (.int l1), .val (.int l2), .val (.int (0 : Int32)), .val (.ref r_1), .val (.ref r_3), .val (.long ((q3 &&& (4611686018427387903 : Int64)) + (1 : Int64))), .second, .val (.ref b6), .val (.int (0 : Int32))] [(.int (0 : Int32))]))
                      refine Go.by (fun _ => XS.iload X93.here hx rfl (hb hby at_244) rfl) ?_
                      show Go p e below P (T93.setTop (mkF m 246 #[.val (.int p0), .val (.int p1), .val (.int p2), .val (.long q3), .second, .val (.long q5), .second, .val (.int c0), .val (.int c1), .val (.int d0), .val (.int d1), .val (.int l1), .val (.int l2), .val (.int (0 : Int32)), .val (.ref r_1), .val (.ref r_3), .val (.long ((q3 &&& (4611686018427387903 : Int64)) + (1 : Int64))), .second, .val (.ref b6), .val (.int (0 : Int32))] [(.int (0 : Int32)), (.int (0 : Int32))]))
                      have hc246 : (0 : Int32) = (0 : Int32) := by decide
                      refine Go.by (fun _ => XS.icmpNo X93.here hx rfl (hb hby at_246) rfl (teq hc246).2) ?_
                      show Go p e below P (T93.setTop (mkF m 249 #[.val (.int p0), .val (.int p1), .val (.int p2), .val (.long q3), .second, .val (.long q5), .second, .val (.int c0), .val (.int c1), .val (.int d0), .val (.int d1), .val (.int l1), .val (.int l2), .val (.int (0 : Int32)), .val (.ref r_1), .val (.ref r_3), .val (.long ((q3 &&& (4611686018427387903 : Int64)) + (1 : Int64))), .second, .val (.ref b6), .val (.int (0 : Int32))] []))
                      refine Go.by (fun _ => XS.iconst X93.here hx rfl (hb hby at_249)) ?_
                      show Go p e below P (T93.setTop (mkF m 250 #[.val (.int p0), .val (.int p1), .val (.int p2), .val (.long q3), .second, .val (.long q5), .second, .val (.int c0), .val (.int c1), .val (.int d0), .val (.int d1), .val (.int l1), .val (.int l2), .val (.int (0 : Int32)), .val (.ref r_1), .val (.ref r_3), .val (.long ((q3 &&& (4611686018427387903 : Int64)) + (1 : Int64))), .second, .val (.ref b6), .val (.int (0 : Int32))] [(.int (1 : Int32))]))
                      refine Go.by (fun _ => XS.goto X93.here hx rfl (pc0 := 250) (pc' := 254) rfl (hb hby at_250) (by decide) (by decide)) ?_
                      show Go p e below P (T93.setTop (mkF m 254 #[.val (.int p0), .val (.int p1), .val (.int p2), .val (.long q3), .second, .val (.long q5), .second, .val (.int c0), .val (.int c1), .val (.int d0), .val (.int d1), .val (.int l1), .val (.int l2), .val (.int (0 : Int32)), .val (.ref r_1), .val (.ref r_3), .val (.long ((q3 &&& (4611686018427387903 : Int64)) + (1 : Int64))), .second, .val (.ref b6), .val (.int (0 : Int32))] [(.int (1 : Int32))]))
                      subst hP
                      refine Go.retZC (t := .boolean) X93 hx hS (by rw [eq93]; exact hk) Bd.returns (by simp) hlk (hb hby at_254) (Nat.le_of_ble_eq_true rfl) (Nat.le_of_ble_eq_true rfl) ?_ (by rw [hh, eq93]; exact R86.trans (CHv.at X93 hZ (own_EW hw) C86))
                      rw [eq93]
                      exact ⟨rfl, N93⟩
                    · refine Go.by (fun _ => XS.icmpNo X10.here hx rfl (hb hby at_216) rfl (feq hc216).1) ?_
                      show Go p e below P (T10.setTop (mkF m 219 #[.val (.int p0), .val (.int p1), .val (.int p2), .val (.long q3), .second, .val (.long q5), .second, .val (.int c0), .val (.int c1), .val (.int d0), .val (.int d1), .val (.int l1), .val (.int l2), .val (.int (0 : Int32)), .val (.ref r_1), .val (.ref r_3), .val (.long ((q3 &&& (4611686018427387903 : Int64)) + (1 : Int64))), .second, .val (.ref b6), .unset] []))
                      refine Go.by (fun _ => XS.iconst X10.here hx rfl (hb hby at_219)) ?_
                      show Go p e below P (T10.setTop (mkF m 220 #[.val (.int p0), .val (.int p1), .val (.int p2), .val (.long q3), .second, .val (.long q5), .second, .val (.int c0), .val (.int c1), .val (.int d0), .val (.int d1), .val (.int l1), .val (.int l2), .val (.int (0 : Int32)), .val (.ref r_1), .val (.ref r_3), .val (.long ((q3 &&& (4611686018427387903 : Int64)) + (1 : Int64))), .second, .val (.ref b6), .unset] [(.int (1 : Int32))]))
                      refine Go.by (fun _ => XS.goto X10.here hx rfl (pc0 := 220) (pc' := 224) rfl (hb hby at_220) (by decide) (by decide)) ?_
                      show Go p e below P (T10.setTop (mkF m 224 #[.val (.int p0), .val (.int p1), .val (.int p2), .val (.long q3), .second, .val (.long q5), .second, .val (.int c0), .val (.int c1), .val (.int d0), .val (.int d1), .val (.int l1), .val (.int l2), .val (.int (0 : Int32)), .val (.ref r_1), .val (.ref r_3), .val (.long ((q3 &&& (4611686018427387903 : Int64)) + (1 : Int64))), .second, .val (.ref b6), .unset] [(.int (1 : Int32))]))
                      refine Go.by (fun _ => XS.istore X10.here hx rfl (hb hby at_224) rfl (l' := #[.val (.int p0), .val (.int p1), .val (.int p2), .val (.long q3), .second, .val (.long q5), .second, .val (.int c0), .val (.int c1), .val (.int d0), .val (.int d1), .val (.int l1), .val (.int l2), .val (.int (0 : Int32)), .val (.ref r_1), .val (.ref r_3), .val (.long ((q3 &&& (4611686018427387903 : Int64)) + (1 : Int64))), .second, .val (.ref b6), .val (.int (1 : Int32))]) rfl) ?_
                      show Go p e below P (T10.setTop (mkF m 226 #[.val (.int p0), .val (.int p1), .val (.int p2), .val (.long q3), .second, .val (.long q5), .second, .val (.int c0), .val (.int c1), .val (.int d0), .val (.int d1), .val (.int l1), .val (.int l2), .val (.int (0 : Int32)), .val (.ref r_1), .val (.ref r_3), .val (.long ((q3 &&& (4611686018427387903 : Int64)) + (1 : Int64))), .second, .val (.ref b6), .val (.int (1 : Int32))] []))
                      obtain ⟨T94, h94, X94, e94, E94, A94, D94, -, st94⟩ := newO X10 hx hZ hown (hw _ (List.mem_of_getElem? (i := 51) rfl)) (hw _ (List.mem_of_getElem? (i := 52) rfl)) (hw _ (List.mem_of_getElem? (i := 53) rfl)) rfl (g := (mkF m 226 #[.val (.int p0), .val (.int p1), .val (.int p2), .val (.long q3), .second, .val (.long q5), .second, .val (.int c0), .val (.int c1), .val (.int d0), .val (.int d1), .val (.int l1), .val (.int l2), .val (.int (0 : Int32)), .val (.ref r_1), .val (.ref r_3), .val (.long ((q3 &&& (4611686018427387903 : Int64)) + (1 : Int64))), .second, .val (.ref b6), .val (.int (1 : Int32))] [])) rfl (hb hby at_226) (Nat.le_of_ble_eq_true rfl) (Nat.le_of_ble_eq_true rfl)
                      obtain ⟨b94, q94⟩ : ∃ z, z = T10.heap.size := ⟨_, rfl⟩
                      rw [← q94] at A94 D94 st94
                      refine Go.by (fun _ => st94 _) ?_
                      have ne_r_1_b94 : r_1 ≠ b94 := Nat.ne_of_lt (Nat.lt_of_lt_of_le F11.ltx (Nat.le_of_eq q94.symm))
                      have ne_t_1_b94 : t_1 ≠ b94 := Nat.ne_of_lt (Nat.lt_of_lt_of_le F11.ltt (Nat.le_of_eq q94.symm))
                      have ne_r_3_b94 : r_3 ≠ b94 := Nat.ne_of_lt (Nat.lt_of_lt_of_le F12.ltx (Nat.le_of_eq q94.symm))
                      have ne_t_3_b94 : t_3 ≠ b94 := Nat.ne_of_lt (Nat.lt_of_lt_of_le F12.ltt (Nat.le_of_eq q94.symm))
                      have ne_b6_b94 : b6 ≠ b94 := Nat.ne_of_lt (Nat.lt_of_lt_of_le F13.lt (Nat.le_of_eq q94.symm))
                      have g_b94 : n0 ≤ b94 := Nat.le_trans Z10 (Nat.le_of_eq q94.symm)
                      have F95 : Str Z h94 r_1 t_1 (mkL l1 c0 c1) := F11.ext E94
                      have F96 : Str Z h94 r_3 t_3 (mkL l2 d0 d1) := F12.ext E94
                      have F97 : Exa Z h94 b6 "com/example/halyard/halyard/model/Price" := F13.ext E94
                      have O94 := O10.ext E94
                      have R94 := R10.trans (CHr.ext E94 C10)
                      have C94 := CHv.ext E94 C10
                      have hk := Nat.le_trans hk E94.1
                      have Z94 : n0 ≤ h94.size := Nat.le_trans Z10 E94.1
                      have F98 : Fld Z h94 b94 "com/example/halyard/halyard/model/ReplaceOrder" "orderId" "Ljava/lang/String;" .null := D94 (Or.inr (hw _ (List.mem_of_getElem? (i := 63) rfl))) (ty := (.object "java/lang/String")) (by decide)
                      have F99 : Fld Z h94 b94 "com/example/halyard/halyard/model/ReplaceOrder" "shares" "J" (.long (0 : Int64)) := D94 (Or.inr (hw _ (List.mem_of_getElem? (i := 65) rfl))) (ty := .long) (by decide)
                      have F100 : Fld Z h94 b94 "com/example/halyard/halyard/model/ReplaceOrder" "price" "Lcom/example/halyard/halyard/model/Price;" .null := D94 (Or.inr (hw _ (List.mem_of_getElem? (i := 67) rfl))) (ty := (.object "com/example/halyard/halyard/model/Price")) (by decide)
                      have F101 : Fld Z h94 b94 "com/example/halyard/halyard/model/ReplaceOrder" "newOrderId" "Ljava/lang/String;" .null := D94 (Or.inr (hw _ (List.mem_of_getElem? (i := 69) rfl))) (ty := (.object "java/lang/String")) (by decide)
                      show Go p e below P (T94.setTop (mkF m 229 #[.val (.int p0), .val (.int p1), .val (.int p2), .val (.long q3), .second, .val (.long q5), .second, .val (.int c0), .val (.int c1), .val (.int d0), .val (.int d1), .val (.int l1), .val (.int l2), .val (.int (0 : Int32)), .val (.ref r_1), .val (.ref r_3), .val (.long ((q3 &&& (4611686018427387903 : Int64)) + (1 : Int64))), .second, .val (.ref b6), .val (.int (1 : Int32))] [(.ref b94)]))
                      refine Go.by (fun _ => XS.dup X94.here hx rfl (hb hby at_229) rfl rfl) ?_
                      show Go p e below P (T94.setTop (mkF m 230 #[.val (.int p0), .val (.int p1), .val (.int p2), .val (.long q3), .second, .val (.long q5), .second, .val (.int c0), .val (.int c1), .val (.int d0), .val (.int d1), .val (.int l1), .val (.int l2), .val (.int (0 : Int32)), .val (.ref r_1), .val (.ref r_3), .val (.long ((q3 &&& (4611686018427387903 : Int64)) + (1 : Int64))), .second, .val (.ref b6), .val (.int (1 : Int32))] [(.ref b94), (.ref b94)]))
                      refine Go.by (fun _ => XS.aload X94.here hx rfl (hb hby at_230) rfl rfl) ?_
                      show Go p e below P (T94.setTop (mkF m 232 #[.val (.int p0), .val (.int p1), .val (.int p2), .val (.long q3), .second, .val (.long q5), .second, .val (.int c0), .val (.int c1), .val (.int d0), .val (.int d1), .val (.int l1), .val (.int l2), .val (.int (0 : Int32)), .val (.ref r_1), .val (.ref r_3), .val (.long ((q3 &&& (4611686018427387903 : Int64)) + (1 : Int64))), .second, .val (.ref b6), .val (.int (1 : Int32))] [(.ref r_1), (.ref b94), (.ref b94)]))
                      refine Go.by (fun _ => XS.lload X94.here hx rfl (hb hby at_232) rfl) ?_
                      show Go p e below P (T94.setTop (mkF m 234 #[.val (.int p0), .val (.int p1), .val (.int p2), .val (.long q3), .second, .val (.long q5), .second, .val (.int c0), .val (.int c1), .val (.int d0), .val (.int d1), .val (.int l1), .val (.int l2), .val (.int (0 : Int32)), .val (.ref r_1), .val (.ref r_3), .val (.long ((q3 &&& (4611686018427387903 : Int64)) + (1 : Int64))), .second, .val (.ref b6), .val (.int (1 : Int32))] [(.long ((q3 &&& (4611686018427387903 : Int64)) + (1 : Int64))), (.ref r_1), (.ref b94), (.ref b94)]))
                      refine Go.by (fun _ => XS.aload X94.here hx rfl (hb hby at_234) rfl rfl) ?_
                      show Go p e below P (T94.setTop (mkF m 236 #[.val (.int p0), .val (.int p1), .val (.int p2), .val (.long q3), .second, .val (.long q5), .second, .val (.int c0), .val (.int c1), .val (.int d0), .val (.int d1), .val (.int l1), .val (.int l2), .val (.int (0 : Int32)), .val (.ref r_1), .val (.ref r_3), .val (.long ((q3 &&& (4611686018427387903 : Int64)) + (1 : Int64))), .second, .val (.ref b6), .val (.int (1 : Int32))] [(.ref b6), (.long ((q3 &&& (4611686018427387903 : Int64)) + (1 : Int64))), (.ref r_1), (.ref b94), (.ref b94)]))
                      refine Go.by (fun _ => XS.aload X94.here hx rfl (hb hby at_236) rfl rfl) ?_
                      show Go p e below P (T94.setTop (mkF m 238 #[.val (.int p0), .val (.int p1), .val (.int p2), .val (.long q3), .second, .val (.long q5), .second, .val (.int c0), .val (.int c1), .val (.int d0), .val (.int d1), .val (.int l1), .val (.int l2), .val (.int (0 : Int32)), .val (.ref r_1), .val (.ref r_3), .val (.long ((q3 &&& (4611686018427387903 : Int64)) + (1 : Int64))), .second, .val (.ref b6), .val (.int (1 : Int32))] [(.ref r_3), (.ref b6), (.long ((q3 &&& (4611686018427387903 : Int64)) + (1 : Int64))), (.ref r_1), (.ref b94), (.ref b94)]))
                      obtain ⟨_, _, ⟨T102, L102, k102, n102⟩, -, X102, ⟨Lc102, hQ102, l102, y102, z102⟩, st102⟩ := X94.specialBack hx (y := (⟨"com/example/halyard/halyard/model/ReplaceOrder", "<init>", "(Ljava/lang/String;JLcom/example/halyard/halyard/model/Price;Ljava/lang/String;)V"⟩ : MethodName)) rfl hown (mvT hZ (hw _ (List.mem_of_getElem? (i := 54) rfl))) (mvT hZ (hw _ (List.mem_of_getElem? (i := 55) rfl))) (mvT hZ (hw _ (List.mem_of_getElem? (i := 56) rfl))) (by decide) (backOf (W := 1) (rm_ro4 l Z a0 hw [] zC hG b94 r_1 (((q3 &&& (4611686018427387903 : Int64)) + (1 : Int64))) b6 r_3 h94 n0 Z94 O94 A94 F98 F99 F100 F101 g_b94 (own_shares q3)) hZ (hw _ (List.mem_of_getElem? (i := 56) rfl)) (hw _ (List.mem_of_getElem? (i := 53) rfl)) (Nat.le_of_ble_eq_true rfl) (Nat.le_of_ble_eq_true rfl)) (g := (mkF m 238 #[.val (.int p0), .val (.int p1), .val (.int p2), .val (.long q3), .second, .val (.long q5), .second, .val (.int c0), .val (.int c1), .val (.int d0), .val (.int d1), .val (.int l1), .val (.int l2), .val (.int (0 : Int32)), .val (.ref r_1), .val (.ref r_3), .val (.long ((q3 &&& (4611686018427387903 : Int64)) + (1 : Int64))), .second, .val (.ref b6), .val (.int (1 : Int32))] [(.ref r_3), (.ref b6), (.long ((q3 &&& (4611686018427387903 : Int64)) + (1 : Int64))), (.ref r_1), (.ref b94), (.ref b94)])) rfl (by rw [hml]; rfl) (Steps.refl _) (a := b94) (argsL := [(.ref r_1), (.long ((q3 &&& (4611686018427387903 : Int64)) + (1 : Int64))), (.ref b6), (.ref r_3)]) (rest := [(.ref b94)]) (lenOf pd_4 rfl) rfl (by show 2 * 0 + _ ≤ _; exact Nat.le_of_eq rfl) (hb hby at_238) (fun _ _ => ⟨rfl, e94, (Nat.le_of_ble_eq_true rfl : 14 + 0 ≤ _), (Nat.le_of_ble_eq_true rfl : 29 + 0 ≤ _)⟩)
                      dsimp only [Pt.U, Pt.locs, Pt.cells, Pt.slots] at X102 l102 y102 z102 st102 hQ102
                      subst l102 y102 z102
                      obtain ⟨rfl, Nq102, Kc102, F103, F104⟩ := hQ102
                      have N102 := Fr.app N10 Nq102
                      refine Go.by (fun _ k => st102.trans k) ?_
                      have F105 : Str Z T102.heap r_1 t_1 (mkL l1 c0 c1) := F95.keep Kc102 (ninS ne_r_1_b94 nin0) (ninS ne_t_1_b94 nin0)
                      have F106 : Str Z T102.heap r_3 t_3 (mkL l2 d0 d1) := F96.keep Kc102 (ninS ne_r_3_b94 nin0) (ninS ne_t_3_b94 nin0)
                      have F107 : Exa Z T102.heap b6 "com/example/halyard/halyard/model/Price" := F97.keep Kc102
                      have F108 : Exa Z T102.heap b94 "com/example/halyard/halyard/model/ReplaceOrder" := A94.keep Kc102
                      have Sk102 := own_sk (ws := [b94]) C94 (allS (Safe.exa (EL := consts_1) hZ.alike A94 (by decide) (by decide)) all0)
                      have R102 := R94.trans (CHr.keep Kc102 Sk102 C94)
                      have C102 := CHv.keep Kc102 Sk102 C94
                      have hk := Nat.le_trans hk Kc102.1
                      have O102 := O94.keep Kc102 (allS g_b94 all0)
                      have Z102 : n0 ≤ T102.heap.size := Nat.le_trans Z94 Kc102.1
                      show Go p e below P (T102.setTop (mkF m 241 #[.val (.int p0), .val (.int p1), .val (.int p2), .val (.long q3), .second, .val (.long q5), .second, .val (.int c0), .val (.int c1), .val (.int d0), .val (.int d1), .val (.int l1), .val (.int l2), .val (.int (0 : Int32)), .val (.ref r_1), .val (.ref r_3), .val (.long ((q3 &&& (4611686018427387903 : Int64)) + (1 : Int64))), .second, .val (.ref b6), .val (.int (1 : Int32))] [(.ref b94)]))
                      obtain ⟨cq109, kq109, qa109, qb109, qc109⟩ := isOf hZ rfl F108
                      obtain ⟨_, _, ⟨T109, L109, k109, n109⟩, -, X109, ⟨Lc109, hQ109, l109, y109, z109⟩, st109⟩ := X102.virtualBack hx (y := (⟨"com/example/halyard/halyard/model/ReplaceOrder", "renames", "()Z"⟩ : MethodName)) (z := (⟨"com/example/halyard/halyard/model/ReplaceOrder", "renames", "()Z"⟩ : MethodName)) hown (mvT hZ (hw _ (List.mem_of_getElem? (i := 70) rfl))) (mvT hZ (hw _ (List.mem_of_getElem? (i := 71) rfl))) (notFace_of_selects (args := #[]) (mvT hZ (hw _ (List.mem_of_getElem? (i := 73) rfl)))) (mvT hZ (hw _ (List.mem_of_getElem? (i := 73) rfl))) (mvT hZ (hw _ (List.mem_of_getElem? (i := 72) rfl))) (by decide) (backOf (W := 0) (rm_ren l Z a0 hw [] zC hG b94 r_1 r_3 t_1 t_3 ((mkL l1 c0 c1)) ((mkL l2 d0 d1)) ((1 : Int32)) T102.heap n0 Z102 O102 F103 F104 F105 F106 (by have hd := own_diff l1 l2 c0 c1 d0 d1 hl1 hl2; rw [if_neg (fun q => absurd (hd.mp q) (by intro z; first | (exact hc190 z.1.symm) | (exact hc190 z.1) | (exact hc203 (z.2.1 hc196).symm) | (exact hc203 (z.2.1 hc196)) | (exact hc216 (z.2.2 hc209).symm) | (exact hc216 (z.2.2 hc209))))])) hZ (hw _ (List.mem_of_getElem? (i := 74) rfl)) (hw _ (List.mem_of_getElem? (i := 53) rfl)) (Nat.le_of_ble_eq_true rfl) (Nat.le_of_ble_eq_true rfl)) qa109 qc109 (g := (mkF m 241 #[.val (.int p0), .val (.int p1), .val (.int p2), .val (.long q3), .second, .val (.long q5), .second, .val (.int c0), .val (.int c1), .val (.int d0), .val (.int d1), .val (.int l1), .val (.int l2), .val (.int (0 : Int32)), .val (.ref r_1), .val (.ref r_3), .val (.long ((q3 &&& (4611686018427387903 : Int64)) + (1 : Int64))), .second, .val (.ref b6), .val (.int (1 : Int32))] [(.ref b94)])) rfl (by rw [hml]; rfl) (Steps.refl _) (argsL := []) (rest := []) (lenOf pd_8 rfl) rfl (by show 2 * 0 + _ ≤ _; exact Nat.le_of_eq rfl) (hb hby at_241) (fun _ _ => ⟨rfl, rfl, (Nat.le_of_ble_eq_true rfl : 14 + 0 ≤ _), (Nat.le_of_ble_eq_true rfl : 29 + 0 ≤ _)⟩)
                      dsimp only [Pt.U, Pt.locs, Pt.cells, Pt.slots] at X109 l109 y109 z109 st109 hQ109
                      subst l109 y109 z109
                      obtain ⟨rfl, Nq109, eq109⟩ := hQ109
                      have N109 := Fr.app N102 Nq109
                      refine Go.by (fun _ k => st109.trans k) ?_
                      show Go p e below P (T109.setTop (mkF m 244 #[.val (.int p0), .val (.int p1), .val (.int p2), .val (.long q3), .second, .val (.long q5), .second, .val (.int c0), .val (.int c1), .val (.int d0), .val (.int d1), .val (.int l1), .val (.int l2), .val (.int (0 : Int32)), .val (.ref r_1), .val (.ref r_3), .val (.long ((q3 &&& (4611686018427387903 : Int64)) + (1 : Int64))), .second, .val (.ref b6), .val (.int (1 : Int32))] [(.int (1 : Int32))]))
                      refine Go.by (fun _ => XS.iload X109.here hx rfl (hb hby at_244) rfl) ?_
                      show Go p e below P (T109.setTop (mkF m 246 #[.val (.int p0), .val (.int p1), .val (.int p2), .val (.long q3), .second, .val (.long q5), .second, .val (.int c0), .val (.int c1), .val (.int d0), .val (.int d1), .val (.int l1), .val (.int l2), .val (.int (0 : Int32)), .val (.ref r_1), .val (.ref r_3), .val (.long ((q3 &&& (4611686018427387903 : Int64)) + (1 : Int64))), .second, .val (.ref b6), .val (.int (1 : Int32))] [(.int (1 : Int32)), (.int (1 : Int32))]))
                      have hc246 : (1 : Int32) = (1 : Int32) := by decide
                      refine Go.by (fun _ => XS.icmpNo X109.here hx rfl (hb hby at_246) rfl (teq hc246).2) ?_
                      show Go p e below P (T109.setTop (mkF m 249 #[.val (.int p0), .val (.int p1), .val (.int p2), .val (.long q3), .second, .val (.long q5), .second, .val (.int c0), .val (.int c1), .val (.int d0), .val (.int d1), .val (.int l1), .val (.int l2), .val (.int (0 : Int32)), .val (.ref r_1), .val (.ref r_3), .val (.long ((q3 &&& (4611686018427387903 : Int64)) + (1 : Int64))), .second, .val (.ref b6), .val (.int (1 : Int32))] []))
                      refine Go.by (fun _ => XS.iconst X109.here hx rfl (hb hby at_249)) ?_
                      show Go p e below P (T109.setTop (mkF m 250 #[.val (.int p0), .val (.int p1), .val (.int p2), .val (.long q3), .second, .val (.long q5), .second, .val (.int c0), .val (.int c1), .val (.int d0), .val (.int d1), .val (.int l1), .val (.int l2), .val (.int (0 : Int32)), .val (.ref r_1), .val (.ref r_3), .val (.long ((q3 &&& (4611686018427387903 : Int64)) + (1 : Int64))), .second, .val (.ref b6), .val (.int (1 : Int32))] [(.int (1 : Int32))]))
                      refine Go.by (fun _ => XS.goto X109.here hx rfl (pc0 := 250) (pc' := 254) rfl (hb hby at_250) (by decide) (by decide)) ?_
                      show Go p e below P (T109.setTop (mkF m 254 #[.val (.int p0), .val (.int p1), .val (.int p2), .val (.long q3), .second, .val (.long q5), .second, .val (.int c0), .val (.int c1), .val (.int d0), .val (.int d1), .val (.int l1), .val (.int l2), .val (.int (0 : Int32)), .val (.ref r_1), .val (.ref r_3), .val (.long ((q3 &&& (4611686018427387903 : Int64)) + (1 : Int64))), .second, .val (.ref b6), .val (.int (1 : Int32))] [(.int (1 : Int32))]))
                      subst hP
                      refine Go.retZC (t := .boolean) X109 hx hS (by rw [eq109]; exact hk) Bd.returns (by simp) hlk (hb hby at_254) (Nat.le_of_ble_eq_true rfl) (Nat.le_of_ble_eq_true rfl) ?_ (by rw [hh, eq109]; exact R102.trans (CHv.at X109 hZ (own_EW hw) C102))
                      rw [eq109]
                      exact ⟨rfl, N109⟩
                · refine Go.by (fun _ => XS.icmpYes X10.here hx rfl (pc0 := 203) (pc' := 219) rfl (hb hby at_203) rfl (feq hc203).2 (by decide) (by decide)) ?_
                  show Go p e below P (T10.setTop (mkF m 219 #[.val (.int p0), .val (.int p1), .val (.int p2), .val (.long q3), .second, .val (.long q5), .second, .val (.int c0), .val (.int c1), .val (.int d0), .val (.int d1), .val (.int l1), .val (.int l2), .val (.int (0 : Int32)), .val (.ref r_1), .val (.ref r_3), .val (.long ((q3 &&& (4611686018427387903 : Int64)) + (1 : Int64))), .second, .val (.ref b6), .unset] []))
                  refine Go.by (fun _ => XS.iconst X10.here hx rfl (hb hby at_219)) ?_
                  show Go p e below P (T10.setTop (mkF m 220 #[.val (.int p0), .val (.int p1), .val (.int p2), .val (.long q3), .second, .val (.long q5), .second, .val (.int c0), .val (.int c1), .val (.int d0), .val (.int d1), .val (.int l1), .val (.int l2), .val (.int (0 : Int32)), .val (.ref r_1), .val (.ref r_3), .val (.long ((q3 &&& (4611686018427387903 : Int64)) + (1 : Int64))), .second, .val (.ref b6), .unset] [(.int (1 : Int32))]))
                  refine Go.by (fun _ => XS.goto X10.here hx rfl (pc0 := 220) (pc' := 224) rfl (hb hby at_220) (by decide) (by decide)) ?_
                  show Go p e below P (T10.setTop (mkF m 224 #[.val (.int p0), .val (.int p1), .val (.int p2), .val (.long q3), .second, .val (.long q5), .second, .val (.int c0), .val (.int c1), .val (.int d0), .val (.int d1), .val (.int l1), .val (.int l2), .val (.int (0 : Int32)), .val (.ref r_1), .val (.ref r_3), .val (.long ((q3 &&& (4611686018427387903 : Int64)) + (1 : Int64))), .second, .val (.ref b6), .unset] [(.int (1 : Int32))]))
                  refine Go.by (fun _ => XS.istore X10.here hx rfl (hb hby at_224) rfl (l' := #[.val (.int p0), .val (.int p1), .val (.int p2), .val (.long q3), .second, .val (.long q5), .second, .val (.int c0), .val (.int c1), .val (.int d0), .val (.int d1), .val (.int l1), .val (.int l2), .val (.int (0 : Int32)), .val (.ref r_1), .val (.ref r_3), .val (.long ((q3 &&& (4611686018427387903 : Int64)) + (1 : Int64))), .second, .val (.ref b6), .val (.int (1 : Int32))]) rfl) ?_
                  show Go p e below P (T10.setTop (mkF m 226 #[.val (.int p0), .val (.int p1), .val (.int p2), .val (.long q3), .second, .val (.long q5), .second, .val (.int c0), .val (.int c1), .val (.int d0), .val (.int d1), .val (.int l1), .val (.int l2), .val (.int (0 : Int32)), .val (.ref r_1), .val (.ref r_3), .val (.long ((q3 &&& (4611686018427387903 : Int64)) + (1 : Int64))), .second, .val (.ref b6), .val (.int (1 : Int32))] []))
                  obtain ⟨T110, h110, X110, e110, E110, A110, D110, -, st110⟩ := newO X10 hx hZ hown (hw _ (List.mem_of_getElem? (i := 51) rfl)) (hw _ (List.mem_of_getElem? (i := 52) rfl)) (hw _ (List.mem_of_getElem? (i := 53) rfl)) rfl (g := (mkF m 226 #[.val (.int p0), .val (.int p1), .val (.int p2), .val (.long q3), .second, .val (.long q5), .second, .val (.int c0), .val (.int c1), .val (.int d0), .val (.int d1), .val (.int l1), .val (.int l2), .val (.int (0 : Int32)), .val (.ref r_1), .val (.ref r_3), .val (.long ((q3 &&& (4611686018427387903 : Int64)) + (1 : Int64))), .second, .val (.ref b6), .val (.int (1 : Int32))] [])) rfl (hb hby at_226) (Nat.le_of_ble_eq_true rfl) (Nat.le_of_ble_eq_true rfl)
                  obtain ⟨b110, q110⟩ : ∃ z, z = T10.heap.size := ⟨_, rfl⟩
                  rw [← q110] at A110 D110 st110
                  refine Go.by (fun _ => st110 _) ?_
                  have ne_r_1_b110 : r_1 ≠ b110 := Nat.ne_of_lt (Nat.lt_of_lt_of_le F11.ltx (Nat.le_of_eq q110.symm))
                  have ne_t_1_b110 : t_1 ≠ b110 := Nat.ne_of_lt (Nat.lt_of_lt_of_le F11.ltt (Nat.le_of_eq q110.symm))
                  have ne_r_3_b110 : r_3 ≠ b110 := Nat.ne_of_lt (Nat.lt_of_lt_of_le F12.ltx (Nat.le_of_eq q110.symm))
                  have ne_t_3_b110 : t_3 ≠ b110 := Nat.ne_of_lt (Nat.lt_of_lt_of_le F12.ltt (Nat.le_of_eq q110.symm))
                  have ne_b6_b110 : b6 ≠ b110 := Nat.ne_of_lt (Nat.lt_of_lt_of_le F13.lt (Nat.le_of_eq q110.symm))
                  have g_b110 : n0 ≤ b110 := Nat.le_trans Z10 (Nat.le_of_eq q110.symm)
                  have F111 : Str Z h110 r_1 t_1 (mkL l1 c0 c1) := F11.ext E110
                  have F112 : Str Z h110 r_3 t_3 (mkL l2 d0 d1) := F12.ext E110
                  have F113 : Exa Z h110 b6 "com/example/halyard/halyard/model/Price" := F13.ext E110
                  have O110 := O10.ext E110
                  have R110 := R10.trans (CHr.ext E110 C10)
                  have C110 := CHv.ext E110 C10
                  have hk := Nat.le_trans hk E110.1
                  have Z110 : n0 ≤ h110.size := Nat.le_trans Z10 E110.1
                  have F114 : Fld Z h110 b110 "com/example/halyard/halyard/model/ReplaceOrder" "orderId" "Ljava/lang/String;" .null := D110 (Or.inr (hw _ (List.mem_of_getElem? (i := 63) rfl))) (ty := (.object "java/lang/String")) (by decide)
                  have F115 : Fld Z h110 b110 "com/example/halyard/halyard/model/ReplaceOrder" "shares" "J" (.long (0 : Int64)) := D110 (Or.inr (hw _ (List.mem_of_getElem? (i := 65) rfl))) (ty := .long) (by decide)
                  have F116 : Fld Z h110 b110 "com/example/halyard/halyard/model/ReplaceOrder" "price" "Lcom/example/halyard/halyard/model/Price;" .null := D110 (Or.inr (hw _ (List.mem_of_getElem? (i := 67) rfl))) (ty := (.object "com/example/halyard/halyard/model/Price")) (by decide)
                  have F117 : Fld Z h110 b110 "com/example/halyard/halyard/model/ReplaceOrder" "newOrderId" "Ljava/lang/String;" .null := D110 (Or.inr (hw _ (List.mem_of_getElem? (i := 69) rfl))) (ty := (.object "java/lang/String")) (by decide)
                  show Go p e below P (T110.setTop (mkF m 229 #[.val (.int p0), .val (.int p1), .val (.int p2), .val (.long q3), .second, .val (.long q5), .second, .val (.int c0), .val (.int c1), .val (.int d0), .val (.int d1), .val (.int l1), .val (.int l2), .val (.int (0 : Int32)), .val (.ref r_1), .val (.ref r_3), .val (.long ((q3 &&& (4611686018427387903 : Int64)) + (1 : Int64))), .second, .val (.ref b6), .val (.int (1 : Int32))] [(.ref b110)]))
                  refine Go.by (fun _ => XS.dup X110.here hx rfl (hb hby at_229) rfl rfl) ?_
                  show Go p e below P (T110.setTop (mkF m 230 #[.val (.int p0), .val (.int p1), .val (.int p2), .val (.long q3), .second, .val (.long q5), .second, .val (.int c0), .val (.int c1), .val (.int d0), .val (.int d1), .val (.int l1), .val (.int l2), .val (.int (0 : Int32)), .val (.ref r_1), .val (.ref r_3), .val (.long ((q3 &&& (4611686018427387903 : Int64)) + (1 : Int64))), .second, .val (.ref b6), .val (.int (1 : Int32))] [(.ref b110), (.ref b110)]))
                  refine Go.by (fun _ => XS.aload X110.here hx rfl (hb hby at_230) rfl rfl) ?_
                  show Go p e below P (T110.setTop (mkF m 232 #[.val (.int p0), .val (.int p1), .val (.int p2), .val (.long q3), .second, .val (.long q5), .second, .val (.int c0), .val (.int c1), .val (.int d0), .val (.int d1), .val (.int l1), .val (.int l2), .val (.int (0 : Int32)), .val (.ref r_1), .val (.ref r_3), .val (.long ((q3 &&& (4611686018427387903 : Int64)) + (1 : Int64))), .second, .val (.ref b6), .val (.int (1 : Int32))] [(.ref r_1), (.ref b110), (.ref b110)]))
                  refine Go.by (fun _ => XS.lload X110.here hx rfl (hb hby at_232) rfl) ?_
                  show Go p e below P (T110.setTop (mkF m 234 #[.val (.int p0), .val (.int p1), .val (.int p2), .val (.long q3), .second, .val (.long q5), .second, .val (.int c0), .val (.int c1), .val (.int d0), .val (.int d1), .val (.int l1), .val (.int l2), .val (.int (0 : Int32)), .val (.ref r_1), .val (.ref r_3), .val (.long ((q3 &&& (4611686018427387903 : Int64)) + (1 : Int64))), .second, .val (.ref b6), .val (.int (1 : Int32))] [(.long ((q3 &&& (4611686018427387903 : Int64)) + (1 : Int64))), (.ref r_1), (.ref b110), (.ref b110)]))
                  refine Go.by (fun _ => XS.aload X110.here hx rfl (hb hby at_234) rfl rfl) ?_
                  show Go p e below P (T110.setTop (mkF m 236 #[.val (.int p0), .val (.int p1), .val (.int p2), .val (.long q3), .second, .val (.long q5), .second, .val (.int c0), .val (.int c1), .val (.int d0), .val (.int d1), .val (.int l1), .val (.int l2), .val (.int (0 : Int32)), .val (.ref r_1), .val (.ref r_3), .val (.long ((q3 &&& (4611686018427387903 : Int64)) + (1 : Int64))), .second, .val (.ref b6), .val (.int (1 : Int32))] [(.ref b6), (.long ((q3 &&& (4611686018427387903 : Int64)) + (1 : Int64))), (.ref r_1), (.ref b110), (.ref b110)]))
                  refine Go.by (fun _ => XS.aload X110.here hx rfl (hb hby at_236) rfl rfl) ?_
                  show Go p e below P (T110.setTop (mkF m 238 #[.val (.int p0), .val (.int p1), .val (.int p2), .val (.long q3), .second, .val (.long q5), .second, .val (.int c0), .val (.int c1), .val (.int d0), .val (.int d1), .val (.int l1), .val (.int l2), .val (.int (0 : Int32)), .val (.ref r_1), .val (.ref r_3), .val (.long ((q3 &&& (4611686018427387903 : Int64)) + (1 : Int64))), .second, .val (.ref b6), .val (.int (1 : Int32))] [(.ref r_3), (.ref b6), (.long ((q3 &&& (4611686018427387903 : Int64)) + (1 : Int64))), (.ref r_1), (.ref b110), (.ref b110)]))
                  obtain ⟨_, _, ⟨T118, L118, k118, n118⟩, -, X118, ⟨Lc118, hQ118, l118, y118, z118⟩, st118⟩ := X110.specialBack hx (y := (⟨"com/example/halyard/halyard/model/ReplaceOrder", "<init>", "(Ljava/lang/String;JLcom/example/halyard/halyard/model/Price;Ljava/lang/String;)V"⟩ : MethodName)) rfl hown (mvT hZ (hw _ (List.mem_of_getElem? (i := 54) rfl))) (mvT hZ (hw _ (List.mem_of_getElem? (i := 55) rfl))) (mvT hZ (hw _ (List.mem_of_getElem? (i := 56) rfl))) (by decide) (backOf (W := 1) (rm_ro4 l Z a0 hw [] zC hG b110 r_1 (((q3 &&& (4611686018427387903 : Int64)) + (1 : Int64))) b6 r_3 h110 n0 Z110 O110 A110 F114 F115 F116 F117 g_b110 (own_shares q3)) hZ (hw _ (List.mem_of_getElem? (i := 56) rfl)) (hw _ (List.mem_of_getElem? (i := 53) rfl)) (Nat.le_of_ble_eq_true rfl) (Nat.le_of_ble_eq_true rfl)) (g := (mkF m 238 #[.val (.int p0), .val (.int p1), .val (.int p2), .val (.long q3), .second, .val (.long q5), .second, .val (.int c0), .val (.int c1), .val (.int d0), .val (.int d1), .val (.int l1), .val (.int l2), .val (.int (0 : Int32)), .val (.ref r_1), .val (.ref r_3), .val (.long ((q3 &&& (4611686018427387903 : Int64)) + (1 : Int64))), .second, .val (.ref b6), .val (.int (1 : Int32))] [(.ref r_3), (.ref b6), (.long ((q3 &&& (4611686018427387903 : Int64)) + (1 : Int64))), (.ref r_1), (.ref b110), (.ref b110)])) rfl (by rw [hml]; rfl) (Steps.refl _) (a := b110) (argsL := [(.ref r_1), (.long ((q3 &&& (4611686018427387903 : Int64)) + (1 : Int64))), (.ref b6), (.ref r_3)]) (rest := [(.ref b110)]) (lenOf pd_4 rfl) rfl (by show 2 * 0 + _ ≤ _; exact Nat.le_of_eq rfl) (hb hby at_238) (fun _ _ => ⟨rfl, e110, (Nat.le_of_ble_eq_true rfl : 14 + 0 ≤ _), (Nat.le_of_ble_eq_true rfl : 29 + 0 ≤ _)⟩)
                  dsimp only [Pt.U, Pt.locs, Pt.cells, Pt.slots] at X118 l118 y118 z118 st118 hQ118
                  subst l118 y118 z118
                  obtain ⟨rfl, Nq118, Kc118, F119, F120⟩ := hQ118
                  have N118 := Fr.app N10 Nq118
                  refine Go.by (fun _ k => st118.trans k) ?_
                  have F121 : Str Z T118.heap r_1 t_1 (mkL l1 c0 c1) := F111.keep Kc118 (ninS ne_r_1_b110 nin0) (ninS ne_t_1_b110 nin0)
                  have F122 : Str Z T118.heap r_3 t_3 (mkL l2 d0 d1) := F112.keep Kc118 (ninS ne_r_3_b110 nin0) (ninS ne_t_3_b110 nin0)
                  have F123 : Exa Z T118.heap b6 "com/example/halyard/halyard/model/Price" := F113.keep Kc118
                  have F124 : Exa Z T118.heap b110 "com/example/halyard/halyard/model/ReplaceOrder" := A110.keep Kc118
                  have Sk118 := own_sk (ws := [b110]) C110 (allS (Safe.exa (EL := consts_1) hZ.alike A110 (by decide) (by decide)) all0)
                  have R118 := R110.trans (CHr.keep Kc118 Sk118 C110)
                  have C118 := CHv.keep Kc118 Sk118 C110
                  have hk := Nat.le_trans hk Kc118.1
                  have O118 := O110.keep Kc118 (allS g_b110 all0)
                  have Z118 : n0 ≤ T118.heap.size := Nat.le_trans Z110 Kc118.1
                  show Go p e below P (T118.setTop (mkF m 241 #[.val (.int p0), .val (.int p1), .val (.int p2), .val (.long q3), .second, .val (.long q5), .second, .val (.int c0), .val (.int c1), .val (.int d0), .val (.int d1), .val (.int l1), .val (.int l2), .val (.int (0 : Int32)), .val (.ref r_1), .val (.ref r_3), .val (.long ((q3 &&& (4611686018427387903 : Int64)) + (1 : Int64))), .second, .val (.ref b6), .val (.int (1 : Int32))] [(.ref b110)]))
                  obtain ⟨cq125, kq125, qa125, qb125, qc125⟩ := isOf hZ rfl F124
                  obtain ⟨_, _, ⟨T125, L125, k125, n125⟩, -, X125, ⟨Lc125, hQ125, l125, y125, z125⟩, st125⟩ := X118.virtualBack hx (y := (⟨"com/example/halyard/halyard/model/ReplaceOrder", "renames", "()Z"⟩ : MethodName)) (z := (⟨"com/example/halyard/halyard/model/ReplaceOrder", "renames", "()Z"⟩ : MethodName)) hown (mvT hZ (hw _ (List.mem_of_getElem? (i := 70) rfl))) (mvT hZ (hw _ (List.mem_of_getElem? (i := 71) rfl))) (notFace_of_selects (args := #[]) (mvT hZ (hw _ (List.mem_of_getElem? (i := 73) rfl)))) (mvT hZ (hw _ (List.mem_of_getElem? (i := 73) rfl))) (mvT hZ (hw _ (List.mem_of_getElem? (i := 72) rfl))) (by decide) (backOf (W := 0) (rm_ren l Z a0 hw [] zC hG b110 r_1 r_3 t_1 t_3 ((mkL l1 c0 c1)) ((mkL l2 d0 d1)) ((1 : Int32)) T118.heap n0 Z118 O118 F119 F120 F121 F122 (by have hd := own_diff l1 l2 c0 c1 d0 d1 hl1 hl2; rw [if_neg (fun q => absurd (hd.mp q) (by intro z; first | (exact hc190 z.1.symm) | (exact hc190 z.1) | (exact hc203 (z.2.1 hc196).symm) | (exact hc203 (z.2.1 hc196)) | (exact hc216 (z.2.2 hc209).symm) | (exact hc216 (z.2.2 hc209))))])) hZ (hw _ (List.mem_of_getElem? (i := 74) rfl)) (hw _ (List.mem_of_getElem? (i := 53) rfl)) (Nat.le_of_ble_eq_true rfl) (Nat.le_of_ble_eq_true rfl)) qa125 qc125 (g := (mkF m 241 #[.val (.int p0), .val (.int p1), .val (.int p2), .val (.long q3), .second, .val (.long q5), .second, .val (.int c0), .val (.int c1), .val (.int d0), .val (.int d1), .val (.int l1), .val (.int l2), .val (.int (0 : Int32)), .val (.ref r_1), .val (.ref r_3), .val (.long ((q3 &&& (4611686018427387903 : Int64)) + (1 : Int64))), .second, .val (.ref b6), .val (.int (1 : Int32))] [(.ref b110)])) rfl (by rw [hml]; rfl) (Steps.refl _) (argsL := []) (rest := []) (lenOf pd_8 rfl) rfl (by show 2 * 0 + _ ≤ _; exact Nat.le_of_eq rfl) (hb hby at_241) (fun _ _ => ⟨rfl, rfl, (Nat.le_of_ble_eq_true rfl : 14 + 0 ≤ _), (Nat.le_of_ble_eq_true rfl : 29 + 0 ≤ _)⟩)
                  dsimp only [Pt.U, Pt.locs, Pt.cells, Pt.slots] at X125 l125 y125 z125 st125 hQ125
                  subst l125 y125 z125
                  obtain ⟨rfl, Nq125, eq125⟩ := hQ125
                  have N125 := Fr.app N118 Nq125
                  refine Go.by (fun _ k => st125.trans k) ?_
                  show Go p e below P (T125.setTop (mkF m 244 #[.val (.int p0), .val (.int p1), .val (.int p2), .val (.long q3), .second, .val (.long q5), .second, .val (.int c0), .val (.int c1), .val (.int d0), .val (.int d1), .val (.int l1), .val (.int l2), .val (.int (0 : Int32)), .val (.ref r_1), .val (.ref r_3), .val (.long ((q3 &&& (4611686018427387903 : Int64)) + (1 : Int64))), .second, .val (.ref b6), .val (.int (1 : Int32))] [(.int (1 : Int32))]))
                  refine Go.by (fun _ => XS.iload X125.here hx rfl (hb hby at_244) rfl) ?_
                  show Go p e below P (T125.setTop (mkF m 246 #[.val (.int p0), .val (.int p1), .val (.int p2), .val (.long q3), .second, .val (.long q5), .second, .val (.int c0), .val (.int c1), .val (.int d0), .val (.int d1), .val (.int l1), .val (.int l2), .val (.int (0 : Int32)), .val (.ref r_1), .val (.ref r_3), .val (.long ((q3 &&& (4611686018427387903 : Int64)) + (1 : Int64))), .second, .val (.ref b6), .val (.int (1 : Int32))] [(.int (1 : Int32)), (.int (1 : Int32))]))
                  have hc246 : (1 : Int32) = (1 : Int32) := by decide
                  refine Go.by (fun _ => XS.icmpNo X125.here hx rfl (hb hby at_246) rfl (teq hc246).2) ?_
                  show Go p e below P (T125.setTop (mkF m 249 #[.val (.int p0), .val (.int p1), .val (.int p2), .val (.long q3), .second, .val (.long q5), .second, .val (.int c0), .val (.int c1), .val (.int d0), .val (.int d1), .val (.int l1), .val (.int l2), .val (.int (0 : Int32)), .val (.ref r_1), .val (.ref r_3), .val (.long ((q3 &&& (4611686018427387903 : Int64)) + (1 : Int64))), .second, .val (.ref b6), .val (.int (1 : Int32))] []))
                  refine Go.by (fun _ => XS.iconst X125.here hx rfl (hb hby at_249)) ?_
                  show Go p e below P (T125.setTop (mkF m 250 #[.val (.int p0), .val (.int p1), .val (.int p2), .val (.long q3), .second, .val (.long q5), .second, .val (.int c0), .val (.int c1), .val (.int d0), .val (.int d1), .val (.int l1), .val (.int l2), .val (.int (0 : Int32)), .val (.ref r_1), .val (.ref r_3), .val (.long ((q3 &&& (4611686018427387903 : Int64)) + (1 : Int64))), .second, .val (.ref b6), .val (.int (1 : Int32))] [(.int (1 : Int32))]))
                  refine Go.by (fun _ => XS.goto X125.here hx rfl (pc0 := 250) (pc' := 254) rfl (hb hby at_250) (by decide) (by decide)) ?_
                  show Go p e below P (T125.setTop (mkF m 254 #[.val (.int p0), .val (.int p1), .val (.int p2), .val (.long q3), .second, .val (.long q5), .second, .val (.int c0), .val (.int c1), .val (.int d0), .val (.int d1), .val (.int l1), .val (.int l2), .val (.int (0 : Int32)), .val (.ref r_1), .val (.ref r_3), .val (.long ((q3 &&& (4611686018427387903 : Int64)) + (1 : Int64))), .second, .val (.ref b6), .val (.int (1 : Int32))] [(.int (1 : Int32))]))
                  subst hP
                  refine Go.retZC (t := .boolean) X125 hx hS (by rw [eq125]; exact hk) Bd.returns (by simp) hlk (hb hby at_254) (Nat.le_of_ble_eq_true rfl) (Nat.le_of_ble_eq_true rfl) ?_ (by rw [hh, eq125]; exact R118.trans (CHv.at X125 hZ (own_EW hw) C118))
                  rw [eq125]
                  exact ⟨rfl, N125⟩
            · refine Go.by (fun _ => XS.icmpYes X10.here hx rfl (pc0 := 190) (pc' := 219) rfl (hb hby at_190) rfl (feq hc190).2 (by decide) (by decide)) ?_
              show Go p e below P (T10.setTop (mkF m 219 #[.val (.int p0), .val (.int p1), .val (.int p2), .val (.long q3), .second, .val (.long q5), .second, .val (.int c0), .val (.int c1), .val (.int d0), .val (.int d1), .val (.int l1), .val (.int l2), .val (.int (0 : Int32)), .val (.ref r_1), .val (.ref r_3), .val (.long ((q3 &&& (4611686018427387903 : Int64)) + (1 : Int64))), .second, .val (.ref b6), .unset] []))
              refine Go.by (fun _ => XS.iconst X10.here hx rfl (hb hby at_219)) ?_
              show Go p e below P (T10.setTop (mkF m 220 #[.val (.int p0), .val (.int p1), .val (.int p2), .val (.long q3), .second, .val (.long q5), .second, .val (.int c0), .val (.int c1), .val (.int d0), .val (.int d1), .val (.int l1), .val (.int l2), .val (.int (0 : Int32)), .val (.ref r_1), .val (.ref r_3), .val (.long ((q3 &&& (4611686018427387903 : Int64)) + (1 : Int64))), .second, .val (.ref b6), .unset] [(.int (1 : Int32))]))
              refine Go.by (fun _ => XS.goto X10.here hx rfl (pc0 := 220) (pc' := 224) rfl (hb hby at_220) (by decide) (by decide)) ?_
              show Go p e below P (T10.setTop (mkF m 224 #[.val (.int p0), .val (.int p1), .val (.int p2), .val (.long q3), .second, .val (.long q5), .second, .val (.int c0), .val (.int c1), .val (.int d0), .val (.int d1), .val (.int l1), .val (.int l2), .val (.int (0 : Int32)), .val (.ref r_1), .val (.ref r_3), .val (.long ((q3 &&& (4611686018427387903 : Int64)) + (1 : Int64))), .second, .val (.ref b6), .unset] [(.int (1 : Int32))]))
              refine Go.by (fun _ => XS.istore X10.here hx rfl (hb hby at_224) rfl (l' := #[.val (.int p0), .val (.int p1), .val (.int p2), .val (.long q3), .second, .val (.long q5), .second, .val (.int c0), .val (.int c1), .val (.int d0), .val (.int d1), .val (.int l1), .val (.int l2), .val (.int (0 : Int32)), .val (.ref r_1), .val (.ref r_3), .val (.long ((q3 &&& (4611686018427387903 : Int64)) + (1 : Int64))), .second, .val (.ref b6), .val (.int (1 : Int32))]) rfl) ?_
              show Go p e below P (T10.setTop (mkF m 226 #[.val (.int p0), .val (.int p1), .val (.int p2), .val (.long q3), .second, .val (.long q5), .second, .val (.int c0), .val (.int c1), .val (.int d0), .val (.int d1), .val (.int l1), .val (.int l2), .val (.int (0 : Int32)), .val (.ref r_1), .val (.ref r_3), .val (.long ((q3 &&& (4611686018427387903 : Int64)) + (1 : Int64))), .second, .val (.ref b6), .val (.int (1 : Int32))] []))
              obtain ⟨T126, h126, X126, e126, E126, A126, D126, -, st126⟩ := newO X10 hx hZ hown (hw _ (List.mem_of_getElem? (i := 51) rfl)) (hw _ (List.mem_of_getElem? (i := 52) rfl)) (hw _ (List.mem_of_getElem? (i := 53) rfl)) rfl (g := (mkF m 226 #[.val (.int p0), .val (.int p1), .val (.int p2), .val (.long q3), .second, .val (.long q5), .second, .val (.int c0), .val (.int c1), .val (.int d0), .val (.int d1), .val (.int l1), .val (.int l2), .val (.int (0 : Int32)), .val (.ref r_1), .val (.ref r_3), .val (.long ((q3 &&& (4611686018427387903 : Int64)) + (1 : Int64))), .second, .val (.ref b6), .val (.int (1 : Int32))] [])) rfl (hb hby at_226) (Nat.le_of_ble_eq_true rfl) (Nat.le_of_ble_eq_true rfl)
              obtain ⟨b126, q126⟩ : ∃ z, z = T10.heap.size := ⟨_, rfl⟩
              rw [← q126] at A126 D126 st126
              refine Go.by (fun _ => st126 _) ?_
              have ne_r_1_b126 : r_1 ≠ b126 := Nat.ne_of_lt (Nat.lt_of_lt_of_le F11.ltx (Nat.le_of_eq q126.symm))
              have ne_t_1_b126 : t_1 ≠ b126 := Nat.ne_of_lt (Nat.lt_of_lt_of_le F11.ltt (Nat.le_of_eq q126.symm))
              have ne_r_3_b126 : r_3 ≠ b126 := Nat.ne_of_lt (Nat.lt_of_lt_of_le F12.ltx (Nat.le_of_eq q126.symm))
              have ne_t_3_b126 : t_3 ≠ b126 := Nat.ne_of_lt (Nat.lt_of_lt_of_le F12.ltt (Nat.le_of_eq q126.symm))
              have ne_b6_b126 : b6 ≠ b126 := Nat.ne_of_lt (Nat.lt_of_lt_of_le F13.lt (Nat.le_of_eq q126.symm))
              have g_b126 : n0 ≤ b126 := Nat.le_trans Z10 (Nat.le_of_eq q126.symm)
              have F127 : Str Z h126 r_1 t_1 (mkL l1 c0 c1) := F11.ext E126
              have F128 : Str Z h126 r_3 t_3 (mkL l2 d0 d1) := F12.ext E126
              have F129 : Exa Z h126 b6 "com/example/halyard/halyard/model/Price" := F13.ext E126
              have O126 := O10.ext E126
              have R126 := R10.trans (CHr.ext E126 C10)
              have C126 := CHv.ext E126 C10
              have hk := Nat.le_trans hk E126.1
              have Z126 : n0 ≤ h126.size := Nat.le_trans Z10 E126.1
              have F130 : Fld Z h126 b126 "com/example/halyard/halyard/model/ReplaceOrder" "orderId" "Ljava/lang/String;" .null := D126 (Or.inr (hw _ (List.mem_of_getElem? (i := 63) rfl))) (ty := (.object "java/lang/String")) (by decide)
              have F131 : Fld Z h126 b126 "com/example/halyard/halyard/model/ReplaceOrder" "shares" "J" (.long (0 : Int64)) := D126 (Or.inr (hw _ (List.mem_of_getElem? (i := 65) rfl))) (ty := .long) (by decide)
              have F132 : Fld Z h126 b126 "com/example/halyard/halyard/model/ReplaceOrder" "price" "Lcom/example/halyard/halyard/model/Price;" .null := D126 (Or.inr (hw _ (List.mem_of_getElem? (i := 67) rfl))) (ty := (.object "com/example/halyard/halyard/model/Price")) (by decide)
              have F133 : Fld Z h126 b126 "com/example/halyard/halyard/model/ReplaceOrder" "newOrderId" "Ljava/lang/String;" .null := D126 (Or.inr (hw _ (List.mem_of_getElem? (i := 69) rfl))) (ty := (.object "java/lang/String")) (by decide)
              show Go p e below P (T126.setTop (mkF m 229 #[.val (.int p0), .val (.int p1), .val (.int p2), .val (.long q3), .second, .val (.long q5), .second, .val (.int c0), .val (.int c1), .val (.int d0), .val (.int d1), .val (.int l1), .val (.int l2), .val (.int (0 : Int32)), .val (.ref r_1), .val (.ref r_3), .val (.long ((q3 &&& (4611686018427387903 : Int64)) + (1 : Int64))), .second, .val (.ref b6), .val (.int (1 : Int32))] [(.ref b126)]))
              refine Go.by (fun _ => XS.dup X126.here hx rfl (hb hby at_229) rfl rfl) ?_
              show Go p e below P (T126.setTop (mkF m 230 #[.val (.int p0), .val (.int p1), .val (.int p2), .val (.long q3), .second, .val (.long q5), .second, .val (.int c0), .val (.int c1), .val (.int d0), .val (.int d1), .val (.int l1), .val (.int l2), .val (.int (0 : Int32)), .val (.ref r_1), .val (.ref r_3), .val (.long ((q3 &&& (4611686018427387903 : Int64)) + (1 : Int64))), .second, .val (.ref b6), .val (.int (1 : Int32))] [(.ref b126), (.ref b126)]))
              refine Go.by (fun _ => XS.aload X126.here hx rfl (hb hby at_230) rfl rfl) ?_
              show Go p e below P (T126.setTop (mkF m 232 #[.val (.int p0), .val (.int p1), .val (.int p2), .val (.long q3), .second, .val (.long q5), .second, .val (.int c0), .val (.int c1), .val (.int d0), .val (.int d1), .val (.int l1), .val (.int l2), .val (.int (0 : Int32)), .val (.ref r_1), .val (.ref r_3), .val (.long ((q3 &&& (4611686018427387903 : Int64)) + (1 : Int64))), .second, .val (.ref b6), .val (.int (1 : Int32))] [(.ref r_1), (.ref b126), (.ref b126)]))
              refine Go.by (fun _ => XS.lload X126.here hx rfl (hb hby at_232) rfl) ?_
              show Go p e below P (T126.setTop (mkF m 234 #[.val (.int p0), .val (.int p1), .val (.int p2), .val (.long q3), .second, .val (.long q5), .second, .val (.int c0), .val (.int c1), .val (.int d0), .val (.int d1), .val (.int l1), .val (.int l2), .val (.int (0 : Int32)), .val (.ref r_1), .val (.ref r_3), .val (.long ((q3 &&& (4611686018427387903 : Int64)) + (1 : Int64))), .second, .val (.ref b6), .val (.int (1 : Int32))] [(.long ((q3 &&& (4611686018427387903 : Int64)) + (1 : Int64))), (.ref r_1), (.ref b126), (.ref b126)]))
              refine Go.by (fun _ => XS.aload X126.here hx rfl (hb hby at_234) rfl rfl) ?_
              show Go p e below P (T126.setTop (mkF m 236 #[.val (.int p0), .val (.int p1), .val (.int p2), .val (.long q3), .second, .val (.long q5), .second, .val (.int c0), .val (.int c1), .val (.int d0), .val (.int d1), .val (.int l1), .val (.int l2), .val (.int (0 : Int32)), .val (.ref r_1), .val (.ref r_3), .val (.long ((q3 &&& (4611686018427387903 : Int64)) + (1 : Int64))), .second, .val (.ref b6), .val (.int (1 : Int32))] [(.ref b6), (.long ((q3 &&& (4611686018427387903 : Int64)) + (1 : Int64))), (.ref r_1), (.ref b126), (.ref b126)]))
              refine Go.by (fun _ => XS.aload X126.here hx rfl (hb hby at_236) rfl rfl) ?_
              show Go p e below P (T126.setTop (mkF m 238 #[.val (.int p0), .val (.int p1), .val (.int p2), .val (.long q3), .second, .val (.long q5), .second, .val (.int c0), .val (.int c1), .val (.int d0), .val (.int d1), .val (.int l1), .val (.int l2), .val (.int (0 : Int32)), .val (.ref r_1), .val (.ref r_3), .val (.long ((q3 &&& (4611686018427387903 : Int64)) + (1 : Int64))), .second, .val (.ref b6), .val (.int (1 : Int32))] [(.ref r_3), (.ref b6), (.long ((q3 &&& (4611686018427387903 : Int64)) + (1 : Int64))), (.ref r_1), (.ref b126), (.ref b126)]))
              obtain ⟨_, _, ⟨T134, L134, k134, n134⟩, -, X134, ⟨Lc134, hQ134, l134, y134, z134⟩, st134⟩ := X126.specialBack hx (y := (⟨"com/example/halyard/halyard/model/ReplaceOrder", "<init>", "(Ljava/lang/String;JLcom/example/halyard/halyard/model/Price;Ljava/lang/String;)V"⟩ : MethodName)) rfl hown (mvT hZ (hw _ (List.mem_of_getElem? (i := 54) rfl))) (mvT hZ (hw _ (List.mem_of_getElem? (i := 55) rfl))) (mvT hZ (hw _ (List.mem_of_getElem? (i := 56) rfl))) (by decide) (backOf (W := 1) (rm_ro4 l Z a0 hw [] zC hG b126 r_1 (((q3 &&& (4611686018427387903 : Int64)) + (1 : Int64))) b6 r_3 h126 n0 Z126 O126 A126 F130 F131 F132 F133 g_b126 (own_shares q3)) hZ (hw _ (List.mem_of_getElem? (i := 56) rfl)) (hw _ (List.mem_of_getElem? (i := 53) rfl)) (Nat.le_of_ble_eq_true rfl) (Nat.le_of_ble_eq_true rfl)) (g := (mkF m 238 #[.val (.int p0), .val (.int p1), .val (.int p2), .val (.long q3), .second, .val (.long q5), .second, .val (.int c0), .val (.int c1), .val (.int d0), .val (.int d1), .val (.int l1), .val (.int l2), .val (.int (0 : Int32)), .val (.ref r_1), .val (.ref r_3), .val (.long ((q3 &&& (4611686018427387903 : Int64)) + (1 : Int64))), .second, .val (.ref b6), .val (.int (1 : Int32))] [(.ref r_3), (.ref b6), (.long ((q3 &&& (4611686018427387903 : Int64)) + (1 : Int64))), (.ref r_1), (.ref b126), (.ref b126)])) rfl (by rw [hml]; rfl) (Steps.refl _) (a := b126) (argsL := [(.ref r_1), (.long ((q3 &&& (4611686018427387903 : Int64)) + (1 : Int64))), (.ref b6), (.ref r_3)]) (rest := [(.ref b126)]) (lenOf pd_4 rfl) rfl (by show 2 * 0 + _ ≤ _; exact Nat.le_of_eq rfl) (hb hby at_238) (fun _ _ => ⟨rfl, e126, (Nat.le_of_ble_eq_true rfl : 14 + 0 ≤ _), (Nat.le_of_ble_eq_true rfl : 29 + 0 ≤ _)⟩)
              dsimp only [Pt.U, Pt.locs, Pt.cells, Pt.slots] at X134 l134 y134 z134 st134 hQ134
              subst l134 y134 z134
              obtain ⟨rfl, Nq134, Kc134, F135, F136⟩ := hQ134
              have N134 := Fr.app N10 Nq134
              refine Go.by (fun _ k => st134.trans k) ?_
              have F137 : Str Z T134.heap r_1 t_1 (mkL l1 c0 c1) := F127.keep Kc134 (ninS ne_r_1_b126 nin0) (ninS ne_t_1_b126 nin0)
              have F138 : Str Z T134.heap r_3 t_3 (mkL l2 d0 d1) := F128.keep Kc134 (ninS ne_r_3_b126 nin0) (ninS ne_t_3_b126 nin0)
              have F139 : Exa Z T134.heap b6 "com/example/halyard/halyard/model/Price" := F129.keep Kc134
              have F140 : Exa Z T134.heap b126 "com/example/halyard/halyard/model/ReplaceOrder" := A126.keep Kc134
              have Sk134 := own_sk (ws := [b126]) C126 (allS (Safe.exa (EL := consts_1) hZ.alike A126 (by decide) (by decide)) all0)
              have R134 := R126.trans (CHr.keep Kc134 Sk134 C126)
              have C134 := CHv.keep Kc134 Sk134 C126
              have hk := Nat.le_trans hk Kc134.1
              have O134 := O126.keep Kc134 (allS g_b126 all0)
              have Z134 : n0 ≤ T134.heap.size := Nat.le_trans Z126 Kc134.1
              show Go p e below P (T134.setTop (mkF m 241 #[.val (.int p0), .val (.int p1), .val (.int p2), .val (.long q3), .second, .val (.long q5), .second, .val (.int c0), .val (.int c1), .val (.int d0), .val (.int d1), .val (.int l1), .val (.int l2), .val (.int (0 : Int32)), .val (.ref r_1), .val (.ref r_3), .val (.long ((q3 &&& (4611686018427387903 : Int64)) + (1 : Int64))), .second, .val (.ref b6), .val (.int (1 : Int32))] [(.ref b126)]))
              obtain ⟨cq141, kq141, qa141, qb141, qc141⟩ := isOf hZ rfl F140
              obtain ⟨_, _, ⟨T141, L141, k141, n141⟩, -, X141, ⟨Lc141, hQ141, l141, y141, z141⟩, st141⟩ := X134.virtualBack hx (y := (⟨"com/example/halyard/halyard/model/ReplaceOrder", "renames", "()Z"⟩ : MethodName)) (z := (⟨"com/example/halyard/halyard/model/ReplaceOrder", "renames", "()Z"⟩ : MethodName)) hown (mvT hZ (hw _ (List.mem_of_getElem? (i := 70) rfl))) (mvT hZ (hw _ (List.mem_of_getElem? (i := 71) rfl))) (notFace_of_selects (args := #[]) (mvT hZ (hw _ (List.mem_of_getElem? (i := 73) rfl)))) (mvT hZ (hw _ (List.mem_of_getElem? (i := 73) rfl))) (mvT hZ (hw _ (List.mem_of_getElem? (i := 72) rfl))) (by decide) (backOf (W := 0) (rm_ren l Z a0 hw [] zC hG b126 r_1 r_3 t_1 t_3 ((mkL l1 c0 c1)) ((mkL l2 d0 d1)) ((1 : Int32)) T134.heap n0 Z134 O134 F135 F136 F137 F138 (by have hd := own_diff l1 l2 c0 c1 d0 d1 hl1 hl2; rw [if_neg (fun q => absurd (hd.mp q) (by intro z; first | (exact hc190 z.1.symm) | (exact hc190 z.1) | (exact hc203 (z.2.1 hc196).symm) | (exact hc203 (z.2.1 hc196)) | (exact hc216 (z.2.2 hc209).symm) | (exact hc216 (z.2.2 hc209))))])) hZ (hw _ (List.mem_of_getElem? (i := 74) rfl)) (hw _ (List.mem_of_getElem? (i := 53) rfl)) (Nat.le_of_ble_eq_true rfl) (Nat.le_of_ble_eq_true rfl)) qa141 qc141 (g := (mkF m 241 #[.val (.int p0), .val (.int p1), .val (.int p2), .val (.long q3), .second, .val (.long q5), .second, .val (.int c0), .val (.int c1), .val (.int d0), .val (.int d1), .val (.int l1), .val (.int l2), .val (.int (0 : Int32)), .val (.ref r_1), .val (.ref r_3), .val (.long ((q3 &&& (4611686018427387903 : Int64)) + (1 : Int64))), .second, .val (.ref b6), .val (.int (1 : Int32))] [(.ref b126)])) rfl (by rw [hml]; rfl) (Steps.refl _) (argsL := []) (rest := []) (lenOf pd_8 rfl) rfl (by show 2 * 0 + _ ≤ _; exact Nat.le_of_eq rfl) (hb hby at_241) (fun _ _ => ⟨rfl, rfl, (Nat.le_of_ble_eq_true rfl : 14 + 0 ≤ _), (Nat.le_of_ble_eq_true rfl : 29 + 0 ≤ _)⟩)
              dsimp only [Pt.U, Pt.locs, Pt.cells, Pt.slots] at X141 l141 y141 z141 st141 hQ141
              subst l141 y141 z141
              obtain ⟨rfl, Nq141, eq141⟩ := hQ141
              have N141 := Fr.app N134 Nq141
              refine Go.by (fun _ k => st141.trans k) ?_
              show Go p e below P (T141.setTop (mkF m 244 #[.val (.int p0), .val (.int p1), .val (.int p2), .val (.long q3), .second, .val (.long q5), .second, .val (.int c0), .val (.int c1), .val (.int d0), .val (.int d1), .val (.int l1), .val (.int l2), .val (.int (0 : Int32)), .val (.ref r_1), .val (.ref r_3), .val (.long ((q3 &&& (4611686018427387903 : Int64)) + (1 : Int64))), .second, .val (.ref b6), .val (.int (1 : Int32))] [(.int (1 : Int32))]))
              refine Go.by (fun _ => XS.iload X141.here hx rfl (hb hby at_244) rfl) ?_
              show Go p e below P (T141.setTop (mkF m 246 #[.val (.int p0), .val (.int p1), .val (.int p2), .val (.long q3), .second, .val (.long q5), .second, .val (.int c0), .val (.int c1), .val (.int d0), .val (.int d1), .val (.int l1), .val (.int l2), .val (.int (0 : Int32)), .val (.ref r_1), .val (.ref r_3), .val (.long ((q3 &&& (4611686018427387903 : Int64)) + (1 : Int64))), .second, .val (.ref b6), .val (.int (1 : Int32))] [(.int (1 : Int32)), (.int (1 : Int32))]))
              have hc246 : (1 : Int32) = (1 : Int32) := by decide
              refine Go.by (fun _ => XS.icmpNo X141.here hx rfl (hb hby at_246) rfl (teq hc246).2) ?_
              show Go p e below P (T141.setTop (mkF m 249 #[.val (.int p0), .val (.int p1), .val (.int p2), .val (.long q3), .second, .val (.long q5), .second, .val (.int c0), .val (.int c1), .val (.int d0), .val (.int d1), .val (.int l1), .val (.int l2), .val (.int (0 : Int32)), .val (.ref r_1), .val (.ref r_3), .val (.long ((q3 &&& (4611686018427387903 : Int64)) + (1 : Int64))), .second, .val (.ref b6), .val (.int (1 : Int32))] []))
              refine Go.by (fun _ => XS.iconst X141.here hx rfl (hb hby at_249)) ?_
              show Go p e below P (T141.setTop (mkF m 250 #[.val (.int p0), .val (.int p1), .val (.int p2), .val (.long q3), .second, .val (.long q5), .second, .val (.int c0), .val (.int c1), .val (.int d0), .val (.int d1), .val (.int l1), .val (.int l2), .val (.int (0 : Int32)), .val (.ref r_1), .val (.ref r_3), .val (.long ((q3 &&& (4611686018427387903 : Int64)) + (1 : Int64))), .second, .val (.ref b6), .val (.int (1 : Int32))] [(.int (1 : Int32))]))
              refine Go.by (fun _ => XS.goto X141.here hx rfl (pc0 := 250) (pc' := 254) rfl (hb hby at_250) (by decide) (by decide)) ?_
              show Go p e below P (T141.setTop (mkF m 254 #[.val (.int p0), .val (.int p1), .val (.int p2), .val (.long q3), .second, .val (.long q5), .second, .val (.int c0), .val (.int c1), .val (.int d0), .val (.int d1), .val (.int l1), .val (.int l2), .val (.int (0 : Int32)), .val (.ref r_1), .val (.ref r_3), .val (.long ((q3 &&& (4611686018427387903 : Int64)) + (1 : Int64))), .second, .val (.ref b6), .val (.int (1 : Int32))] [(.int (1 : Int32))]))
              subst hP
              refine Go.retZC (t := .boolean) X141 hx hS (by rw [eq141]; exact hk) Bd.returns (by simp) hlk (hb hby at_254) (Nat.le_of_ble_eq_true rfl) (Nat.le_of_ble_eq_true rfl) ?_ (by rw [hh, eq141]; exact R134.trans (CHv.at X141 hZ (own_EW hw) C134))
              rw [eq141]
              exact ⟨rfl, N141⟩
          · show Go p e below P (T10.setTop (mkF m 156 #[.val (.int p0), .val (.int p1), .val (.int p2), .val (.long q3), .second, .val (.long q5), .second, .val (.int c0), .val (.int c1), .val (.int d0), .val (.int d1), .val (.int l1), .val (.int l2), .val (.int (1 : Int32)), .val (.ref r_1), .val (.ref r_3), .val (.long ((q3 &&& (4611686018427387903 : Int64)) + (1 : Int64))), .second, .val (.ref b6), .unset] []))
            refine Go.by (fun _ => XS.iload X10.here hx rfl (hb hby at_156) rfl) ?_
            show Go p e below P (T10.setTop (mkF m 158 #[.val (.int p0), .val (.int p1), .val (.int p2), .val (.long q3), .second, .val (.long q5), .second, .val (.int c0), .val (.int c1), .val (.int d0), .val (.int d1), .val (.int l1), .val (.int l2), .val (.int (1 : Int32)), .val (.ref r_1), .val (.ref r_3), .val (.long ((q3 &&& (4611686018427387903 : Int64)) + (1 : Int64))), .second, .val (.ref b6), .unset] [(.int (1 : Int32))]))
            have hc158 : ¬ ((1 : Int32) = (0 : Int32)) := by decide
            refine Go.by (fun _ => XS.ifNo X10.here hx rfl (hb hby at_158) rfl ((if0 _ _).trans (feq hc158).1)) ?_
            show Go p e below P (T10.setTop (mkF m 161 #[.val (.int p0), .val (.int p1), .val (.int p2), .val (.long q3), .second, .val (.long q5), .second, .val (.int c0), .val (.int c1), .val (.int d0), .val (.int d1), .val (.int l1), .val (.int l2), .val (.int (1 : Int32)), .val (.ref r_1), .val (.ref r_3), .val (.long ((q3 &&& (4611686018427387903 : Int64)) + (1 : Int64))), .second, .val (.ref b6), .unset] []))
            obtain ⟨T142, h142, X142, e142, E142, A142, D142, -, st142⟩ := newO X10 hx hZ hown (hw _ (List.mem_of_getElem? (i := 51) rfl)) (hw _ (List.mem_of_getElem? (i := 52) rfl)) (hw _ (List.mem_of_getElem? (i := 53) rfl)) rfl (g := (mkF m 161 #[.val (.int p0), .val (.int p1), .val (.int p2), .val (.long q3), .second, .val (.long q5), .second, .val (.int c0), .val (.int c1), .val (.int d0), .val (.int d1), .val (.int l1), .val (.int l2), .val (.int (1 : Int32)), .val (.ref r_1), .val (.ref r_3), .val (.long ((q3 &&& (4611686018427387903 : Int64)) + (1 : Int64))), .second, .val (.ref b6), .unset] [])) rfl (hb hby at_161) (Nat.le_of_ble_eq_true rfl) (Nat.le_of_ble_eq_true rfl)
            obtain ⟨b142, q142⟩ : ∃ z, z = T10.heap.size := ⟨_, rfl⟩
            rw [← q142] at A142 D142 st142
            refine Go.by (fun _ => st142 _) ?_
            have ne_r_1_b142 : r_1 ≠ b142 := Nat.ne_of_lt (Nat.lt_of_lt_of_le F11.ltx (Nat.le_of_eq q142.symm))
            have ne_t_1_b142 : t_1 ≠ b142 := Nat.ne_of_lt (Nat.lt_of_lt_of_le F11.ltt (Nat.le_of_eq q142.symm))
            have ne_r_3_b142 : r_3 ≠ b142 := Nat.ne_of_lt (Nat.lt_of_lt_of_le F12.ltx (Nat.le_of_eq q142.symm))
            have ne_t_3_b142 : t_3 ≠ b142 := Nat.ne_of_lt (Nat.lt_of_lt_of_le F12.ltt (Nat.le_of_eq q142.symm))
            have ne_b6_b142 : b6 ≠ b142 := Nat.ne_of_lt (Nat.lt_of_lt_of_le F13.lt (Nat.le_of_eq q142.symm))
            have g_b142 : n0 ≤ b142 := Nat.le_trans Z10 (Nat.le_of_eq q142.symm)
            have F143 : Str Z h142 r_1 t_1 (mkL l1 c0 c1) := F11.ext E142
            have F144 : Str Z h142 r_3 t_3 (mkL l2 d0 d1) := F12.ext E142
            have F145 : Exa Z h142 b6 "com/example/halyard/halyard/model/Price" := F13.ext E142
            have O142 := O10.ext E142
            have R142 := R10.trans (CHr.ext E142 C10)
            have C142 := CHv.ext E142 C10
            have hk := Nat.le_trans hk E142.1
            have Z142 : n0 ≤ h142.size := Nat.le_trans Z10 E142.1
            have F146 : Fld Z h142 b142 "com/example/halyard/halyard/model/ReplaceOrder" "orderId" "Ljava/lang/String;" .null := D142 (Or.inr (hw _ (List.mem_of_getElem? (i := 63) rfl))) (ty := (.object "java/lang/String")) (by decide)
            have F147 : Fld Z h142 b142 "com/example/halyard/halyard/model/ReplaceOrder" "shares" "J" (.long (0 : Int64)) := D142 (Or.inr (hw _ (List.mem_of_getElem? (i := 65) rfl))) (ty := .long) (by decide)
            have F148 : Fld Z h142 b142 "com/example/halyard/halyard/model/ReplaceOrder" "price" "Lcom/example/halyard/halyard/model/Price;" .null := D142 (Or.inr (hw _ (List.mem_of_getElem? (i := 67) rfl))) (ty := (.object "com/example/halyard/halyard/model/Price")) (by decide)
            have F149 : Fld Z h142 b142 "com/example/halyard/halyard/model/ReplaceOrder" "newOrderId" "Ljava/lang/String;" .null := D142 (Or.inr (hw _ (List.mem_of_getElem? (i := 69) rfl))) (ty := (.object "java/lang/String")) (by decide)
            show Go p e below P (T142.setTop (mkF m 164 #[.val (.int p0), .val (.int p1), .val (.int p2), .val (.long q3), .second, .val (.long q5), .second, .val (.int c0), .val (.int c1), .val (.int d0), .val (.int d1), .val (.int l1), .val (.int l2), .val (.int (1 : Int32)), .val (.ref r_1), .val (.ref r_3), .val (.long ((q3 &&& (4611686018427387903 : Int64)) + (1 : Int64))), .second, .val (.ref b6), .unset] [(.ref b142)]))
            refine Go.by (fun _ => XS.dup X142.here hx rfl (hb hby at_164) rfl rfl) ?_
            show Go p e below P (T142.setTop (mkF m 165 #[.val (.int p0), .val (.int p1), .val (.int p2), .val (.long q3), .second, .val (.long q5), .second, .val (.int c0), .val (.int c1), .val (.int d0), .val (.int d1), .val (.int l1), .val (.int l2), .val (.int (1 : Int32)), .val (.ref r_1), .val (.ref r_3), .val (.long ((q3 &&& (4611686018427387903 : Int64)) + (1 : Int64))), .second, .val (.ref b6), .unset] [(.ref b142), (.ref b142)]))
            refine Go.by (fun _ => XS.aload X142.here hx rfl (hb hby at_165) rfl rfl) ?_
            show Go p e below P (T142.setTop (mkF m 167 #[.val (.int p0), .val (.int p1), .val (.int p2), .val (.long q3), .second, .val (.long q5), .second, .val (.int c0), .val (.int c1), .val (.int d0), .val (.int d1), .val (.int l1), .val (.int l2), .val (.int (1 : Int32)), .val (.ref r_1), .val (.ref r_3), .val (.long ((q3 &&& (4611686018427387903 : Int64)) + (1 : Int64))), .second, .val (.ref b6), .unset] [(.ref r_1), (.ref b142), (.ref b142)]))
            refine Go.by (fun _ => XS.lload X142.here hx rfl (hb hby at_167) rfl) ?_
            show Go p e below P (T142.setTop (mkF m 169 #[.val (.int p0), .val (.int p1), .val (.int p2), .val (.long q3), .second, .val (.long q5), .second, .val (.int c0), .val (.int c1), .val (.int d0), .val (.int d1), .val (.int l1), .val (.int l2), .val (.int (1 : Int32)), .val (.ref r_1), .val (.ref r_3), .val (.long ((q3 &&& (4611686018427387903 : Int64)) + (1 : Int64))), .second, .val (.ref b6), .unset] [(.long ((q3 &&& (4611686018427387903 : Int64)) + (1 : Int64))), (.ref r_1), (.ref b142), (.ref b142)]))
            refine Go.by (fun _ => XS.aload X142.here hx rfl (hb hby at_169) rfl rfl) ?_
            show Go p e below P (T142.setTop (mkF m 171 #[.val (.int p0), .val (.int p1), .val (.int p2), .val (.long q3), .second, .val (.long q5), .second, .val (.int c0), .val (.int c1), .val (.int d0), .val (.int d1), .val (.int l1), .val (.int l2), .val (.int (1 : Int32)), .val (.ref r_1), .val (.ref r_3), .val (.long ((q3 &&& (4611686018427387903 : Int64)) + (1 : Int64))), .second, .val (.ref b6), .unset] [(.ref b6), (.long ((q3 &&& (4611686018427387903 : Int64)) + (1 : Int64))), (.ref r_1), (.ref b142), (.ref b142)]))
            obtain ⟨_, _, ⟨T150, L150, k150, n150⟩, -, X150, ⟨Lc150, hQ150, l150, y150, z150⟩, st150⟩ := X142.specialBack hx (y := (⟨"com/example/halyard/halyard/model/ReplaceOrder", "<init>", "(Ljava/lang/String;JLcom/example/halyard/halyard/model/Price;)V"⟩ : MethodName)) rfl hown (mvT hZ (hw _ (List.mem_of_getElem? (i := 85) rfl))) (mvT hZ (hw _ (List.mem_of_getElem? (i := 86) rfl))) (mvT hZ (hw _ (List.mem_of_getElem? (i := 87) rfl))) (by decide) (backOf (W := 1) (rm_ro3 l Z a0 hw [] zC hG b142 r_1 (((q3 &&& (4611686018427387903 : Int64)) + (1 : Int64))) b6 h142 n0 Z142 O142 A142 F146 F147 F148 F149 g_b142 (own_shares q3)) hZ (hw _ (List.mem_of_getElem? (i := 87) rfl)) (hw _ (List.mem_of_getElem? (i := 53) rfl)) (Nat.le_of_ble_eq_true rfl) (Nat.le_of_ble_eq_true rfl)) (g := (mkF m 171 #[.val (.int p0), .val (.int p1), .val (.int p2), .val (.long q3), .second, .val (.long q5), .second, .val (.int c0), .val (.int c1), .val (.int d0), .val (.int d1), .val (.int l1), .val (.int l2), .val (.int (1 : Int32)), .val (.ref r_1), .val (.ref r_3), .val (.long ((q3 &&& (4611686018427387903 : Int64)) + (1 : Int64))), .second, .val (.ref b6), .unset] [(.ref b6), (.long ((q3 &&& (4611686018427387903 : Int64)) + (1 : Int64))), (.ref r_1), (.ref b142), (.ref b142)])) rfl (by rw [hml]; rfl) (Steps.refl _) (a := b142) (argsL := [(.ref r_1), (.long ((q3 &&& (4611686018427387903 : Int64)) + (1 : Int64))), (.ref b6)]) (rest := [(.ref b142)]) (lenOf pd_9 rfl) rfl (by show 2 * 0 + _ ≤ _; exact Nat.le_of_eq rfl) (hb hby at_171) (fun _ _ => ⟨rfl, e142, (Nat.le_of_ble_eq_true rfl : 14 + 0 ≤ _), (Nat.le_of_ble_eq_true rfl : 29 + 0 ≤ _)⟩)
            dsimp only [Pt.U, Pt.locs, Pt.cells, Pt.slots] at X150 l150 y150 z150 st150 hQ150
            subst l150 y150 z150
            obtain ⟨rfl, Nq150, Kc150, F151, F152⟩ := hQ150
            have N150 := Fr.app N10 Nq150
            refine Go.by (fun _ k => st150.trans k) ?_
            have F153 : Str Z T150.heap r_1 t_1 (mkL l1 c0 c1) := F143.keep Kc150 (ninS ne_r_1_b142 nin0) (ninS ne_t_1_b142 nin0)
            have F154 : Str Z T150.heap r_3 t_3 (mkL l2 d0 d1) := F144.keep Kc150 (ninS ne_r_3_b142 nin0) (ninS ne_t_3_b142 nin0)
            have F155 : Exa Z T150.heap b6 "com/example/halyard/halyard/model/Price" := F145.keep Kc150
            have F156 : Exa Z T150.heap b142 "com/example/halyard/halyard/model/ReplaceOrder" := A142.keep Kc150
            have Sk150 := own_sk (ws := [b142]) C142 (allS (Safe.exa (EL := consts_1) hZ.alike A142 (by decide) (by decide)) all0)
            have R150 := R142.trans (CHr.keep Kc150 Sk150 C142)
            have C150 := CHv.keep Kc150 Sk150 C142
            have hk := Nat.le_trans hk Kc150.1
            have O150 := O142.keep Kc150 (allS g_b142 all0)
            have Z150 : n0 ≤ T150.heap.size := Nat.le_trans Z142 Kc150.1
            show Go p e below P (T150.setTop (mkF m 174 #[.val (.int p0), .val (.int p1), .val (.int p2), .val (.long q3), .second, .val (.long q5), .second, .val (.int c0), .val (.int c1), .val (.int d0), .val (.int d1), .val (.int l1), .val (.int l2), .val (.int (1 : Int32)), .val (.ref r_1), .val (.ref r_3), .val (.long ((q3 &&& (4611686018427387903 : Int64)) + (1 : Int64))), .second, .val (.ref b6), .unset] [(.ref b142)]))
            obtain ⟨cq157, kq157, qa157, qb157, qc157⟩ := isOf hZ rfl F156
            obtain ⟨_, _, ⟨T157, L157, k157, n157⟩, -, X157, ⟨Lc157, hQ157, l157, y157, z157⟩, st157⟩ := X150.virtualBack hx (y := (⟨"com/example/halyard/halyard/model/ReplaceOrder", "renames", "()Z"⟩ : MethodName)) (z := (⟨"com/example/halyard/halyard/model/ReplaceOrder", "renames", "()Z"⟩ : MethodName)) hown (mvT hZ (hw _ (List.mem_of_getElem? (i := 70) rfl))) (mvT hZ (hw _ (List.mem_of_getElem? (i := 71) rfl))) (notFace_of_selects (args := #[]) (mvT hZ (hw _ (List.mem_of_getElem? (i := 73) rfl)))) (mvT hZ (hw _ (List.mem_of_getElem? (i := 73) rfl))) (mvT hZ (hw _ (List.mem_of_getElem? (i := 72) rfl))) (by decide) (backOf (W := 0) (rm_ren l Z a0 hw [] zC hG b142 r_1 r_1 t_1 t_1 ((mkL l1 c0 c1)) ((mkL l1 c0 c1)) ((0 : Int32)) T150.heap n0 Z150 O150 F151 F152 F153 F153 (by rw [if_pos rfl])) hZ (hw _ (List.mem_of_getElem? (i := 74) rfl)) (hw _ (List.mem_of_getElem? (i := 53) rfl)) (Nat.le_of_ble_eq_true rfl) (Nat.le_of_ble_eq_true rfl)) qa157 qc157 (g := (mkF m 174 #[.val (.int p0), .val (.int p1), .val (.int p2), .val (.long q3), .second, .val (.long q5), .second, .val (.int c0), .val (.int c1), .val (.int d0), .val (.int d1), .val (.int l1), .val (.int l2), .val (.int (1 : Int32)), .val (.ref r_1), .val (.ref r_3), .val (.long ((q3 &&& (4611686018427387903 : Int64)) + (1 : Int64))), .second, .val (.ref b6), .unset] [(.ref b142)])) rfl (by rw [hml]; rfl) (Steps.refl _) (argsL := []) (rest := []) (lenOf pd_8 rfl) rfl (by show 2 * 0 + _ ≤ _; exact Nat.le_of_eq rfl) (hb hby at_174) (fun _ _ => ⟨rfl, rfl, (Nat.le_of_ble_eq_true rfl : 14 + 0 ≤ _), (Nat.le_of_ble_eq_true rfl : 29 + 0 ≤ _)⟩)
            dsimp only [Pt.U, Pt.locs, Pt.cells, Pt.slots] at X157 l157 y157 z157 st157 hQ157
            subst l157 y157 z157
            obtain ⟨rfl, Nq157, eq157⟩ := hQ157
            have N157 := Fr.app N150 Nq157
            refine Go.by (fun _ k => st157.trans k) ?_
            show Go p e below P (T157.setTop (mkF m 177 #[.val (.int p0), .val (.int p1), .val (.int p2), .val (.long q3), .second, .val (.long q5), .second, .val (.int c0), .val (.int c1), .val (.int d0), .val (.int d1), .val (.int l1), .val (.int l2), .val (.int (1 : Int32)), .val (.ref r_1), .val (.ref r_3), .val (.long ((q3 &&& (4611686018427387903 : Int64)) + (1 : Int64))), .second, .val (.ref b6), .unset] [(.int (0 : Int32))]))
            have hc177 : (0 : Int32) = (0 : Int32) := by decide
            refine Go.by (fun _ => XS.ifNo X157.here hx rfl (hb hby at_177) rfl ((if0 _ _).trans (teq hc177).2)) ?_
            show Go p e below P (T157.setTop (mkF m 180 #[.val (.int p0), .val (.int p1), .val (.int p2), .val (.long q3), .second, .val (.long q5), .second, .val (.int c0), .val (.int c1), .val (.int d0), .val (.int d1), .val (.int l1), .val (.int l2), .val (.int (1 : Int32)), .val (.ref r_1), .val (.ref r_3), .val (.long ((q3 &&& (4611686018427387903 : Int64)) + (1 : Int64))), .second, .val (.ref b6), .unset] []))
            refine Go.by (fun _ => XS.iconst X157.here hx rfl (hb hby at_180)) ?_
            show Go p e below P (T157.setTop (mkF m 181 #[.val (.int p0), .val (.int p1), .val (.int p2), .val (.long q3), .second, .val (.long q5), .second, .val (.int c0), .val (.int c1), .val (.int d0), .val (.int d1), .val (.int l1), .val (.int l2), .val (.int (1 : Int32)), .val (.ref r_1), .val (.ref r_3), .val (.long ((q3 &&& (4611686018427387903 : Int64)) + (1 : Int64))), .second, .val (.ref b6), .unset] [(.int (1 : Int32))]))
            refine Go.by (fun _ => XS.goto X157.here hx rfl (pc0 := 181) (pc' := 185) rfl (hb hby at_181) (by decide) (by decide)) ?_
            show Go p e below P (T157.setTop (mkF m 185 #[.val (.int p0), .val (.int p1), .val (.int p2), .val (.long q3), .second, .val (.long q5), .second, .val (.int c0), .val (.int c1), .val (.int d0), .val (.int d1), .val (.int l1), .val (.int l2), .val (.int (1 : Int32)), .val (.ref r_1), .val (.ref r_3), .val (.long ((q3 &&& (4611686018427387903 : Int64)) + (1 : Int64))), .second, .val (.ref b6), .unset] [(.int (1 : Int32))]))
            subst hP
            refine Go.retZC (t := .boolean) X157 hx hS (by rw [eq157]; exact hk) Bd.returns (by simp) hlk (hb hby at_185) (Nat.le_of_ble_eq_true rfl) (Nat.le_of_ble_eq_true rfl) ?_ (by rw [hh, eq157]; exact R150.trans (CHv.at X157 hZ (own_EW hw) C150))
            rw [eq157]
            exact ⟨rfl, N157⟩
        by_cases hc100 : ((((p1).toUInt32 >>> ((20 : Int32) &&& 31).toUInt32).toInt32) &&& (1 : Int32)) = (0 : Int32)
        · refine Go.by (fun _ => XS.ifYes X0.here hx rfl (pc0 := 100) (pc' := 107) rfl (hb hby at_100) rfl ((if0 _ _).trans (teq hc100).1) (by decide) (by decide)) ?_
          show Go p e below P (s₁.setTop (mkF m 107 #[.val (.int p0), .val (.int p1), .val (.int p2), .val (.long q3), .second, .val (.long q5), .second, .val (.int c0), .val (.int c1), .val (.int d0), .val (.int d1), .val (.int l1), .val (.int l2), .unset, .unset, .unset, .unset, .unset, .unset, .unset] []))
          refine Go.by (fun _ => XS.iconst X0.here hx rfl (hb hby at_107)) ?_
          show Go p e below P (s₁.setTop (mkF m 108 #[.val (.int p0), .val (.int p1), .val (.int p2), .val (.long q3), .second, .val (.long q5), .second, .val (.int c0), .val (.int c1), .val (.int d0), .val (.int d1), .val (.int l1), .val (.int l2), .unset, .unset, .unset, .unset, .unset, .unset, .unset] [(.int (0 : Int32))]))
          exact J108 (0 : Int32) (Or.inl rfl)
        · refine Go.by (fun _ => XS.ifNo X0.here hx rfl (hb hby at_100) rfl ((if0 _ _).trans (feq hc100).1)) ?_
          show Go p e below P (s₁.setTop (mkF m 103 #[.val (.int p0), .val (.int p1), .val (.int p2), .val (.long q3), .second, .val (.long q5), .second, .val (.int c0), .val (.int c1), .val (.int d0), .val (.int d1), .val (.int l1), .val (.int l2), .unset, .unset, .unset, .unset, .unset, .unset, .unset] []))
          refine Go.by (fun _ => XS.iconst X0.here hx rfl (hb hby at_103)) ?_
          show Go p e below P (s₁.setTop (mkF m 104 #[.val (.int p0), .val (.int p1), .val (.int p2), .val (.long q3), .second, .val (.long q5), .second, .val (.int c0), .val (.int c1), .val (.int d0), .val (.int d1), .val (.int l1), .val (.int l2), .unset, .unset, .unset, .unset, .unset, .unset, .unset] [(.int (1 : Int32))]))
          refine Go.by (fun _ => XS.goto X0.here hx rfl (pc0 := 104) (pc' := 108) rfl (hb hby at_104) (by decide) (by decide)) ?_
          show Go p e below P (s₁.setTop (mkF m 108 #[.val (.int p0), .val (.int p1), .val (.int p2), .val (.long q3), .second, .val (.long q5), .second, .val (.int c0), .val (.int c1), .val (.int d0), .val (.int d1), .val (.int l1), .val (.int l2), .unset, .unset, .unset, .unset, .unset, .unset, .unset] [(.int (1 : Int32))]))
          exact J108 (1 : Int32) (Or.inr rfl)
      by_cases hc78 : ((((p2).toUInt32 >>> ((8 : Int32) &&& 31).toUInt32).toInt32) &&& (1 : Int32)) = (0 : Int32)
      · refine Go.by (fun _ => XS.ifNo X0.here hx rfl (hb hby at_78) rfl ((if0 _ _).trans (teq hc78).2)) ?_
        show Go p e below P (s₁.setTop (mkF m 81 #[.val (.int p0), .val (.int p1), .val (.int p2), .val (.long q3), .second, .val (.long q5), .second, .val (.int c0), .val (.int c1), .val (.int d0), .val (.int d1), .val (.int l1), .unset, .unset, .unset, .unset, .unset, .unset, .unset, .unset] []))
        refine Go.by (fun _ => XS.iload X0.here hx rfl (hb hby at_81) rfl) ?_
        show Go p e below P (s₁.setTop (mkF m 83 #[.val (.int p0), .val (.int p1), .val (.int p2), .val (.long q3), .second, .val (.long q5), .second, .val (.int c0), .val (.int c1), .val (.int d0), .val (.int d1), .val (.int l1), .unset, .unset, .unset, .unset, .unset, .unset, .unset, .unset] [(.int l1)]))
        refine Go.by (fun _ => XS.goto X0.here hx rfl (pc0 := 83) (pc' := 92) rfl (hb hby at_83) (by decide) (by decide)) ?_
        show Go p e below P (s₁.setTop (mkF m 92 #[.val (.int p0), .val (.int p1), .val (.int p2), .val (.long q3), .second, .val (.long q5), .second, .val (.int c0), .val (.int c1), .val (.int d0), .val (.int d1), .val (.int l1), .unset, .unset, .unset, .unset, .unset, .unset, .unset, .unset] [(.int l1)]))
        exact J92 l1 hl1
      · refine Go.by (fun _ => XS.ifYes X0.here hx rfl (pc0 := 78) (pc' := 86) rfl (hb hby at_78) rfl ((if0 _ _).trans (feq hc78).2) (by decide) (by decide)) ?_
        show Go p e below P (s₁.setTop (mkF m 86 #[.val (.int p0), .val (.int p1), .val (.int p2), .val (.long q3), .second, .val (.long q5), .second, .val (.int c0), .val (.int c1), .val (.int d0), .val (.int d1), .val (.int l1), .unset, .unset, .unset, .unset, .unset, .unset, .unset, .unset] []))
        refine Go.by (fun _ => XS.iloadN X0.here hx rfl (hb hby at_86) rfl) ?_
        show Go p e below P (s₁.setTop (mkF m 87 #[.val (.int p0), .val (.int p1), .val (.int p2), .val (.long q3), .second, .val (.long q5), .second, .val (.int c0), .val (.int c1), .val (.int d0), .val (.int d1), .val (.int l1), .unset, .unset, .unset, .unset, .unset, .unset, .unset, .unset] [(.int p2)]))
        refine Go.by (fun _ => XS.bipush X0.here hx rfl (hb hby at_87)) ?_
        show Go p e below P (s₁.setTop (mkF m 89 #[.val (.int p0), .val (.int p1), .val (.int p2), .val (.long q3), .second, .val (.long q5), .second, .val (.int c0), .val (.int c1), .val (.int d0), .val (.int d1), .val (.int l1), .unset, .unset, .unset, .unset, .unset, .unset, .unset, .unset] [(.int (9 : Int32)), (.int p2)]))
        refine Go.by (fun _ => XS.iushr X0.here hx rfl (hb hby at_89) rfl) ?_
        show Go p e below P (s₁.setTop (mkF m 90 #[.val (.int p0), .val (.int p1), .val (.int p2), .val (.long q3), .second, .val (.long q5), .second, .val (.int c0), .val (.int c1), .val (.int d0), .val (.int d1), .val (.int l1), .unset, .unset, .unset, .unset, .unset, .unset, .unset, .unset] [(.int (((p2).toUInt32 >>> ((9 : Int32) &&& 31).toUInt32).toInt32))]))
        refine Go.by (fun _ => XS.iconst X0.here hx rfl (hb hby at_90)) ?_
        show Go p e below P (s₁.setTop (mkF m 91 #[.val (.int p0), .val (.int p1), .val (.int p2), .val (.long q3), .second, .val (.long q5), .second, .val (.int c0), .val (.int c1), .val (.int d0), .val (.int d1), .val (.int l1), .unset, .unset, .unset, .unset, .unset, .unset, .unset, .unset] [(.int (3 : Int32)), (.int (((p2).toUInt32 >>> ((9 : Int32) &&& 31).toUInt32).toInt32))]))
        refine Go.by (fun _ => iremM X0 hx rfl (hb hby at_91) rfl (by decide)) ?_
        show Go p e below P (s₁.setTop (mkF m 92 #[.val (.int p0), .val (.int p1), .val (.int p2), .val (.long q3), .second, .val (.long q5), .second, .val (.int c0), .val (.int c1), .val (.int d0), .val (.int d1), .val (.int l1), .unset, .unset, .unset, .unset, .unset, .unset, .unset, .unset] [(.int ((((p2).toUInt32 >>> ((9 : Int32) &&& 31).toUInt32).toInt32) % (3 : Int32)))]))
        exact J92 ((((p2).toUInt32 >>> ((9 : Int32) &&& 31).toUInt32).toInt32) % (3 : Int32)) (own_sh9 p2)
    by_cases hc45 : (p1 &&& (512 : Int32)) = (0 : Int32)
    · refine Go.by (fun _ => XS.ifNo X0.here hx rfl (hb hby at_45) rfl ((if0 _ _).trans (teq hc45).2)) ?_
      show Go p e below P (s₁.setTop (mkF m 48 #[.val (.int p0), .val (.int p1), .val (.int p2), .val (.long q3), .second, .val (.long q5), .second, .val (.int c0), .val (.int c1), .val (.int d0), .unset, .unset, .unset, .unset, .unset, .unset, .unset, .unset, .unset, .unset] []))
      refine Go.by (fun _ => XS.iload X0.here hx rfl (hb hby at_48) rfl) ?_
      show Go p e below P (s₁.setTop (mkF m 50 #[.val (.int p0), .val (.int p1), .val (.int p2), .val (.long q3), .second, .val (.long q5), .second, .val (.int c0), .val (.int c1), .val (.int d0), .unset, .unset, .unset, .unset, .unset, .unset, .unset, .unset, .unset, .unset] [(.int c1)]))
      refine Go.by (fun _ => XS.goto X0.here hx rfl (pc0 := 50) (pc' := 62) rfl (hb hby at_50) (by decide) (by decide)) ?_
      show Go p e below P (s₁.setTop (mkF m 62 #[.val (.int p0), .val (.int p1), .val (.int p2), .val (.long q3), .second, .val (.long q5), .second, .val (.int c0), .val (.int c1), .val (.int d0), .unset, .unset, .unset, .unset, .unset, .unset, .unset, .unset, .unset, .unset] [(.int c1)]))
      exact J62 c1 hr1
    · refine Go.by (fun _ => XS.ifYes X0.here hx rfl (pc0 := 45) (pc' := 53) rfl (hb hby at_45) rfl ((if0 _ _).trans (feq hc45).2) (by decide) (by decide)) ?_
      show Go p e below P (s₁.setTop (mkF m 53 #[.val (.int p0), .val (.int p1), .val (.int p2), .val (.long q3), .second, .val (.long q5), .second, .val (.int c0), .val (.int c1), .val (.int d0), .unset, .unset, .unset, .unset, .unset, .unset, .unset, .unset, .unset, .unset] []))
      refine Go.by (fun _ => XS.iloadN X0.here hx rfl (hb hby at_53) rfl) ?_
      show Go p e below P (s₁.setTop (mkF m 54 #[.val (.int p0), .val (.int p1), .val (.int p2), .val (.long q3), .second, .val (.long q5), .second, .val (.int c0), .val (.int c1), .val (.int d0), .unset, .unset, .unset, .unset, .unset, .unset, .unset, .unset, .unset, .unset] [(.int p1)]))
      refine Go.by (fun _ => XS.bipush X0.here hx rfl (hb hby at_54)) ?_
      show Go p e below P (s₁.setTop (mkF m 56 #[.val (.int p0), .val (.int p1), .val (.int p2), .val (.long q3), .second, .val (.long q5), .second, .val (.int c0), .val (.int c1), .val (.int d0), .unset, .unset, .unset, .unset, .unset, .unset, .unset, .unset, .unset, .unset] [(.int (10 : Int32)), (.int p1)]))
      refine Go.by (fun _ => XS.iushr X0.here hx rfl (hb hby at_56) rfl) ?_
      show Go p e below P (s₁.setTop (mkF m 57 #[.val (.int p0), .val (.int p1), .val (.int p2), .val (.long q3), .second, .val (.long q5), .second, .val (.int c0), .val (.int c1), .val (.int d0), .unset, .unset, .unset, .unset, .unset, .unset, .unset, .unset, .unset, .unset] [(.int (((p1).toUInt32 >>> ((10 : Int32) &&& 31).toUInt32).toInt32))]))
      refine Go.by (fun _ => XS.sipush X0.here hx rfl (hb hby at_57)) ?_
      show Go p e below P (s₁.setTop (mkF m 60 #[.val (.int p0), .val (.int p1), .val (.int p2), .val (.long q3), .second, .val (.long q5), .second, .val (.int c0), .val (.int c1), .val (.int d0), .unset, .unset, .unset, .unset, .unset, .unset, .unset, .unset, .unset, .unset] [(.int (255 : Int32)), (.int (((p1).toUInt32 >>> ((10 : Int32) &&& 31).toUInt32).toInt32))]))
      refine Go.by (fun _ => XS.iand X0.here hx rfl (hb hby at_60) rfl) ?_
      show Go p e below P (s₁.setTop (mkF m 61 #[.val (.int p0), .val (.int p1), .val (.int p2), .val (.long q3), .second, .val (.long q5), .second, .val (.int c0), .val (.int c1), .val (.int d0), .unset, .unset, .unset, .unset, .unset, .unset, .unset, .unset, .unset, .unset] [(.int ((((p1).toUInt32 >>> ((10 : Int32) &&& 31).toUInt32).toInt32) &&& (255 : Int32)))]))
      refine Go.by (fun _ => XS.i2c X0.here hx rfl (hb hby at_61) rfl) ?_
      show Go p e below P (s₁.setTop (mkF m 62 #[.val (.int p0), .val (.int p1), .val (.int p2), .val (.long q3), .second, .val (.long q5), .second, .val (.int c0), .val (.int c1), .val (.int d0), .unset, .unset, .unset, .unset, .unset, .unset, .unset, .unset, .unset, .unset] [(.int ((((((p1).toUInt32 >>> ((10 : Int32) &&& 31).toUInt32).toInt32) &&& (255 : Int32))).toUInt32.toUInt16.toUInt32.toInt32))]))
      exact J62 ((((((p1).toUInt32 >>> ((10 : Int32) &&& 31).toUInt32).toInt32) &&& (255 : Int32))).toUInt32.toUInt16.toUInt32.toInt32) (own_chr _)
  by_cases hc22 : (p1 &&& (1 : Int32)) = (0 : Int32)
  · refine Go.by (fun _ => XS.ifNo X0.here hx rfl (hb hby at_22) rfl ((if0 _ _).trans (teq hc22).2)) ?_
    show Go p e below P (s₁.setTop (mkF m 25 #[.val (.int p0), .val (.int p1), .val (.int p2), .val (.long q3), .second, .val (.long q5), .second, .val (.int c0), .val (.int c1), .unset, .unset, .unset, .unset, .unset, .unset, .unset, .unset, .unset, .unset, .unset] []))
    refine Go.by (fun _ => XS.iload X0.here hx rfl (hb hby at_25) rfl) ?_
    show Go p e below P (s₁.setTop (mkF m 27 #[.val (.int p0), .val (.int p1), .val (.int p2), .val (.long q3), .second, .val (.long q5), .second, .val (.int c0), .val (.int c1), .unset, .unset, .unset, .unset, .unset, .unset, .unset, .unset, .unset, .unset, .unset] [(.int c0)]))
    refine Go.by (fun _ => XS.goto X0.here hx rfl (pc0 := 27) (pc' := 38) rfl (hb hby at_27) (by decide) (by decide)) ?_
    show Go p e below P (s₁.setTop (mkF m 38 #[.val (.int p0), .val (.int p1), .val (.int p2), .val (.long q3), .second, .val (.long q5), .second, .val (.int c0), .val (.int c1), .unset, .unset, .unset, .unset, .unset, .unset, .unset, .unset, .unset, .unset, .unset] [(.int c0)]))
    exact J38 c0 hr0
  · refine Go.by (fun _ => XS.ifYes X0.here hx rfl (pc0 := 22) (pc' := 30) rfl (hb hby at_22) rfl ((if0 _ _).trans (feq hc22).2) (by decide) (by decide)) ?_
    show Go p e below P (s₁.setTop (mkF m 30 #[.val (.int p0), .val (.int p1), .val (.int p2), .val (.long q3), .second, .val (.long q5), .second, .val (.int c0), .val (.int c1), .unset, .unset, .unset, .unset, .unset, .unset, .unset, .unset, .unset, .unset, .unset] []))
    refine Go.by (fun _ => XS.iloadN X0.here hx rfl (hb hby at_30) rfl) ?_
    show Go p e below P (s₁.setTop (mkF m 31 #[.val (.int p0), .val (.int p1), .val (.int p2), .val (.long q3), .second, .val (.long q5), .second, .val (.int c0), .val (.int c1), .unset, .unset, .unset, .unset, .unset, .unset, .unset, .unset, .unset, .unset, .unset] [(.int p1)]))
    refine Go.by (fun _ => XS.iconst X0.here hx rfl (hb hby at_31)) ?_
    show Go p e below P (s₁.setTop (mkF m 32 #[.val (.int p0), .val (.int p1), .val (.int p2), .val (.long q3), .second, .val (.long q5), .second, .val (.int c0), .val (.int c1), .unset, .unset, .unset, .unset, .unset, .unset, .unset, .unset, .unset, .unset, .unset] [(.int (1 : Int32)), (.int p1)]))
    refine Go.by (fun _ => XS.iushr X0.here hx rfl (hb hby at_32) rfl) ?_
    show Go p e below P (s₁.setTop (mkF m 33 #[.val (.int p0), .val (.int p1), .val (.int p2), .val (.long q3), .second, .val (.long q5), .second, .val (.int c0), .val (.int c1), .unset, .unset, .unset, .unset, .unset, .unset, .unset, .unset, .unset, .unset, .unset] [(.int (((p1).toUInt32 >>> ((1 : Int32) &&& 31).toUInt32).toInt32))]))
    refine Go.by (fun _ => XS.sipush X0.here hx rfl (hb hby at_33)) ?_
    show Go p e below P (s₁.setTop (mkF m 36 #[.val (.int p0), .val (.int p1), .val (.int p2), .val (.long q3), .second, .val (.long q5), .second, .val (.int c0), .val (.int c1), .unset, .unset, .unset, .unset, .unset, .unset, .unset, .unset, .unset, .unset, .unset] [(.int (255 : Int32)), (.int (((p1).toUInt32 >>> ((1 : Int32) &&& 31).toUInt32).toInt32))]))
    refine Go.by (fun _ => XS.iand X0.here hx rfl (hb hby at_36) rfl) ?_
    show Go p e below P (s₁.setTop (mkF m 37 #[.val (.int p0), .val (.int p1), .val (.int p2), .val (.long q3), .second, .val (.long q5), .second, .val (.int c0), .val (.int c1), .unset, .unset, .unset, .unset, .unset, .unset, .unset, .unset, .unset, .unset, .unset] [(.int ((((p1).toUInt32 >>> ((1 : Int32) &&& 31).toUInt32).toInt32) &&& (255 : Int32)))]))
    refine Go.by (fun _ => XS.i2c X0.here hx rfl (hb hby at_37) rfl) ?_
    show Go p e below P (s₁.setTop (mkF m 38 #[.val (.int p0), .val (.int p1), .val (.int p2), .val (.long q3), .second, .val (.long q5), .second, .val (.int c0), .val (.int c1), .unset, .unset, .unset, .unset, .unset, .unset, .unset, .unset, .unset, .unset, .unset] [(.int ((((((p1).toUInt32 >>> ((1 : Int32) &&& 31).toUInt32).toInt32) &&& (255 : Int32))).toUInt32.toUInt16.toUInt32.toInt32))]))
    exact J38 ((((((p1).toUInt32 >>> ((1 : Int32) &&& 31).toUInt32).toInt32) &&& (255 : Int32))).toUInt32.toUInt16.toUInt32.toInt32) (own_chr _)
set_option maxRecDepth 65536 in
set_option maxHeartbeats 40000000 in
theorem comes_1 {Post : Tables → Env → Array Value → State → Outcome → State → Prop} (hpost : ∀ tb e args s v u, (limb_1_1.after args s (.returned v) u = true ∧ limb_1_2.after args s (.returned v) u = true ∧ True) → ReturnedEndW s (.returned v) u (Jvm.fieldLocs frame_1_writes args s ++ Jvm.arrayLocs frame_1_arrays args s ++ Jvm.staticLocs frame_1_statics s) 32 1152 → Post tb e args s (.returned v) u) :
    ArmFor flags0 classFile x code maxLocals ret World_1 tables_1 room_1 Calls_1 rest_1 Pre_1 Post := by
  intro l hfl _ _ p e ha hc hk s m args below hf hA hF happ hP
  obtain ⟨hcalls, hrest, hpre⟩ := hP
  obtain ⟨-, -, -, hnamed, -, -, -, hat⟩ := (Spec.applies_iff hf).mp happ
  obtain ⟨hg, hn⟩ := and_e (Cond.before_iff.mp (show (Jvm.Cond.and given_1 narrow_1).before args s = true from hpre))
  obtain ⟨hg0, hr0⟩ := and_e hg
  obtain ⟨hg1, hr1⟩ := and_e hr0
  obtain ⟨hg2, hr2⟩ := and_e hr1
  obtain ⟨hg3, hr3⟩ := and_e hr2
  obtain ⟨hg4, hr4⟩ := and_e hr3
  obtain ⟨w0, w1, w2, w3, w4, rfl⟩ : ∃ w0 w1 w2 w3 w4 : Value, args = #[w0, w1, w2, w3, w4] := by
    have hs : args.size = 5 := by simpa [Cond.value, given_1] using hg0
    obtain ⟨L⟩ := args
    match L, hs with
    | [w0, w1, w2, w3, w4], _ => exact ⟨w0, w1, w2, w3, w4, rfl⟩
  have hw := fun d (hd : d ∈ tables_1) => atoms_spec (ws := Jvm.Cond.code x code maxLocals ret :: tables_1) hat d (List.mem_cons_of_mem _ hd)
  have hfit : Fit s := fun {y c} hc i hi => by
    obtain ⟨ha, rfl⟩ := Array.getElem?_eq_some_iff.mp hc
    have q := List.all_eq_true.mp ((Array.all_eq_true_iff_forall_mem.mp hF) _ (Array.getElem_mem ha)) i (List.mem_range.mpr hi)
    simpa [Array.getElem?_eq_getElem hi] using q
  obtain ⟨hsets, hown0⟩ := atoms_of _ (rest_1_c_eq ▸ (show rest_1_c.before _ s = true from hrest))
  have hr0 := Cond.before_iff.mp hown0
  obtain ⟨i0, ei0⟩ := is_v hg1
  obtain rfl : w0 = (.int i0) := Option.some.inj ei0
  obtain ⟨i1, ei1⟩ := is_v hg2
  obtain rfl : w1 = (.int i1) := Option.some.inj ei1
  obtain ⟨i2, ei2⟩ := is_v hg3
  obtain rfl : w2 = (.int i2) := Option.some.inj ei2
  obtain ⟨i3, ei3⟩ := isL_v hg4
  obtain rfl : w3 = (.long i3) := Option.some.inj ei3
  obtain ⟨i4, ei4⟩ := isL_v hr4
  obtain rfl : w4 = (.long i4) := Option.some.inj ei4
  obtain ⟨zC, ezC⟩ := is_v (Cond.before_iff.mp (hsets _ (List.mem_of_getElem? (i := 1) rfl)))
  have nzC := not_v (Cond.before_iff.mp (hsets _ (List.mem_of_getElem? (i := 2) rfl)))
  have hG : Glob s zC := ⟨Sta.start ezC (Or.inl (hsets _ (List.mem_of_getElem? (i := 0) rfl))), gotF (Cond.eq_ints ezC (Term.int_eval (0))) nzC⟩
  have hCH : CHv s consts_1 s.vm s.heap := CHv.start (own_EW hw) (fun p hp => hcalls.1 p hp) (hsets _ (List.mem_of_getElem? (i := 2) rfl)) (hw _ (List.mem_of_getElem? (i := 24) rfl)) (hw _ (List.mem_of_getElem? (i := 6) rfl))
  obtain ⟨n, o, h1, h2, h3, _, L, rfl, ⟨rfl, N⟩, -, hq⟩ := rm_law l s _ hw tables_1 zC hG i0 i1 i2 i3 i4  s.heap s.heap.size (Nat.le_refl _) (Old.start s)  p e ha hc hk s m _ below hf ((Spec.applies_iff_loose hf).mp happ).1 ⟨rfl, State.Warmed39.refl s, rfl, hCH⟩ trivial
  refine ⟨n, _, h1, h2, h3, hpost _ _ _ _ _ _ ⟨Cond.after_iff.mpr rfl, Cond.after_iff.mpr (eq_i res_at (Term.int_eval (1)) rfl), trivial⟩ ⟨hq.1, hq.2.1, hq.2.2.1, (hq.2.2.2.sift fun y hy => Or.inr (N y hy)).mono (Nat.le_of_ble_eq_true rfl) (Nat.le_of_ble_eq_true rfl)⟩⟩
theorem main_1_1 : Claimed_1_1 := comes_1 fun _ _ _ _ _ _ h hF => ⟨h.1, hF⟩
theorem main_1_2 : Claimed_1_2 := comes_1 fun _ _ _ _ _ _ h hF => ⟨h.2.1, hF⟩
end Jvm.Pilot.@@N@@
namespace Jvm.Pilot.@@N@@
open Jvm Jvm.ClassFile Sem Op Lib Jvm.Free Jvm.Stand Jvm.Pilot.@@N@@.Jvm.D
/-! MADE BY PROGRAM (witnessworld.py) out of the Statement's table words and the real class files: 25 classes; the members and pool entries that the words name. The judged class is class 1, her method 2. -/
namespace start1
open Jvm.ClassFile
def u (s : String) : CpInfo := .utf8 (stringToUtf16 s)
/-- a pool by its gaps: so many unusable entries, then the entry; so many at the end -/
def gap : Nat → List CpInfo → List CpInfo
  | 0, r => r
  | n + 1, r => .unusable :: gap n r
def poolList (es : List (Nat × CpInfo)) (last : Nat) : List CpInfo := es.foldr (fun e r => gap e.1 (e.2 :: r)) (gap last [])
def pool (es : List (Nat × CpInfo)) (last : Nat) : Array CpInfo := ⟨poolList es last⟩
def fileOf (pool : Array CpInfo) (this : Nat) (attrs : Array Attribute := #[]) (ms : Array MethodInfo := #[]) (fl : Nat := 33) (sup : Nat := 0) (ifs : Array Nat := #[]) (fds : Array FieldInfo := #[]) : ClassFile where
  minorVersion := 0
  majorVersion := 65
  constantPool := pool
  accessFlags := fl
  thisClass := this
  superClass := sup
  interfaces := ifs
  fields := fds
  methods := ms
  attributes := attrs
def plain (name : String) (sup : Option ClassId) : Class where
  name := name
  kind := .ordinary
  loader := none
  accessFlags := 33
  super := sup
  interfaces := #[]
  cf := none
  fields := #[]
  methods := #[]
  instanceTypes := #[]
  staticTypes := #[]
  resolved := #[]
  callSites := []
  init := .initialized
  statics := none
  mirror := none

def pool0 : Array CpInfo := pool [(5, u "<init>"), (0, u "()V"), (1, .class_ 10), (1, u "java/lang/Object")] 113

def k0c0 : Code := { maxStack := 0, maxLocals := 1, code := object_method_1_code, exceptionTable := #[], attributes := #[] }
def k0m0 : Method := { name := "<init>", desc := "()V", sig := { parameters := [], returnType := none }, accessFlags := 1, code := some k0c0 }
/-- java/lang/Object -/
def k0 : Class := { plain "java/lang/Object" none with
  accessFlags := 33
  interfaces := #[]
  cf := some (fileOf pool0 8 #[] #[{ accessFlags := 1, nameIndex := 5, descriptorIndex := 6, attributes := #[] }] 33 0 #[] #[])
  fields := #[]
  methods := #[k0m0]
  instanceTypes := #[]
  staticTypes := #[]
  resolved := Array.replicate 124 none
  statics := none }

def pool1 : Array CpInfo := pool [(2, .class_ 4), (1, u "java/lang/Object"), (0, u "<init>"), (0, u "()V"), (0, .class_ 8), (0, u "java/lang/String"), (0, .methodref 7 10), (0, .nameAndType 5 11), (0, u "([C)V"), (0, .integer 2147483647), (0, .methodref 14 15), (0, .class_ 16), (0, .nameAndType 17 18), (0, u "com/example/halyard/halyard/model/ReplaceOrderRenamesPinLaw"), (0, u "mk"), (0, u "(ICC)Ljava/lang/String;"), (0, .long 4611686018427387903), (1, .class_ 22), (0, u "com/example/halyard/halyard/model/Price"), (2, .long 9223372036854775807), (1, .methodref 21 28), (0, .nameAndType 5 29), (0, u "(J)V"), (0, .class_ 31), (0, u "com/example/halyard/halyard/model/ReplaceOrder"), (0, .methodref 30 33), (0, .nameAndType 5 34), (0, u "(Ljava/lang/String;JLcom/example/halyard/halyard/model/Price;)V"), (0, .methodref 30 36), (0, .nameAndType 37 38), (0, u "renames"), (0, u "()Z"), (0, .methodref 30 40), (0, .nameAndType 5 41), (0, u "(Ljava/lang/String;JLcom/example/halyard/halyard/model/Price;Ljava/lang/String;)V"), (3, u "law"), (0, u "(IIIJJ)Z")] 2

def k1m0 : Method := { name := "<init>", desc := "()V", sig := { parameters := [], returnType := none }, accessFlags := 1, code := none }
def k1c1 : Code := { maxStack := 6, maxLocals := 3, code := method_2_code, exceptionTable := #[], attributes := #[] }
def k1m1 : Method := { name := "mk", desc := "(ICC)Ljava/lang/String;", sig := { parameters := [.int, .char, .char], returnType := some (.object "java/lang/String") }, accessFlags := 10, code := some k1c1 }
def k1c2 : Code := { maxStack := 7, maxLocals := 20, code := code, exceptionTable := #[], attributes := #[] }
def k1m2 : Method := { name := "law", desc := "(IIIJJ)Z", sig := { parameters := [.int, .int, .int, .long, .long], returnType := some .boolean }, accessFlags := 9, code := some k1c2 }
/-- com/example/halyard/halyard/model/ReplaceOrderRenamesPinLaw -/
def k1 : Class := { plain "com/example/halyard/halyard/model/ReplaceOrderRenamesPinLaw" (some 0) with
  accessFlags := 49
  interfaces := #[]
  cf := some (fileOf pool1 14 #[] #[{ accessFlags := 1, nameIndex := 5, descriptorIndex := 6, attributes := #[] }, { accessFlags := 10, nameIndex := 17, descriptorIndex := 18, attributes := #[] }, { accessFlags := 9, nameIndex := 45, descriptorIndex := 46, attributes := #[] }] 49 2 #[] #[])
  fields := #[]
  methods := #[k1m0, k1m1, k1m2]
  instanceTypes := #[]
  staticTypes := #[]
  resolved := Array.replicate 49 none
  statics := none }

def pool2 : Array CpInfo := pool [(1, .class_ 2), (0, u "java/io/Serializable"), (0, .class_ 4), (0, u "java/lang/Object")] 2

/-- java/io/Serializable -/
def k2 : Class := { plain "java/io/Serializable" (some 0) with
  accessFlags := 1537
  interfaces := #[]
  cf := some (fileOf pool2 1 #[] #[] 1537 3 #[] #[])
  fields := #[]
  methods := #[]
  instanceTypes := #[]
  staticTypes := #[]
  resolved := Array.replicate 7 none
  statics := none }

def pool3 : Array CpInfo := pool [(1, .class_ 2), (0, u "java/lang/Comparable"), (0, .class_ 4), (0, u "java/lang/Object")] 7

/-- java/lang/Comparable -/
def k3 : Class := { plain "java/lang/Comparable" (some 0) with
  accessFlags := 1537
  interfaces := #[]
  cf := some (fileOf pool3 1 #[] #[] 1537 3 #[] #[])
  fields := #[]
  methods := #[]
  instanceTypes := #[]
  staticTypes := #[]
  resolved := Array.replicate 12 none
  statics := none }

def pool4 : Array CpInfo := pool [(2, .class_ 4), (1, u "java/lang/CharSequence"), (42, .class_ 48), (0, u "java/lang/CharSequence$1CodePointIterator"), (10, .class_ 60), (0, u "java/lang/CharSequence$1CharIterator"), (5, .class_ 67), (0, u "java/lang/Object")] 63

/-- java/lang/CharSequence -/
def k4 : Class := { plain "java/lang/CharSequence" (some 0) with
  accessFlags := 1537
  interfaces := #[]
  cf := some (fileOf pool4 2 #[.nestMembers #[47, 59]] #[] 1537 66 #[] #[])
  fields := #[]
  methods := #[]
  instanceTypes := #[]
  staticTypes := #[]
  resolved := Array.replicate 131 none
  statics := none }

def pool5 : Array CpInfo := pool [(1, .class_ 2), (0, u "java/lang/constant/Constable"), (0, .class_ 4), (0, u "java/lang/Object")] 6

/-- java/lang/constant/Constable -/
def k5 : Class := { plain "java/lang/constant/Constable" (some 0) with
  accessFlags := 1537
  interfaces := #[]
  cf := some (fileOf pool5 1 #[] #[] 1537 3 #[] #[])
  fields := #[]
  methods := #[]
  instanceTypes := #[]
  staticTypes := #[]
  resolved := Array.replicate 11 none
  statics := none }

def pool6 : Array CpInfo := pool [(1, .class_ 2), (0, u "java/lang/constant/ConstantDesc"), (0, .class_ 4), (0, u "java/lang/Object")] 32

/-- java/lang/constant/ConstantDesc -/
def k6 : Class := { plain "java/lang/constant/ConstantDesc" (some 0) with
  accessFlags := 1537
  interfaces := #[]
  cf := some (fileOf pool6 1 #[] #[] 1537 3 #[] #[])
  fields := #[]
  methods := #[]
  instanceTypes := #[]
  staticTypes := #[]
  resolved := Array.replicate 37 none
  statics := none }

def pool7 : Array CpInfo := pool [(1, .methodref 2 3), (0, .class_ 4), (0, .nameAndType 5 6), (0, u "java/lang/Object"), (0, u "<init>"), (0, u "()V"), (0, .string 8), (0, u ""), (0, .fieldref 10 11), (0, .class_ 12), (0, .nameAndType 13 14), (0, u "java/lang/String"), (0, u "value"), (0, u "[B"), (0, .fieldref 10 16), (0, .nameAndType 17 18), (0, u "coder"), (0, u "B"), (2, u "hash"), (0, u "I"), (2, u "hashIsZero"), (0, u "Z"), (0, .methodref 10 28), (0, .nameAndType 5 29), (0, u "([CIILjava/lang/Void;)V"), (8, .fieldref 10 39), (0, .nameAndType 40 26), (0, u "COMPACT_STRINGS"), (1, .class_ 44), (1, u "java/lang/StringUTF16"), (0, u "compress"), (1, .methodref 42 48), (0, .nameAndType 49 50), (0, u "coderFromArrayLen"), (0, u "([BI)B"), (56, .class_ 109), (1, u "java/lang/StringLatin1"), (67, .methodref 42 178), (0, .nameAndType 45 179), (0, u "([CII)[B"), (361, .methodref 107 542), (0, .nameAndType 543 544), (0, u "equals"), (0, u "([B[B)Z"), (28, u "(Ljava/lang/Object;)Z"), (1, .class_ 576), (0, u "java/lang/CharSequence"), (22, u "CASE_INSENSITIVE_ORDER"), (0, u "Ljava/util/Comparator;"), (409, u "([C)V"), (90, u "serialPersistentFields"), (0, u "[Ljava/io/ObjectStreamField;"), (0, .class_ 1104), (0, u "java/lang/String$CaseInsensitiveComparator"), (1, .class_ 1107), (0, u "java/io/Serializable"), (0, .class_ 1109), (0, u "java/lang/Comparable"), (0, .class_ 1111), (0, u "java/lang/constant/Constable"), (0, .class_ 1113), (0, u "java/lang/constant/ConstantDesc"), (2, u "serialVersionUID"), (0, u "J"), (3, u "REPL"), (0, u "C"), (2, u "LATIN1"), (1, u "UTF16")] 323

def k7m0 : Method := { name := "<init>", desc := "()V", sig := { parameters := [], returnType := none }, accessFlags := 1, code := none }
def k7c1 : Code := { maxStack := 5, maxLocals := 2, code := jdk_42_method_3_code, exceptionTable := #[], attributes := #[] }
def k7m1 : Method := { name := "<init>", desc := "([C)V", sig := { parameters := [(.array .char)], returnType := none }, accessFlags := 1, code := some k7c1 }
def k7c2 : Code := { maxStack := 2, maxLocals := 3, code := jdk_42_method_66_code, exceptionTable := #[], attributes := #[] }
def k7m2 : Method := { name := "equals", desc := "(Ljava/lang/Object;)Z", sig := { parameters := [(.object "java/lang/Object")], returnType := some .boolean }, accessFlags := 1, code := some k7c2 }
def k7c3 : Code := { maxStack := 4, maxLocals := 6, code := jdk_42_method_149_code, exceptionTable := #[], attributes := #[] }
def k7m3 : Method := { name := "<init>", desc := "([CIILjava/lang/Void;)V", sig := { parameters := [(.array .char), .int, .int, (.object "java/lang/Void")], returnType := none }, accessFlags := 2, code := some k7c3 }
/-- java/lang/String -/
def k7 : Class := { plain "java/lang/String" (some 0) with
  accessFlags := 49
  interfaces := #[2, 3, 4, 5, 6]
  cf := some (fileOf pool7 10 #[.nestMembers #[1103]] #[{ accessFlags := 1, nameIndex := 5, descriptorIndex := 6, attributes := #[] }, { accessFlags := 1, nameIndex := 5, descriptorIndex := 1010, attributes := #[] }, { accessFlags := 1, nameIndex := 543, descriptorIndex := 573, attributes := #[] }, { accessFlags := 2, nameIndex := 5, descriptorIndex := 29, attributes := #[] }] 49 2 #[1106, 1108, 575, 1110, 1112] #[{ accessFlags := 18, nameIndex := 13, descriptorIndex := 14, attributes := #[] }, { accessFlags := 18, nameIndex := 17, descriptorIndex := 18, attributes := #[] }, { accessFlags := 2, nameIndex := 21, descriptorIndex := 22, attributes := #[] }, { accessFlags := 2, nameIndex := 25, descriptorIndex := 26, attributes := #[] }, { accessFlags := 26, nameIndex := 1116, descriptorIndex := 1117, attributes := #[] }, { accessFlags := 24, nameIndex := 40, descriptorIndex := 26, attributes := #[] }, { accessFlags := 26, nameIndex := 1101, descriptorIndex := 1102, attributes := #[] }, { accessFlags := 26, nameIndex := 1121, descriptorIndex := 1122, attributes := #[] }, { accessFlags := 25, nameIndex := 599, descriptorIndex := 600, attributes := #[] }, { accessFlags := 24, nameIndex := 1125, descriptorIndex := 18, attributes := #[] }, { accessFlags := 24, nameIndex := 1127, descriptorIndex := 18, attributes := #[] }])
  fields := #[{ name := "value", type := (.array .byte), accessFlags := 18, slot := 0, constantValue := 0 }, { name := "coder", type := .byte, accessFlags := 18, slot := 1, constantValue := 0 }, { name := "hash", type := .int, accessFlags := 2, slot := 2, constantValue := 0 }, { name := "hashIsZero", type := .boolean, accessFlags := 2, slot := 3, constantValue := 0 }, { name := "serialVersionUID", type := .long, accessFlags := 26, slot := 0, constantValue := 0 }, { name := "COMPACT_STRINGS", type := .boolean, accessFlags := 24, slot := 1, constantValue := 0 }, { name := "serialPersistentFields", type := (.array (.object "java/io/ObjectStreamField")), accessFlags := 26, slot := 2, constantValue := 0 }, { name := "REPL", type := .char, accessFlags := 26, slot := 3, constantValue := 0 }, { name := "CASE_INSENSITIVE_ORDER", type := (.object "java/util/Comparator"), accessFlags := 25, slot := 4, constantValue := 0 }, { name := "LATIN1", type := .byte, accessFlags := 24, slot := 5, constantValue := 0 }, { name := "UTF16", type := .byte, accessFlags := 24, slot := 6, constantValue := 0 }]
  methods := #[k7m0, k7m1, k7m2, k7m3]
  instanceTypes := #[(.array .byte), .byte, .int, .boolean]
  staticTypes := #[.long, .boolean, (.array (.object "java/io/ObjectStreamField")), .char, (.object "java/util/Comparator"), .byte, .byte]
  resolved := Array.replicate 1451 none
  statics := some 0 }

def pool8 : Array CpInfo := pool [(6, .class_ 8), (1, u "java/lang/Object"), (0, u "<init>"), (0, u "()V"), (1, .class_ 14), (1, u "java/lang/StringUTF16"), (31, u "$assertionsDisabled"), (0, u "Z"), (13, u "HI_BYTE_SHIFT"), (0, u "I"), (2, u "LO_BYTE_SHIFT"), (49, .methodref 12 116), (0, .nameAndType 117 118), (0, u "compress"), (0, u "([CI[BII)I"), (3, u "([CII)[B"), (138, u "coderFromArrayLen"), (0, u "([BI)B"), (106, .class_ 371), (1, u "java/lang/StringUTF16$LinesSpliterator"), (58, u "MAX_LENGTH"), (196, .class_ 628), (0, u "java/lang/StringUTF16$CodePointsSpliterator"), (0, .class_ 630), (0, u "java/lang/StringUTF16$CharsSpliterator")] 4

def k8m0 : Method := { name := "<init>", desc := "()V", sig := { parameters := [], returnType := none }, accessFlags := 0, code := none }
def k8c1 : Code := { maxStack := 2, maxLocals := 2, code := jdk_52_method_15_code, exceptionTable := #[], attributes := #[] }
def k8m1 : Method := { name := "coderFromArrayLen", desc := "([BI)B", sig := { parameters := [(.array .byte), .int], returnType := some .byte }, accessFlags := 8, code := some k8c1 }
def k8c2 : Code := { maxStack := 5, maxLocals := 6, code := jdk_52_method_16_code, exceptionTable := #[], attributes := #[] }
def k8m2 : Method := { name := "compress", desc := "([CII)[B", sig := { parameters := [(.array .char), .int, .int], returnType := some (.array .byte) }, accessFlags := 9, code := some k8c2 }
def k8c3 : Code := { maxStack := 3, maxLocals := 7, code := jdk_52_method_21_code, exceptionTable := #[], attributes := #[] }
def k8m3 : Method := { name := "compress", desc := "([CI[BII)I", sig := { parameters := [(.array .char), .int, (.array .byte), .int, .int], returnType := some .int }, accessFlags := 9, code := some k8c3 }
/-- java/lang/StringUTF16 -/
def k8 : Class := { plain "java/lang/StringUTF16" (some 0) with
  accessFlags := 48
  interfaces := #[]
  cf := some (fileOf pool8 12 #[.nestMembers #[627, 629, 369]] #[{ accessFlags := 0, nameIndex := 9, descriptorIndex := 10, attributes := #[] }, { accessFlags := 8, nameIndex := 261, descriptorIndex := 262, attributes := #[] }, { accessFlags := 9, nameIndex := 117, descriptorIndex := 122, attributes := #[] }, { accessFlags := 9, nameIndex := 117, descriptorIndex := 118, attributes := #[] }] 48 6 #[] #[{ accessFlags := 26, nameIndex := 61, descriptorIndex := 62, attributes := #[] }, { accessFlags := 26, nameIndex := 65, descriptorIndex := 62, attributes := #[] }, { accessFlags := 24, nameIndex := 430, descriptorIndex := 62, attributes := #[] }, { accessFlags := 4120, nameIndex := 46, descriptorIndex := 47, attributes := #[] }])
  fields := #[{ name := "HI_BYTE_SHIFT", type := .int, accessFlags := 26, slot := 0, constantValue := 0 }, { name := "LO_BYTE_SHIFT", type := .int, accessFlags := 26, slot := 1, constantValue := 0 }, { name := "MAX_LENGTH", type := .int, accessFlags := 24, slot := 2, constantValue := 0 }, { name := "$assertionsDisabled", type := .boolean, accessFlags := 4120, slot := 3, constantValue := 0 }]
  methods := #[k8m0, k8m1, k8m2, k8m3]
  instanceTypes := #[]
  staticTypes := #[.int, .int, .int, .boolean]
  resolved := Array.replicate 635 none
  statics := none }

def pool9 : Array CpInfo := pool [(1, .methodref 2 3), (0, .class_ 4), (0, .nameAndType 5 6), (0, u "java/lang/Object"), (0, u "<init>"), (0, u "()V"), (0, .class_ 8), (0, u "java/lang/Record")] 13

def k9c0 : Code := { maxStack := 1, maxLocals := 1, code := jdk_30_method_1_code, exceptionTable := #[], attributes := #[] }
def k9m0 : Method := { name := "<init>", desc := "()V", sig := { parameters := [], returnType := none }, accessFlags := 4, code := some k9c0 }
/-- java/lang/Record -/
def k9 : Class := { plain "java/lang/Record" (some 0) with
  accessFlags := 1057
  interfaces := #[]
  cf := some (fileOf pool9 7 #[] #[{ accessFlags := 4, nameIndex := 5, descriptorIndex := 6, attributes := #[] }] 1057 2 #[] #[])
  fields := #[]
  methods := #[k9m0]
  instanceTypes := #[]
  staticTypes := #[]
  resolved := Array.replicate 22 none
  statics := none }

def pool10 : Array CpInfo := pool [(1, .methodref 2 3), (0, .class_ 4), (0, .nameAndType 5 6), (0, u "java/lang/Record"), (0, u "<init>"), (0, u "()V"), (9, .fieldref 17 18), (0, .class_ 19), (0, .nameAndType 20 21), (0, u "com/example/halyard/halyard/model/Price"), (0, u "units"), (0, u "J"), (2, u "TEXT"), (0, u "Ljava/util/regex/Pattern;"), (36, u "(J)V"), (54, .class_ 118), (0, u "java/lang/Comparable"), (0, u "UNITS_PER_DOLLAR"), (1, u "CENT")] 50

def k10c0 : Code := { maxStack := 4, maxLocals := 3, code := prog_49_method_1_code, exceptionTable := #[], attributes := #[] }
def k10m0 : Method := { name := "<init>", desc := "(J)V", sig := { parameters := [.long], returnType := none }, accessFlags := 1, code := some k10c0 }
/-- com/example/halyard/halyard/model/Price -/
def k10 : Class := { plain "com/example/halyard/halyard/model/Price" (some 9) with
  accessFlags := 49
  interfaces := #[3]
  cf := some (fileOf pool10 17 #[] #[{ accessFlags := 1, nameIndex := 5, descriptorIndex := 62, attributes := #[] }] 49 2 #[117] #[{ accessFlags := 18, nameIndex := 20, descriptorIndex := 21, attributes := #[] }, { accessFlags := 25, nameIndex := 119, descriptorIndex := 21, attributes := #[] }, { accessFlags := 26, nameIndex := 121, descriptorIndex := 21, attributes := #[] }, { accessFlags := 26, nameIndex := 24, descriptorIndex := 25, attributes := #[] }])
  fields := #[{ name := "units", type := .long, accessFlags := 18, slot := 0, constantValue := 0 }, { name := "UNITS_PER_DOLLAR", type := .long, accessFlags := 25, slot := 0, constantValue := 0 }, { name := "CENT", type := .long, accessFlags := 26, slot := 1, constantValue := 0 }, { name := "TEXT", type := (.object "java/util/regex/Pattern"), accessFlags := 26, slot := 2, constantValue := 0 }]
  methods := #[k10m0]
  instanceTypes := #[.long]
  staticTypes := #[.long, .long, (.object "java/util/regex/Pattern")]
  resolved := Array.replicate 172 none
  statics := none }

def pool11 : Array CpInfo := pool [(1, .class_ 2), (0, u "com/example/halyard/halyard/model/Message"), (0, .class_ 4), (0, u "java/lang/Object")] 7

/-- com/example/halyard/halyard/model/Message -/
def k11 : Class := { plain "com/example/halyard/halyard/model/Message" (some 0) with
  accessFlags := 1537
  interfaces := #[]
  cf := some (fileOf pool11 1 #[] #[] 1537 3 #[] #[])
  fields := #[]
  methods := #[]
  instanceTypes := #[]
  staticTypes := #[]
  resolved := Array.replicate 12 none
  statics := none }

def pool12 : Array CpInfo := pool [(1, .class_ 2), (0, u "com/example/halyard/halyard/model/OrderMessage"), (0, .class_ 4), (0, u "java/lang/Object"), (0, .class_ 6), (0, u "com/example/halyard/halyard/model/Message")] 15

/-- com/example/halyard/halyard/model/OrderMessage -/
def k12 : Class := { plain "com/example/halyard/halyard/model/OrderMessage" (some 0) with
  accessFlags := 1537
  interfaces := #[11]
  cf := some (fileOf pool12 1 #[] #[] 1537 3 #[5] #[])
  fields := #[]
  methods := #[]
  instanceTypes := #[]
  staticTypes := #[]
  resolved := Array.replicate 22 none
  statics := none }

def pool13 : Array CpInfo := pool [(1, .methodref 2 3), (0, .class_ 4), (0, .nameAndType 5 6), (0, u "java/lang/Record"), (0, u "<init>"), (0, u "()V"), (0, .methodref 8 9), (0, .class_ 10), (0, .nameAndType 11 12), (0, u "java/util/Objects"), (0, u "requireNonNull"), (0, u "(Ljava/lang/Object;)Ljava/lang/Object;"), (9, .fieldref 23 24), (0, .class_ 25), (0, .nameAndType 26 27), (0, u "com/example/halyard/halyard/model/ReplaceOrder"), (0, u "orderId"), (0, u "Ljava/lang/String;"), (0, .fieldref 23 29), (0, .nameAndType 30 31), (0, u "shares"), (0, u "J"), (0, .fieldref 23 33), (0, .nameAndType 34 35), (0, u "price"), (0, u "Lcom/example/halyard/halyard/model/Price;"), (0, .fieldref 23 37), (0, .nameAndType 38 27), (0, u "newOrderId"), (0, .methodref 23 40), (0, .nameAndType 5 41), (0, u "(Ljava/lang/String;JLcom/example/halyard/halyard/model/Price;Ljava/lang/String;)V"), (0, .methodref 43 44), (0, .class_ 45), (0, .nameAndType 46 47), (0, u "java/lang/String"), (0, u "equals"), (0, u "(Ljava/lang/Object;)Z"), (11, .class_ 60), (0, u "com/example/halyard/halyard/model/OrderMessage"), (6, u "(Ljava/lang/String;JLcom/example/halyard/halyard/model/Price;)V"), (0, u "renames"), (0, u "()Z")] 35

def k13c0 : Code := { maxStack := 4, maxLocals := 6, code := prog_54_method_1_code, exceptionTable := #[], attributes := #[] }
def k13m0 : Method := { name := "<init>", desc := "(Ljava/lang/String;JLcom/example/halyard/halyard/model/Price;Ljava/lang/String;)V", sig := { parameters := [(.object "java/lang/String"), .long, (.object "com/example/halyard/halyard/model/Price"), (.object "java/lang/String")], returnType := none }, accessFlags := 1, code := some k13c0 }
def k13c1 : Code := { maxStack := 6, maxLocals := 5, code := prog_54_method_2_code, exceptionTable := #[], attributes := #[] }
def k13m1 : Method := { name := "<init>", desc := "(Ljava/lang/String;JLcom/example/halyard/halyard/model/Price;)V", sig := { parameters := [(.object "java/lang/String"), .long, (.object "com/example/halyard/halyard/model/Price")], returnType := none }, accessFlags := 1, code := some k13c1 }
def k13c2 : Code := { maxStack := 2, maxLocals := 1, code := prog_54_method_3_code, exceptionTable := #[], attributes := #[] }
def k13m2 : Method := { name := "renames", desc := "()Z", sig := { parameters := [], returnType := some .boolean }, accessFlags := 1, code := some k13c2 }
/-- com/example/halyard/halyard/model/ReplaceOrder -/
def k13 : Class := { plain "com/example/halyard/halyard/model/ReplaceOrder" (some 9) with
  accessFlags := 49
  interfaces := #[12]
  cf := some (fileOf pool13 23 #[] #[{ accessFlags := 1, nameIndex := 5, descriptorIndex := 41, attributes := #[] }, { accessFlags := 1, nameIndex := 5, descriptorIndex := 67, attributes := #[] }, { accessFlags := 1, nameIndex := 68, descriptorIndex := 69, attributes := #[] }] 49 2 #[59] #[{ accessFlags := 18, nameIndex := 26, descriptorIndex := 27, attributes := #[] }, { accessFlags := 18, nameIndex := 30, descriptorIndex := 31, attributes := #[] }, { accessFlags := 18, nameIndex := 34, descriptorIndex := 35, attributes := #[] }, { accessFlags := 18, nameIndex := 38, descriptorIndex := 27, attributes := #[] }])
  fields := #[{ name := "orderId", type := (.object "java/lang/String"), accessFlags := 18, slot := 0, constantValue := 0 }, { name := "shares", type := .long, accessFlags := 18, slot := 1, constantValue := 0 }, { name := "price", type := (.object "com/example/halyard/halyard/model/Price"), accessFlags := 18, slot := 2, constantValue := 0 }, { name := "newOrderId", type := (.object "java/lang/String"), accessFlags := 18, slot := 3, constantValue := 0 }]
  methods := #[k13m0, k13m1, k13m2]
  instanceTypes := #[(.object "java/lang/String"), .long, (.object "com/example/halyard/halyard/model/Price"), (.object "java/lang/String")]
  staticTypes := #[]
  resolved := Array.replicate 105 none
  statics := none }

def pool14 : Array CpInfo := pool [(2, .class_ 4), (1, u "java/lang/Object"), (0, u "<init>"), (0, u "()V"), (35, .class_ 44), (1, u "java/util/Objects"), (0, u "requireNonNull"), (0, u "(Ljava/lang/Object;)Ljava/lang/Object;")] 137

def k14m0 : Method := { name := "<init>", desc := "()V", sig := { parameters := [], returnType := none }, accessFlags := 2, code := none }
def k14c1 : Code := { maxStack := 2, maxLocals := 1, code := jdk_31_method_10_code, exceptionTable := #[], attributes := #[] }
def k14m1 : Method := { name := "requireNonNull", desc := "(Ljava/lang/Object;)Ljava/lang/Object;", sig := { parameters := [(.object "java/lang/Object")], returnType := some (.object "java/lang/Object") }, accessFlags := 9, code := some k14c1 }
/-- java/util/Objects -/
def k14 : Class := { plain "java/util/Objects" (some 0) with
  accessFlags := 49
  interfaces := #[]
  cf := some (fileOf pool14 42 #[] #[{ accessFlags := 2, nameIndex := 5, descriptorIndex := 6, attributes := #[] }, { accessFlags := 9, nameIndex := 45, descriptorIndex := 46, attributes := #[] }] 49 2 #[] #[])
  fields := #[]
  methods := #[k14m0, k14m1]
  instanceTypes := #[]
  staticTypes := #[]
  resolved := Array.replicate 184 none
  statics := none }

def pool15 : Array CpInfo := pool [(4, .class_ 6), (1, u "java/lang/Object"), (0, u "<init>"), (0, u "()V"), (5, .class_ 16), (1, u "java/lang/StringLatin1"), (104, u "$assertionsDisabled"), (0, u "Z"), (98, .class_ 223), (1, u "java/lang/StringLatin1$LinesSpliterator"), (57, u "equals"), (0, u "([B[B)Z"), (107, .class_ 391), (0, u "java/lang/StringLatin1$CharsSpliterator")] 3

def k15m0 : Method := { name := "<init>", desc := "()V", sig := { parameters := [], returnType := none }, accessFlags := 0, code := none }
def k15c1 : Code := { maxStack := 3, maxLocals := 3, code := jdk_43_method_13_code, exceptionTable := #[], attributes := #[] }
def k15m1 : Method := { name := "equals", desc := "([B[B)Z", sig := { parameters := [(.array .byte), (.array .byte)], returnType := some .boolean }, accessFlags := 9, code := some k15c1 }
/-- java/lang/StringLatin1 -/
def k15 : Class := { plain "java/lang/StringLatin1" (some 0) with
  accessFlags := 48
  interfaces := #[]
  cf := some (fileOf pool15 14 #[.nestMembers #[390, 221]] #[{ accessFlags := 0, nameIndex := 7, descriptorIndex := 8, attributes := #[] }, { accessFlags := 9, nameIndex := 281, descriptorIndex := 282, attributes := #[] }] 48 4 #[] #[{ accessFlags := 4120, nameIndex := 121, descriptorIndex := 122, attributes := #[] }])
  fields := #[{ name := "$assertionsDisabled", type := .boolean, accessFlags := 4120, slot := 0, constantValue := 0 }]
  methods := #[k15m0, k15m1]
  instanceTypes := #[]
  staticTypes := #[.boolean]
  resolved := Array.replicate 395 none
  statics := none }

def pool16 : Array CpInfo := pool [(2, .class_ 4), (1, u "java/lang/Object"), (0, u "<init>"), (0, u "()V"), (17, .class_ 26), (1, u "jdk/internal/util/Preconditions"), (28, .class_ 56), (0, u "jdk/internal/util/Preconditions$4"), (57, .class_ 115), (0, u "jdk/internal/util/Preconditions$1"), (7, u "SIOOBE_FORMATTER"), (0, u "Ljava/util/function/BiFunction;"), (0, .class_ 126), (0, u "jdk/internal/util/Preconditions$2"), (3, u "AIOOBE_FORMATTER"), (0, .class_ 132), (0, u "jdk/internal/util/Preconditions$3"), (3, u "IOOBE_FORMATTER")] 57

def k16m0 : Method := { name := "<init>", desc := "()V", sig := { parameters := [], returnType := none }, accessFlags := 1, code := none }
/-- jdk/internal/util/Preconditions -/
def k16 : Class := { plain "jdk/internal/util/Preconditions" (some 0) with
  accessFlags := 33
  interfaces := #[]
  cf := some (fileOf pool16 24 #[.nestMembers #[55, 131, 125, 114]] #[{ accessFlags := 1, nameIndex := 5, descriptorIndex := 6, attributes := #[] }] 33 2 #[] #[{ accessFlags := 25, nameIndex := 123, descriptorIndex := 124, attributes := #[] }, { accessFlags := 25, nameIndex := 130, descriptorIndex := 124, attributes := #[] }, { accessFlags := 25, nameIndex := 136, descriptorIndex := 124, attributes := #[] }])
  fields := #[{ name := "SIOOBE_FORMATTER", type := (.object "java/util/function/BiFunction"), accessFlags := 25, slot := 0, constantValue := 0 }, { name := "AIOOBE_FORMATTER", type := (.object "java/util/function/BiFunction"), accessFlags := 25, slot := 1, constantValue := 0 }, { name := "IOOBE_FORMATTER", type := (.object "java/util/function/BiFunction"), accessFlags := 25, slot := 2, constantValue := 0 }]
  methods := #[k16m0]
  instanceTypes := #[]
  staticTypes := #[(.object "java/util/function/BiFunction"), (.object "java/util/function/BiFunction"), (.object "java/util/function/BiFunction")]
  resolved := Array.replicate 194 none
  statics := some 1 }

def pool17 : Array CpInfo := pool [(9, u "<init>"), (6, .class_ 18), (1, u "java/lang/Object"), (0, u "()V"), (1, .class_ 23), (1, u "jdk/internal/util/ArraysSupport"), (0, u "LOG2_ARRAY_LONG_INDEX_SCALE"), (0, u "I"), (2, u "U"), (0, u "Ljdk/internal/misc/Unsafe;"), (8, u "BIG_ENDIAN"), (0, u "Z"), (8, u "LOG2_BYTE_BIT_SIZE"), (4, u "LOG2_ARRAY_INT_INDEX_SCALE"), (54, u "JLA"), (0, u "Ljdk/internal/access/JavaLangAccess;"), (11, u "LOG2_ARRAY_BOOLEAN_INDEX_SCALE"), (9, u "LOG2_ARRAY_BYTE_INDEX_SCALE"), (5, u "LOG2_ARRAY_CHAR_INDEX_SCALE"), (5, u "LOG2_ARRAY_SHORT_INDEX_SCALE"), (18, u "LOG2_ARRAY_FLOAT_INDEX_SCALE"), (24, u "LOG2_ARRAY_DOUBLE_INDEX_SCALE"), (89, u "T_BOOLEAN"), (2, u "T_CHAR"), (1, u "T_FLOAT"), (1, u "T_DOUBLE"), (1, u "T_BYTE"), (1, u "T_SHORT"), (1, u "T_INT"), (1, u "T_LONG"), (1, u "SOFT_MAX_ARRAY_LENGTH")] 83

def k17m0 : Method := { name := "<init>", desc := "()V", sig := { parameters := [], returnType := none }, accessFlags := 2, code := none }
/-- jdk/internal/util/ArraysSupport -/
def k17 : Class := { plain "jdk/internal/util/ArraysSupport" (some 0) with
  accessFlags := 33
  interfaces := #[]
  cf := some (fileOf pool17 21 #[] #[{ accessFlags := 2, nameIndex := 9, descriptorIndex := 19, attributes := #[] }] 33 16 #[] #[{ accessFlags := 24, nameIndex := 28, descriptorIndex := 29, attributes := #[] }, { accessFlags := 26, nameIndex := 38, descriptorIndex := 39, attributes := #[] }, { accessFlags := 25, nameIndex := 121, descriptorIndex := 25, attributes := #[] }, { accessFlags := 25, nameIndex := 131, descriptorIndex := 25, attributes := #[] }, { accessFlags := 25, nameIndex := 137, descriptorIndex := 25, attributes := #[] }, { accessFlags := 25, nameIndex := 143, descriptorIndex := 25, attributes := #[] }, { accessFlags := 25, nameIndex := 53, descriptorIndex := 25, attributes := #[] }, { accessFlags := 25, nameIndex := 24, descriptorIndex := 25, attributes := #[] }, { accessFlags := 25, nameIndex := 162, descriptorIndex := 25, attributes := #[] }, { accessFlags := 25, nameIndex := 187, descriptorIndex := 25, attributes := #[] }, { accessFlags := 26, nameIndex := 48, descriptorIndex := 25, attributes := #[] }, { accessFlags := 25, nameIndex := 277, descriptorIndex := 25, attributes := #[] }, { accessFlags := 25, nameIndex := 280, descriptorIndex := 25, attributes := #[] }, { accessFlags := 25, nameIndex := 282, descriptorIndex := 25, attributes := #[] }, { accessFlags := 25, nameIndex := 284, descriptorIndex := 25, attributes := #[] }, { accessFlags := 25, nameIndex := 286, descriptorIndex := 25, attributes := #[] }, { accessFlags := 25, nameIndex := 288, descriptorIndex := 25, attributes := #[] }, { accessFlags := 25, nameIndex := 290, descriptorIndex := 25, attributes := #[] }, { accessFlags := 25, nameIndex := 292, descriptorIndex := 25, attributes := #[] }, { accessFlags := 26, nameIndex := 108, descriptorIndex := 109, attributes := #[] }, { accessFlags := 25, nameIndex := 294, descriptorIndex := 25, attributes := #[] }])
  fields := #[{ name := "U", type := (.object "jdk/internal/misc/Unsafe"), accessFlags := 24, slot := 0, constantValue := 0 }, { name := "BIG_ENDIAN", type := .boolean, accessFlags := 26, slot := 1, constantValue := 0 }, { name := "LOG2_ARRAY_BOOLEAN_INDEX_SCALE", type := .int, accessFlags := 25, slot := 2, constantValue := 0 }, { name := "LOG2_ARRAY_BYTE_INDEX_SCALE", type := .int, accessFlags := 25, slot := 3, constantValue := 0 }, { name := "LOG2_ARRAY_CHAR_INDEX_SCALE", type := .int, accessFlags := 25, slot := 4, constantValue := 0 }, { name := "LOG2_ARRAY_SHORT_INDEX_SCALE", type := .int, accessFlags := 25, slot := 5, constantValue := 0 }, { name := "LOG2_ARRAY_INT_INDEX_SCALE", type := .int, accessFlags := 25, slot := 6, constantValue := 0 }, { name := "LOG2_ARRAY_LONG_INDEX_SCALE", type := .int, accessFlags := 25, slot := 7, constantValue := 0 }, { name := "LOG2_ARRAY_FLOAT_INDEX_SCALE", type := .int, accessFlags := 25, slot := 8, constantValue := 0 }, { name := "LOG2_ARRAY_DOUBLE_INDEX_SCALE", type := .int, accessFlags := 25, slot := 9, constantValue := 0 }, { name := "LOG2_BYTE_BIT_SIZE", type := .int, accessFlags := 26, slot := 10, constantValue := 0 }, { name := "T_BOOLEAN", type := .int, accessFlags := 25, slot := 11, constantValue := 0 }, { name := "T_CHAR", type := .int, accessFlags := 25, slot := 12, constantValue := 0 }, { name := "T_FLOAT", type := .int, accessFlags := 25, slot := 13, constantValue := 0 }, { name := "T_DOUBLE", type := .int, accessFlags := 25, slot := 14, constantValue := 0 }, { name := "T_BYTE", type := .int, accessFlags := 25, slot := 15, constantValue := 0 }, { name := "T_SHORT", type := .int, accessFlags := 25, slot := 16, constantValue := 0 }, { name := "T_INT", type := .int, accessFlags := 25, slot := 17, constantValue := 0 }, { name := "T_LONG", type := .int, accessFlags := 25, slot := 18, constantValue := 0 }, { name := "JLA", type := (.object "jdk/internal/access/JavaLangAccess"), accessFlags := 26, slot := 19, constantValue := 0 }, { name := "SOFT_MAX_ARRAY_LENGTH", type := .int, accessFlags := 25, slot := 20, constantValue := 0 }]
  methods := #[k17m0]
  instanceTypes := #[]
  staticTypes := #[(.object "jdk/internal/misc/Unsafe"), .boolean, .int, .int, .int, .int, .int, .int, .int, .int, .int, .int, .int, .int, .int, .int, .int, .int, .int, (.object "jdk/internal/access/JavaLangAccess"), .int]
  resolved := Array.replicate 378 none
  statics := none }

def pool18 : Array CpInfo := pool [(1, u "java/lang/Cloneable"), (0, .class_ 1), (0, u "java/lang/Object"), (0, .class_ 3)] 3

/-- java/lang/Cloneable -/
def k18 : Class := { plain "java/lang/Cloneable" (some 0) with
  accessFlags := 1537
  interfaces := #[]
  cf := some (fileOf pool18 2 #[] #[] 1537 4 #[] #[])
  fields := #[]
  methods := #[]
  instanceTypes := #[]
  staticTypes := #[]
  resolved := Array.replicate 8 none
  statics := none }

/-- the primitive byte -/
def k19 : Class := { plain "byte" none with kind := .primitive 'B', accessFlags := 0x411 }
/-- [B -/
def k20 : Class := { plain "[B" (some 0) with kind := .array 19 .byte, interfaces := #[18, 2], accessFlags := 1041 }

/-- the primitive char -/
def k21 : Class := { plain "char" none with kind := .primitive 'C', accessFlags := 0x411 }
/-- [C -/
def k22 : Class := { plain "[C" (some 0) with kind := .array 21 .char, interfaces := #[18, 2], accessFlags := 1041 }

/-- the primitive int -/
def k23 : Class := { plain "int" none with kind := .primitive 'I', accessFlags := 0x411 }
/-- [I -/
def k24 : Class := { plain "[I" (some 0) with kind := .array 23 .int, interfaces := #[18, 2], accessFlags := 1041 }

def heap : Heap := #[{ cls := 7, slots := #[.long 0, .int 1, .null, .int 0, .null, .int 0, .int 0], vm := .statics 7 },
  { cls := 16, slots := #[.null, .null, .null], vm := .statics 16 }]
def classes : Array Class := #[k0, k1, k2, k3, k4, k5, k6, k7, k8, k9, k10, k11, k12, k13, k14, k15, k16, k17, k18, k19, k20, k21, k22, k23, k24]
def interned : List (Array UInt16 × Addr) := []
def slotsUsed : Nat := 10
def theMethod : MethodId := ⟨1, 2⟩
def args0 : Array Value := #[.int 5, .int 5, .int 5, .long 5, .long 5]
def aboutOver (below : List Frame) : State where
  vm := { classes := classes, interned := interned.toArray }
  heap := heap
  slotsUsed := slotsUsed
  threads := #[{ frames := .invoking theMethod args0 :: below }]
def below0 : List Frame := [.native { method := ⟨0, 0⟩, args := #[] }]
def about1 : State := aboutOver below0
def p0 : Program := .bare "" "" ""
def e0 : Env := launch0.env 0 0 0
theorem w_frames : about1.frames = Frame.invoking theMethod args0 :: below0 := rfl
set_option maxRecDepth 65536 in
theorem w_args : argsFit about1.vm theMethod args0 = true := by decide +kernel
set_option maxRecDepth 65536 in
theorem w_heap : heapFits about1 = true := by decide +kernel
set_option maxRecDepth 65536 in
theorem w_runnable : about1.curStatus? = some .runnable := by decide +kernel
set_option maxRecDepth 65536 in
theorem w_alone : about1.alone = true := by decide +kernel
set_option maxRecDepth 65536 in
theorem w_named : about1.methodNamed? x = some theMethod := by decide +kernel
set_option maxRecDepth 65536 in
theorem w_hears : about1.hears theMethod below0 = true := by decide +kernel
set_option maxRecDepth 65536 in
theorem w_ripe : about1.ripe theMethod args0 below0 = true := by decide +kernel
theorem w_running : about1.status = .running := rfl
set_option maxRecDepth 65536 in
theorem w_room : about1.hasRoom e0.platform room_1 = true :=
  launch0.hasRoom_least _ room_1 (by decide +kernel) (by decide +kernel) (by decide +kernel) (by decide +kernel) (by decide +kernel) (by decide +kernel)
theorem allAtoms_all (ts : List Jvm.Cond) (a : Array Jvm.Value) (st : Jvm.State) : (allAtoms ts).before a st = ts.all (fun c => c.before a st) := by
  induction ts with
  | nil => rfl
  | cons c t ih =>
    show (Jvm.Cond.and c (allAtoms t)).before a st = _
    rw [Jvm.Cond.before_and, ih, List.all_cons]
def words1 : List Jvm.Cond := Jvm.Cond.code x code maxLocals ret :: tables_1
/-- a 'code' word, met by the world's own term for the bytes: nothing is compared byte by byte -/
theorem code_word {y : MethodName} {bytes : ByteArray} {mx : Nat} {rt : Option FieldType} {a : Array Value} {s : State} {m : MethodId} {meth : Method} {c : Code} (h1 : s.methodNamed? y = some m) (h2 : s.vm.method? m = some meth) (h3 : meth.code = some c) (h4 : c.code = bytes)
    (h5 : (c.maxLocals == mx && c.exceptionTable.isEmpty && decide (c.maxStack ≤ mostOperands) && decide (meth.sig.returnType = rt) && !meth.locks && decide (parseMethodDescriptor y.desc = some meth.sig)) = true) : (Jvm.Cond.code y bytes mx rt).before a s = true := by
  simp only [Bool.and_eq_true, beq_iff_eq, Bool.not_eq_true', decide_eq_true_eq] at h5
  obtain ⟨⟨⟨⟨⟨g1, g2⟩, g3⟩, g4⟩, g5⟩, g6⟩ := h5
  simp [Cond.before, Cond.holds, Cond.value, h1, h2, h3, h4, g1, g2, g3, g4, g5, g6]
def isCode : Jvm.Cond → Bool
  | .code _ _ _ _ => true
  | _ => false
theorem all_split {L : List Jvm.Cond} {P : Jvm.Cond → Bool} (h1 : L.all (fun c => isCode c || P c) = true) (h2 : ∀ c ∈ L.filter isCode, P c = true) : L.all P = true := by
  refine List.all_eq_true.mpr fun c hc => ?_
  have h := List.all_eq_true.mp h1 c hc
  rcases Bool.eq_false_or_eq_true (isCode c) with hi | hi
  · exact h2 c (List.mem_filter.mpr ⟨hc, hi⟩)
  · simpa [hi] using h
set_option maxRecDepth 65536 in
theorem w_c0 : (Jvm.Cond.code x code maxLocals ret).before args0 about1 = true := code_word (m := ⟨1, 2⟩) (meth := k1m2) (c := k1c2) (by decide +kernel) rfl rfl rfl (by decide +kernel)
set_option maxRecDepth 65536 in
theorem w_c1 : (Jvm.Cond.code ({ cls := "com/example/halyard/halyard/model/ReplaceOrderRenamesPinLaw", name := "mk", desc := "(ICC)Ljava/lang/String;" } : Jvm.MethodName) method_2_code (3 : Nat) (Option.some (Jvm.ClassFile.FieldType.object "java/lang/String"))).before args0 about1 = true := code_word (m := ⟨1, 1⟩) (meth := k1m1) (c := k1c1) (by decide +kernel) rfl rfl rfl (by decide +kernel)
set_option maxRecDepth 65536 in
theorem w_c2 : (Jvm.Cond.code ({ cls := "java/lang/String", name := "<init>", desc := "([C)V" } : Jvm.MethodName) jdk_42_method_3_code (2 : Nat) (Option.none : Option Jvm.ClassFile.FieldType)).before args0 about1 = true := code_word (m := ⟨7, 1⟩) (meth := k7m1) (c := k7c1) (by decide +kernel) rfl rfl rfl (by decide +kernel)
set_option maxRecDepth 65536 in
theorem w_c3 : (Jvm.Cond.code ({ cls := "java/lang/String", name := "<init>", desc := "([CIILjava/lang/Void;)V" } : Jvm.MethodName) jdk_42_method_149_code (6 : Nat) (Option.none : Option Jvm.ClassFile.FieldType)).before args0 about1 = true := code_word (m := ⟨7, 3⟩) (meth := k7m3) (c := k7c3) (by decide +kernel) rfl rfl rfl (by decide +kernel)
set_option maxRecDepth 65536 in
theorem w_c4 : (Jvm.Cond.code ({ cls := "java/lang/Object", name := "<init>", desc := "()V" } : Jvm.MethodName) object_method_1_code (1 : Nat) (Option.none : Option Jvm.ClassFile.FieldType)).before args0 about1 = true := code_word (m := ⟨0, 0⟩) (meth := k0m0) (c := k0c0) (by decide +kernel) rfl rfl rfl (by decide +kernel)
set_option maxRecDepth 65536 in
theorem w_c5 : (Jvm.Cond.code ({ cls := "java/lang/StringUTF16", name := "compress", desc := "([CII)[B" } : Jvm.MethodName) jdk_52_method_16_code (6 : Nat) (Option.some (Jvm.ClassFile.FieldType.array Jvm.ClassFile.FieldType.byte))).before args0 about1 = true := code_word (m := ⟨8, 2⟩) (meth := k8m2) (c := k8c2) (by decide +kernel) rfl rfl rfl (by decide +kernel)
set_option maxRecDepth 65536 in
theorem w_c6 : (Jvm.Cond.code ({ cls := "java/lang/StringUTF16", name := "compress", desc := "([CI[BII)I" } : Jvm.MethodName) jdk_52_method_21_code (7 : Nat) (Option.some Jvm.ClassFile.FieldType.int)).before args0 about1 = true := code_word (m := ⟨8, 3⟩) (meth := k8m3) (c := k8c3) (by decide +kernel) rfl rfl rfl (by decide +kernel)
set_option maxRecDepth 65536 in
theorem w_c7 : (Jvm.Cond.code ({ cls := "java/lang/StringUTF16", name := "coderFromArrayLen", desc := "([BI)B" } : Jvm.MethodName) jdk_52_method_15_code (2 : Nat) (Option.some Jvm.ClassFile.FieldType.byte)).before args0 about1 = true := code_word (m := ⟨8, 1⟩) (meth := k8m1) (c := k8c1) (by decide +kernel) rfl rfl rfl (by decide +kernel)
set_option maxRecDepth 65536 in
theorem w_c8 : (Jvm.Cond.code ({ cls := "com/example/halyard/halyard/model/Price", name := "<init>", desc := "(J)V" } : Jvm.MethodName) prog_49_method_1_code (3 : Nat) (Option.none : Option Jvm.ClassFile.FieldType)).before args0 about1 = true := code_word (m := ⟨10, 0⟩) (meth := k10m0) (c := k10c0) (by decide +kernel) rfl rfl rfl (by decide +kernel)
set_option maxRecDepth 65536 in
theorem w_c9 : (Jvm.Cond.code ({ cls := "java/lang/Record", name := "<init>", desc := "()V" } : Jvm.MethodName) jdk_30_method_1_code (1 : Nat) (Option.none : Option Jvm.ClassFile.FieldType)).before args0 about1 = true := code_word (m := ⟨9, 0⟩) (meth := k9m0) (c := k9c0) (by decide +kernel) rfl rfl rfl (by decide +kernel)
set_option maxRecDepth 65536 in
theorem w_c10 : (Jvm.Cond.code ({ cls := "com/example/halyard/halyard/model/ReplaceOrder", name := "<init>", desc := "(Ljava/lang/String;JLcom/example/halyard/halyard/model/Price;Ljava/lang/String;)V" } : Jvm.MethodName) prog_54_method_1_code (6 : Nat) (Option.none : Option Jvm.ClassFile.FieldType)).before args0 about1 = true := code_word (m := ⟨13, 0⟩) (meth := k13m0) (c := k13c0) (by decide +kernel) rfl rfl rfl (by decide +kernel)
set_option maxRecDepth 65536 in
theorem w_c11 : (Jvm.Cond.code ({ cls := "java/util/Objects", name := "requireNonNull", desc := "(Ljava/lang/Object;)Ljava/lang/Object;" } : Jvm.MethodName) jdk_31_method_10_code (1 : Nat) (Option.some (Jvm.ClassFile.FieldType.object "java/lang/Object"))).before args0 about1 = true := code_word (m := ⟨14, 1⟩) (meth := k14m1) (c := k14c1) (by decide +kernel) rfl rfl rfl (by decide +kernel)
set_option maxRecDepth 65536 in
theorem w_c12 : (Jvm.Cond.code ({ cls := "com/example/halyard/halyard/model/ReplaceOrder", name := "renames", desc := "()Z" } : Jvm.MethodName) prog_54_method_3_code (1 : Nat) (Option.some Jvm.ClassFile.FieldType.boolean)).before args0 about1 = true := code_word (m := ⟨13, 2⟩) (meth := k13m2) (c := k13c2) (by decide +kernel) rfl rfl rfl (by decide +kernel)
set_option maxRecDepth 65536 in
theorem w_c13 : (Jvm.Cond.code ({ cls := "java/lang/String", name := "equals", desc := "(Ljava/lang/Object;)Z" } : Jvm.MethodName) jdk_42_method_66_code (3 : Nat) (Option.some Jvm.ClassFile.FieldType.boolean)).before args0 about1 = true := code_word (m := ⟨7, 2⟩) (meth := k7m2) (c := k7c2) (by decide +kernel) rfl rfl rfl (by decide +kernel)
set_option maxRecDepth 65536 in
theorem w_c14 : (Jvm.Cond.code ({ cls := "java/lang/StringLatin1", name := "equals", desc := "([B[B)Z" } : Jvm.MethodName) jdk_43_method_13_code (3 : Nat) (Option.some Jvm.ClassFile.FieldType.boolean)).before args0 about1 = true := code_word (m := ⟨15, 1⟩) (meth := k15m1) (c := k15c1) (by decide +kernel) rfl rfl rfl (by decide +kernel)
set_option maxRecDepth 65536 in
theorem w_c15 : (Jvm.Cond.code ({ cls := "com/example/halyard/halyard/model/ReplaceOrder", name := "<init>", desc := "(Ljava/lang/String;JLcom/example/halyard/halyard/model/Price;)V" } : Jvm.MethodName) prog_54_method_2_code (5 : Nat) (Option.none : Option Jvm.ClassFile.FieldType)).before args0 about1 = true := code_word (m := ⟨13, 1⟩) (meth := k13m1) (c := k13c1) (by decide +kernel) rfl rfl rfl (by decide +kernel)
def codes1 : List Jvm.Cond := [Jvm.Cond.code x code maxLocals ret, Jvm.Cond.code ({ cls := "com/example/halyard/halyard/model/ReplaceOrderRenamesPinLaw", name := "mk", desc := "(ICC)Ljava/lang/String;" } : Jvm.MethodName) method_2_code (3 : Nat) (Option.some (Jvm.ClassFile.FieldType.object "java/lang/String")), Jvm.Cond.code ({ cls := "java/lang/String", name := "<init>", desc := "([C)V" } : Jvm.MethodName) jdk_42_method_3_code (2 : Nat) (Option.none : Option Jvm.ClassFile.FieldType), Jvm.Cond.code ({ cls := "java/lang/String", name := "<init>", desc := "([CIILjava/lang/Void;)V" } : Jvm.MethodName) jdk_42_method_149_code (6 : Nat) (Option.none : Option Jvm.ClassFile.FieldType), Jvm.Cond.code ({ cls := "java/lang/Object", name := "<init>", desc := "()V" } : Jvm.MethodName) object_method_1_code (1 : Nat) (Option.none : Option Jvm.ClassFile.FieldType), Jvm.Cond.code ({ cls := "java/lang/StringUTF16", name := "compress", desc := "([CII)[B" } : Jvm.MethodName) jdk_52_method_16_code (6 : Nat) (Option.some (Jvm.ClassFile.FieldType.array Jvm.ClassFile.FieldType.byte)), Jvm.Cond.code ({ cls := "java/lang/StringUTF16", name := "compress", desc := "([CI[BII)I" } : Jvm.MethodName) jdk_52_method_21_code (7 : Nat) (Option.some Jvm.ClassFile.FieldType.int), Jvm.Cond.code ({ cls := "java/lang/StringUTF16", name := "coderFromArrayLen", desc := "([BI)B" } : Jvm.MethodName) jdk_52_method_15_code (2 : Nat) (Option.some Jvm.ClassFile.FieldType.byte), Jvm.Cond.code ({ cls := "com/example/halyard/halyard/model/Price", name := "<init>", desc := "(J)V" } : Jvm.MethodName) prog_49_method_1_code (3 : Nat) (Option.none : Option Jvm.ClassFile.FieldType), Jvm.Cond.code ({ cls := "java/lang/Record", name := "<init>", desc := "()V" } : Jvm.MethodName) jdk_30_method_1_code (1 : Nat) (Option.none : Option Jvm.ClassFile.FieldType), Jvm.Cond.code ({ cls := "com/example/halyard/halyard/model/ReplaceOrder", name := "<init>", desc := "(Ljava/lang/String;JLcom/example/halyard/halyard/model/Price;Ljava/lang/String;)V" } : Jvm.MethodName) prog_54_method_1_code (6 : Nat) (Option.none : Option Jvm.ClassFile.FieldType), Jvm.Cond.code ({ cls := "java/util/Objects", name := "requireNonNull", desc := "(Ljava/lang/Object;)Ljava/lang/Object;" } : Jvm.MethodName) jdk_31_method_10_code (1 : Nat) (Option.some (Jvm.ClassFile.FieldType.object "java/lang/Object")), Jvm.Cond.code ({ cls := "com/example/halyard/halyard/model/ReplaceOrder", name := "renames", desc := "()Z" } : Jvm.MethodName) prog_54_method_3_code (1 : Nat) (Option.some Jvm.ClassFile.FieldType.boolean), Jvm.Cond.code ({ cls := "java/lang/String", name := "equals", desc := "(Ljava/lang/Object;)Z" } : Jvm.MethodName) jdk_42_method_66_code (3 : Nat) (Option.some Jvm.ClassFile.FieldType.boolean), Jvm.Cond.code ({ cls := "java/lang/StringLatin1", name := "equals", desc := "([B[B)Z" } : Jvm.MethodName) jdk_43_method_13_code (3 : Nat) (Option.some Jvm.ClassFile.FieldType.boolean), Jvm.Cond.code ({ cls := "com/example/halyard/halyard/model/ReplaceOrder", name := "<init>", desc := "(Ljava/lang/String;JLcom/example/halyard/halyard/model/Price;)V" } : Jvm.MethodName) prog_54_method_2_code (5 : Nat) (Option.none : Option Jvm.ClassFile.FieldType)]
set_option maxRecDepth 65536 in
theorem codes_eq : words1.filter isCode = codes1 := rfl
theorem w_codes : ∀ c ∈ words1.filter isCode, c.before args0 about1 = true := by
  rw [codes_eq]
  intro c hc
  simp only [codes1, List.mem_cons, List.not_mem_nil, or_false] at hc
  rcases hc with rfl | rfl | rfl | rfl | rfl | rfl | rfl | rfl | rfl | rfl | rfl | rfl | rfl | rfl | rfl | rfl
  · exact w_c0
  · exact w_c1
  · exact w_c2
  · exact w_c3
  · exact w_c4
  · exact w_c5
  · exact w_c6
  · exact w_c7
  · exact w_c8
  · exact w_c9
  · exact w_c10
  · exact w_c11
  · exact w_c12
  · exact w_c13
  · exact w_c14
  · exact w_c15
set_option maxRecDepth 65536 in
theorem w_t1 : (words1.take 24).all (fun c => isCode c || c.before args0 about1) = true := by decide +kernel
set_option maxRecDepth 65536 in
theorem w_t2 : ((words1.drop 24).take 24).all (fun c => isCode c || c.before args0 about1) = true := by decide +kernel
set_option maxRecDepth 65536 in
theorem w_t3 : (((words1.drop 24).drop 24).take 24).all (fun c => isCode c || c.before args0 about1) = true := by decide +kernel
set_option maxRecDepth 65536 in
theorem w_t4 : (((words1.drop 24).drop 24).drop 24).all (fun c => isCode c || c.before args0 about1) = true := by decide +kernel
theorem w_tables : (allAtoms (Jvm.Cond.code x code maxLocals ret :: tables_1)).before args0 about1 = true := by
  rw [allAtoms_all]
  show words1.all (fun c => c.before args0 about1) = true
  refine all_split ?_ w_codes
  rw [← List.take_append_drop 24 words1, List.all_append, w_t1, ← List.take_append_drop 24 (words1.drop 24), List.all_append, w_t2, ← List.take_append_drop 24 ((words1.drop 24).drop 24), List.all_append, w_t3, w_t4]
  rfl
set_option maxRecDepth 65536 in
theorem w_rest : rest_1_c.before args0 about1 = true := by decide +kernel
set_option maxRecDepth 65536 in
theorem w_case : (Jvm.Cond.and given_1 narrow_1).before args0 about1 = true := by decide +kernel
set_option maxRecDepth 65536 in
theorem w_consts : constsHeld consts_1 about1 := Jvm.Lit.constsHeldB_iff.mp (by decide +kernel)
theorem w_applies : (headSpec (Jvm.Cond.code x code maxLocals ret :: tables_1) room_1).applies x e0.platform about1 = true :=
  (Spec.applies_iff w_frames).mpr ⟨w_running, w_runnable, w_alone, w_named, w_hears, w_ripe, w_room, w_tables⟩
theorem atStart : AtStart classFile x code maxLocals ret World_1 tables_1 room_1 Calls_1 rest_1 Pre_1 launch0 p0 e0 about1 theMethod args0 below0 :=
  ⟨lists_1, trivial, launch0.admits_env _ _ _, launch0.least_env, fairChoices_fair.cas, fairChoices_fair.clock, w_frames, w_args, w_heap, w_applies, ⟨w_consts, trivial⟩, w_rest, w_case⟩
end start1
theorem witness_1 : WitnessClaimed_1 := ⟨start1.p0, start1.e0, start1.about1, start1.theMethod, start1.args0, start1.below0, start1.atStart⟩
end Jvm.Pilot.@@N@@

import JvmDerived
import JvmDerived.Pilot.@@N@@Statement
import JvmDerived.Pilot.@@N@@Code
set_option linter.unusedVariables false
set_option linter.unusedSimpArgs false
/- laws to paste: Road.backV, Road.chN, Road.codOf (cut by pick.py; bodies as the Statement names them) -/
namespace Jvm.Pilot.@@N@@
namespace StrChars
open Jvm Sem ClassFile Op Lib Jvm.Stand Jvm.Free.XT Jvm.Free.ALB Jvm.Free.JM Jvm.Free
open Jvm.Lib.Cold (StaticIs)
/-- a char array whose places are chars -/
def Ch (a : Addr) (A : Cell) (U : State) : Prop := Arr .char a A U ∧ Typed .char A
theorem Ch.mv {a : Addr} {A : Cell} {U U' : State} (h : Ch a A U) (hal : U.vm.Alike U'.vm) (hh : U'.heap = U.heap) : Ch a A U' := ⟨h.1.mv hal hh, h.2⟩
theorem Ch.keep {a : Addr} {A : Cell} {U U' : State} (h : Ch a A U) (hal : U.vm.Alike U'.vm) (hk : U'.heap[a]? = some A) : Ch a A U' := ⟨h.1.keep hal hk, h.2⟩
/-- what place i of a char[]'s cell holds -/
def cv (A : Cell) (i : Nat) : Int32 := match A.slots[i]? with | some (.int x) => x | _ => 0
theorem Ch.get {a : Addr} {A : Cell} {U : State} (h : Ch a A U) {i : Nat} (hi : i < A.slots.size) : A.slots[i]? = some (.int (cv A i)) := by
  have e := Array.getElem?_eq_getElem hi
  have f := h.2 i _ e
  unfold cv; rw [e]
  generalize A.slots[i] = v at f
  cases v <;> simp [fits] at f ⊢
/-- the byte that i2b leaves of a char -/
def lo8 (x : Int32) : Int32 := x.toInt8.toInt32
theorem fits_lo8 (y : Int32) : fits .byte (.int (lo8 y)) = true := by
  have h1 := y.toInt8.le_toInt
  have h2 := y.toInt8.toInt_lt
  simp only [lo8, fits, Bool.and_eq_true, decide_eq_true_eq, Int32.le_iff_toInt_le, Int8.toInt_toInt32, show (-128 : Int32).toInt = -128 from by decide, show (127 : Int32).toInt = 127 from by decide]
  omega
/-- A' is A but that each place j of lo .. hi - 1 holds f j -/
def Laid (A A' : Cell) (lo hi : Nat) (f : Nat → Value) : Prop := A'.cls = A.cls ∧ A'.vm = A.vm ∧ A'.slots.size = A.slots.size ∧ ∀ i, A'.slots[i]? = if lo ≤ i ∧ i < hi then some (f i) else A.slots[i]?
theorem Laid.zero (A : Cell) (lo : Nat) (f : Nat → Value) : Laid A A lo (lo + 0) f := ⟨rfl, rfl, rfl, fun i => by rw [if_neg (by omega)]⟩
theorem Laid.step {A Ak : Cell} {lo k : Nat} {f : Nat → Value} {v : Value} (h : Laid A Ak lo k f) (hlo : lo ≤ k) (hk : k < Ak.slots.size) (hv : v = f k) : Laid A (Ak.setSlot k v) lo (k + 1) f := by
  refine ⟨h.1, h.2.1, by simpa [Cell.setSlot] using h.2.2.1, fun i => ?_⟩
  by_cases e : k = i
  · subst e; rw [Cell.slots_setSlot_self v hk, if_pos (by omega), hv]
  · rw [Cell.slots_setSlot_ne v e, h.2.2.2 i]
    by_cases q : lo ≤ i ∧ i < k
    · rw [if_pos q, if_pos (by omega)]
    · rw [if_neg q, if_neg (by omega)]
def U16 : String := "java/lang/StringUTF16"
namespace Cmp5
def yN : MethodName := ⟨"java/lang/StringUTF16", "compress", "([CI[BII)I"⟩
abbrev yB : ByteArray := jdk_52_method_21_code
theorem d0 : decode yB 0 = .ok (.iconst 0, 1) := by decide +kernel
theorem d1 : decode yB 1 = .ok (.istore 5, 2) := by decide +kernel
theorem d3 : decode yB 3 = .ok (.iload 5, 2) := by decide +kernel
theorem d5 : decode yB 5 = .ok (.iload 4, 2) := by decide +kernel
theorem d7 : decode yB 7 = .ok (.if_icmp (.ge) 37, 3) := by decide +kernel
theorem d10 : decode yB 10 = .ok (.aload_n 0, 1) := by decide +kernel
theorem d11 : decode yB 11 = .ok (.iload_n 1, 1) := by decide +kernel
theorem d12 : decode yB 12 = .ok (.caload, 1) := by decide +kernel
theorem d13 : decode yB 13 = .ok (.istore 6, 2) := by decide +kernel
theorem d15 : decode yB 15 = .ok (.iload 6, 2) := by decide +kernel
theorem d17 : decode yB 17 = .ok (.sipush 255, 3) := by decide +kernel
theorem d20 : decode yB 20 = .ok (.if_icmp (.le) 6, 3) := by decide +kernel
theorem d26 : decode yB 26 = .ok (.aload_n 2, 1) := by decide +kernel
theorem d27 : decode yB 27 = .ok (.iload_n 3, 1) := by decide +kernel
theorem d28 : decode yB 28 = .ok (.iload 6, 2) := by decide +kernel
theorem d30 : decode yB 30 = .ok (.i2b, 1) := by decide +kernel
theorem d31 : decode yB 31 = .ok (.bastore, 1) := by decide +kernel
theorem d32 : decode yB 32 = .ok (.iinc 1 1, 3) := by decide +kernel
theorem d35 : decode yB 35 = .ok (.iinc 3 1, 3) := by decide +kernel
theorem d38 : decode yB 38 = .ok (.iinc 5 1, 3) := by decide +kernel
theorem d41 : decode yB 41 = .ok (.goto (-38), 3) := by decide +kernel
theorem d44 : decode yB 44 = .ok (.iload 4, 2) := by decide +kernel
theorem d46 : decode yB 46 = .ok (.ireturn, 1) := by decide +kernel
def site : List Cond := []
def tab : Cond := tabOf yN yB 7 (some .int) site
def P (b : Addr) (A : Cell) (d : Addr) (B : Cell) (o q len : Nat) (args : Array Value) (s : State) : Prop := args = #[.ref b, .int (Int32.ofNat o), .ref d, .int (Int32.ofNat q), .int (Int32.ofNat len)] ∧ Ch b A s ∧ Arr .byte d B s ∧ b ≠ d ∧ o + len ≤ A.slots.size ∧ q + len ≤ B.slots.size ∧ ∀ i, i < len → ¬ 255 < cv A (o + i)
def E (b : Addr) (A : Cell) (d : Addr) (B : Cell) (o q len : Nat) (r : Option Value) (s u : State) : Prop := r = some (.int (Int32.ofNat len)) ∧ ∃ B', Put d B' s u ∧ Laid B B' q (q + len) (fun j => Value.int (lo8 (cv A (o + (j - q)))))
/-- no char of the range above 255: len; the places written hold each char's low byte -/
theorem law (l : Launch) (b : Addr) (A : Cell) (d : Addr) (B : Cell) (o q len : Nat) : Law l yN 5 5 0 0 yB 7 (some .int) site (P b A d B o q len) (E b A d B o q len) (copyLocs d q len) 0 0 := by
  refine Law.of_walk (plainFor_of_name (by decide +kernel)) (by decide +kernel) (by decide +kernel) (by decide) (fun _ _ h => by rw [h.1]; rfl) (fun _ U U' hal hh h => ⟨h.1, h.2.1.mv hal hh, h.2.2.1.mv hal hh, h.2.2.2⟩) (fun r U U' V V' h1 hal h2 h => ⟨h.1, h.2.elim fun B' q => ⟨B', q.1.mv h1 h2, q.2⟩⟩) ?_
  intro p e s m args below meth c s₁ X0 hexec hbytes hml hret hlk hnm hown hh0 W hP
  obtain ⟨rfl, hA, hB, hne, l1, l2, hp⟩ := hP
  have c1 : Steps p.tables e below (s₁.setTop (entryFrame m #[.ref b, .int (Int32.ofNat o), .ref d, .int (Int32.ofNat q), .int (Int32.ofNat len)] 7)) (s₁.setTop (mkF m 0 #[.val (.ref b), .val (.int (Int32.ofNat o)), .val (.ref d), .val (.int (Int32.ofNat q)), .val (.int (Int32.ofNat len)), .unset, .unset] [])) := entry rfl
  have hA0 := hA.1.mv X0.warmed.alike hh0
  have hB0 := hB.mv X0.warmed.alike hh0
  have a31 := hA.1.2.2.2
  have c2 : Steps p.tables e below (s₁.setTop (entryFrame m #[.ref b, .int (Int32.ofNat o), .ref d, .int (Int32.ofNat q), .int (Int32.ofNat len)] 7)) (s₁.setTop (mkF m 3 #[.val (.ref b), .val (.int (Int32.ofNat o)), .val (.ref d), .val (.int (Int32.ofNat q)), .val (.int (Int32.ofNat len)), .val (.int 0), .unset] [])) := c1.trans (by
    refine iconstV X0.here hexec rfl 0 (hb hbytes d0) (by decide) ?_
    refine XS.istore X0.here hexec rfl (hb hbytes d1) rfl rfl ?_
    exact Steps.refl _)
  have loop : ∀ (r i : Nat), i + r = len → ∀ (z : Slot), (z = .unset ∨ ∃ w, z = .val w ∧ w.category = 1) → ∀ (Tl : State) (Bk : Cell), Stand p l e { frames := 0, locals := 0, cells := 0, slots := 0 } s m #[.ref b, .int (Int32.ofNat o), .ref d, .int (Int32.ofNat q), .int (Int32.ofNat len)] below meth c Tl ([] ++ copyLocs d q i) 0 0 → Put d Bk s₁ Tl → Laid B Bk q (q + i) (fun j => Value.int (lo8 (cv A (o + (j - q))))) →
      Steps p.tables e below (s₁.setTop (entryFrame m #[.ref b, .int (Int32.ofNat o), .ref d, .int (Int32.ofNat q), .int (Int32.ofNat len)] 7)) (Tl.setTop (mkF m 3 #[.val (.ref b), .val (.int (Int32.ofNat (o + i))), .val (.ref d), .val (.int (Int32.ofNat (q + i))), .val (.int (Int32.ofNat len)), .val (.int (Int32.ofNat i)), z] [])) → ∃ (T' : State) (B' : Cell) (z' : Slot), Stand p l e { frames := 0, locals := 0, cells := 0, slots := 0 } s m #[.ref b, .int (Int32.ofNat o), .ref d, .int (Int32.ofNat q), .int (Int32.ofNat len)] below meth c T' ([] ++ copyLocs d q len) 0 0 ∧ Put d B' s₁ T' ∧ Laid B B' q (q + len) (fun j => Value.int (lo8 (cv A (o + (j - q))))) ∧
      Steps p.tables e below (s₁.setTop (entryFrame m #[.ref b, .int (Int32.ofNat o), .ref d, .int (Int32.ofNat q), .int (Int32.ofNat len)] 7)) (T'.setTop (mkF m 3 #[.val (.ref b), .val (.int (Int32.ofNat (o + len))), .val (.ref d), .val (.int (Int32.ofNat (q + len))), .val (.int (Int32.ofNat len)), .val (.int (Int32.ofNat len)), z'] [])) := by
    intro r
    induction r with
    | zero =>
      intro i hi z hz Tl Bk Xl pl fl cl
      have hil : i = len := by omega
      rw [hil] at Xl fl cl
      exact ⟨Tl, Bk, z, Xl, pl, fl, cl⟩
    | succ r ih =>
      intro i hi z hz Tl Bk Xl pl fl cl
      have all := X0.warmed.alike.symm.trans Xl.warmed.alike
      have hAl := hA0.keep all (pl.other hne hA0.1)
      have hBk := hB0.like all pl.1 fl.1 fl.2.1 fl.2.2.1
      have hlt : q + i < Bk.slots.size := by rw [fl.2.2.1]; omega
      have c3 : Steps p.tables e below (s₁.setTop (entryFrame m #[.ref b, .int (Int32.ofNat o), .ref d, .int (Int32.ofNat q), .int (Int32.ofNat len)] 7)) (Tl.setTop (mkF m 12 #[.val (.ref b), .val (.int (Int32.ofNat (o + i))), .val (.ref d), .val (.int (Int32.ofNat (q + i))), .val (.int (Int32.ofNat len)), .val (.int (Int32.ofNat i)), z] [.int (Int32.ofNat (o + i)), .ref b])) := cl.trans (by
        refine XS.iload Xl.here hexec rfl (hb hbytes d3) rfl ?_
        refine XS.iload Xl.here hexec rfl (hb hbytes d5) rfl ?_
        refine XS.icmpNo Xl.here hexec rfl (hb hbytes d7) rfl (ii_ge_f (lt32 (by omega) (by omega))) ?_
        refine XS.aloadN Xl.here hexec rfl (hb hbytes d10) rfl rfl ?_
        refine XS.iloadN Xl.here hexec rfl (hb hbytes d11) rfl ?_
        exact Steps.refl _)
      have c4 : Steps p.tables e below (s₁.setTop (entryFrame m #[.ref b, .int (Int32.ofNat o), .ref d, .int (Int32.ofNat q), .int (Int32.ofNat len)] 7)) (Tl.setTop (mkF m 13 #[.val (.ref b), .val (.int (Int32.ofNat (o + i))), .val (.ref d), .val (.int (Int32.ofNat (q + i))), .val (.int (Int32.ofNat len)), .val (.int (Int32.ofNat i)), z] [.int (cv A (o + i))])) := c3.trans (by
        refine Xl.aget hexec hAl rfl (hA.get (i := o + i) (by omega)) rfl rfl (hb hbytes d12) ?_
        exact Steps.refl _)
      have c5 : Steps p.tables e below (s₁.setTop (entryFrame m #[.ref b, .int (Int32.ofNat o), .ref d, .int (Int32.ofNat q), .int (Int32.ofNat len)] 7)) (Tl.setTop (mkF m 15 #[.val (.ref b), .val (.int (Int32.ofNat (o + i))), .val (.ref d), .val (.int (Int32.ofNat (q + i))), .val (.int (Int32.ofNat len)), .val (.int (Int32.ofNat i)), .val (.int (cv A (o + i)))] [])) := c4.trans (by
        refine XS.istoreS Xl.here hexec rfl (hb hbytes d13) rfl rfl hz ?_
        exact Steps.refl _)
      have c6 : Steps p.tables e below (s₁.setTop (entryFrame m #[.ref b, .int (Int32.ofNat o), .ref d, .int (Int32.ofNat q), .int (Int32.ofNat len)] 7)) (Tl.setTop (mkF m 31 #[.val (.ref b), .val (.int (Int32.ofNat (o + i))), .val (.ref d), .val (.int (Int32.ofNat (q + i))), .val (.int (Int32.ofNat len)), .val (.int (Int32.ofNat i)), .val (.int (cv A (o + i)))] [.int (lo8 (cv A (o + i))), .int (Int32.ofNat (q + i)), .ref d])) := c5.trans (by
        refine XS.iload Xl.here hexec rfl (hb hbytes d15) rfl ?_
        refine sipushV Xl.here hexec rfl 255 (hb hbytes d17) (by decide) ?_
        refine XS.icmpYes Xl.here hexec rfl (pc0 := 20) rfl (hb hbytes d20) rfl (ii_le_t (hp i (by omega))) (by decide) rfl ?_
        refine XS.aloadN Xl.here hexec rfl (hb hbytes d26) rfl rfl ?_
        refine XS.iloadN Xl.here hexec rfl (hb hbytes d27) rfl ?_
        refine XS.iload Xl.here hexec rfl (hb hbytes d28) rfl ?_
        refine i2b Xl.here hexec rfl (hb hbytes d30) rfl ?_
        exact Steps.refl _)
      obtain ⟨T7, X7, p7, st7⟩ := Xl.aput hexec hBk rfl hlt rfl (fits_lo8 (cv A (o + i))) (g := (mkF m 31 #[.val (.ref b), .val (.int (Int32.ofNat (o + i))), .val (.ref d), .val (.int (Int32.ofNat (q + i))), .val (.int (Int32.ofNat len)), .val (.int (Int32.ofNat i)), .val (.int (cv A (o + i)))] [.int (lo8 (cv A (o + i))), .int (Int32.ofNat (q + i)), .ref d])) rfl (rest := []) rfl (hb hbytes d31)
      have c8 : Steps p.tables e below (s₁.setTop (entryFrame m #[.ref b, .int (Int32.ofNat o), .ref d, .int (Int32.ofNat q), .int (Int32.ofNat len)] 7)) (T7.setTop (mkF m 32 #[.val (.ref b), .val (.int (Int32.ofNat (o + i))), .val (.ref d), .val (.int (Int32.ofNat (q + i))), .val (.int (Int32.ofNat len)), .val (.int (Int32.ofNat i)), .val (.int (cv A (o + i)))] [])) := c6.trans (st7 _ (Steps.refl _))
      have c9 : Steps p.tables e below (s₁.setTop (entryFrame m #[.ref b, .int (Int32.ofNat o), .ref d, .int (Int32.ofNat q), .int (Int32.ofNat len)] 7)) (T7.setTop (mkF m 3 #[.val (.ref b), .val (.int (Int32.ofNat (o + i) + 1)), .val (.ref d), .val (.int (Int32.ofNat (q + i) + 1)), .val (.int (Int32.ofNat len)), .val (.int (Int32.ofNat i + 1)), .val (.int (cv A (o + i)))] [])) := c8.trans (by
        refine iincV X7.here hexec rfl 1 (hb hbytes d32) (by decide) rfl rfl ?_
        refine iincV X7.here hexec rfl 1 (hb hbytes d35) (by decide) rfl rfl ?_
        refine iincV X7.here hexec rfl 1 (hb hbytes d38) (by decide) rfl rfl ?_
        refine XS.goto X7.here hexec rfl (pc0 := 41) rfl (hb hbytes d41) (by decide) rfl ?_
        exact Steps.refl _)
      have c10 : Steps p.tables e below (s₁.setTop (entryFrame m #[.ref b, .int (Int32.ofNat o), .ref d, .int (Int32.ofNat q), .int (Int32.ofNat len)] 7)) (T7.setTop (mkF m 3 #[.val (.ref b), .val (.int (Int32.ofNat (o + (i + 1)))), .val (.ref d), .val (.int (Int32.ofNat (q + (i + 1)))), .val (.int (Int32.ofNat len)), .val (.int (Int32.ofNat (i + 1))), .val (.int (cv A (o + i)))] [])) := by
        have := c9
        rw [succ32, succ32, succ32] at this
        exact this
      exact ih (i + 1) (by omega) _ (Or.inr ⟨_, rfl, rfl⟩) T7 _ (by rw [copyLocs_step, ← List.append_assoc]; exact X7) (pl.trans p7) (fl.step (by omega) hlt (by simp)) c10
  obtain ⟨T9, B9, z9, X9, p9, f9, g9⟩ := loop len 0 (by omega) .unset (Or.inl rfl) s₁ B (by simpa [copyLocs] using X0) ⟨hB0.1, fun _ _ => rfl, rfl⟩ (Laid.zero _ _ _) c2
  have c11 : Steps p.tables e below (s₁.setTop (entryFrame m #[.ref b, .int (Int32.ofNat o), .ref d, .int (Int32.ofNat q), .int (Int32.ofNat len)] 7)) (T9.setTop (mkF m 46 #[.val (.ref b), .val (.int (Int32.ofNat (o + len))), .val (.ref d), .val (.int (Int32.ofNat (q + len))), .val (.int (Int32.ofNat len)), .val (.int (Int32.ofNat len)), z9] [.int (Int32.ofNat len)])) := g9.trans (by
    refine XS.iload X9.here hexec rfl (hb hbytes d3) rfl ?_
    refine XS.iload X9.here hexec rfl (hb hbytes d5) rfl ?_
    refine XS.icmpYes X9.here hexec rfl (pc0 := 7) rfl (hb hbytes d7) rfl (ii_ge_t (nlt32 (by omega) (Nat.le_refl _))) (by decide) rfl ?_
    refine XS.iload X9.here hexec rfl (hb hbytes d44) rfl ?_
    exact Steps.refl _)
  exact ⟨T9, some (.int (Int32.ofNat len)), _, _, _, X9, by simp, rfl, rfl, (fun h => by cases h), ⟨rfl, B9, p9.from hh0, f9⟩, fun fs hl => c11.trans (X9.ireturnOut hexec hret rfl (Or.inl rfl) (hb hbytes d46) hl)⟩
end Cmp5
namespace Cmp3
def yN : MethodName := ⟨"java/lang/StringUTF16", "compress", "([CII)[B"⟩
abbrev yB : ByteArray := jdk_52_method_16_code
theorem d0 : decode yB 0 = .ok (.iload_n 2, 1) := by decide +kernel
theorem d1 : decode yB 1 = .ok (.newarray .byte, 2) := by decide +kernel
theorem d3 : decode yB 3 = .ok (.astore_n 3, 1) := by decide +kernel
theorem d4 : decode yB 4 = .ok (.aload_n 0, 1) := by decide +kernel
theorem d5 : decode yB 5 = .ok (.iload_n 1, 1) := by decide +kernel
theorem d6 : decode yB 6 = .ok (.aload_n 3, 1) := by decide +kernel
theorem d7 : decode yB 7 = .ok (.iconst 0, 1) := by decide +kernel
theorem d8 : decode yB 8 = .ok (.iload_n 2, 1) := by decide +kernel
theorem d9 : decode yB 9 = .ok (.invokestatic 115, 3) := by decide +kernel
theorem d12 : decode yB 12 = .ok (.istore 4, 2) := by decide +kernel
theorem d14 : decode yB 14 = .ok (.iload 4, 2) := by decide +kernel
theorem d16 : decode yB 16 = .ok (.iload_n 2, 1) := by decide +kernel
theorem d17 : decode yB 17 = .ok (.if_icmp (.eq) 40, 3) := by decide +kernel
theorem d57 : decode yB 57 = .ok (.aload_n 3, 1) := by decide +kernel
theorem d58 : decode yB 58 = .ok (.areturn, 1) := by decide +kernel
def site : List Cond := [.arrayClass .byte, Cmp5.tab] ++ staticW U16 115 Cmp5.yN
def tab : Cond := tabOf yN yB 6 (some (.array .byte)) site
def P (b : Addr) (A : Cell) (o len : Nat) (args : Array Value) (s : State) : Prop := args = #[.ref b, .int (Int32.ofNat o), .int (Int32.ofNat len)] ∧ Ch b A s ∧ o + len ≤ A.slots.size ∧ len ≤ 536870912 ∧ ∀ i, i < len → ¬ 255 < cv A (o + i)
def E (b : Addr) (A : Cell) (o len : Nat) (r : Option Value) (s u : State) : Prop := NewArr .byte "[B" len (fun j => .int (lo8 (cv A (o + j)))) r s u ∧ u.heap.size = s.heap.size + 1
/-- no char of the range above 255: a new byte[] of their low bytes -/
theorem law (l : Launch) (b : Addr) (A : Cell) (o len : Nat) : Law l yN 3 3 1 18 yB 6 (some (.array .byte)) site (P b A o len) (E b A o len) [] 1 len := by
  refine Law.of_walk (plainFor_of_name (by decide +kernel)) (by decide +kernel) (by decide +kernel) (by decide) (fun _ _ h => by rw [h.1]; rfl) (fun _ U U' hal hh h => ⟨h.1, h.2.1.mv hal hh, h.2.2⟩) (fun r U U' V V' h1 hal h2 h => ⟨NewArr.mv r U U' V V' h1 hal h2 h.1, by rw [h1, h2]; exact h.2⟩) ?_
  intro p e s m args below meth c s₁ X0 hexec hbytes hml hret hlk hnm hown hh0 W hP
  obtain ⟨rfl, hA, l1, l2, hp⟩ := hP
  have a31 := hA.1.2.2.2
  have c1 : Steps p.tables e below (s₁.setTop (entryFrame m #[.ref b, .int (Int32.ofNat o), .int (Int32.ofNat len)] 6)) (s₁.setTop (mkF m 0 #[.val (.ref b), .val (.int (Int32.ofNat o)), .val (.int (Int32.ofNat len)), .unset, .unset, .unset] [])) := entry rfl
  have c2 : Steps p.tables e below (s₁.setTop (entryFrame m #[.ref b, .int (Int32.ofNat o), .int (Int32.ofNat len)] 6)) (s₁.setTop (mkF m 1 #[.val (.ref b), .val (.int (Int32.ofNat o)), .val (.int (Int32.ofNat len)), .unset, .unset, .unset] [.int (Int32.ofNat len)])) := c1.trans (by
    refine XS.iloadN X0.here hexec rfl (hb hbytes d0) rfl ?_
    exact Steps.refl _)
  obtain ⟨T3, B3, X3, ba3, bs3, bv3, bh3, bf3, st3⟩ := X0.anew hexec (atype := .byte) (wk W (.arrayClass .byte)) rfl (by show len * 1 ≤ _; omega) (by omega) (g := (mkF m 1 #[.val (.ref b), .val (.int (Int32.ofNat o)), .val (.int (Int32.ofNat len)), .unset, .unset, .unset] [.int (Int32.ofNat len)])) rfl (hb hbytes d1) (rest := []) rfl (Nat.le_refl _) (by show 0 + len ≤ len; omega)
  rw [hh0] at ba3 st3
  have kp3 : XT.Kept s T3 := (XT.Kept.of_eq hh0).push bh3
  have hA3 := hA.keep X3.warmed.alike (kp3 _ _ hA.1.1)
  have hne : b ≠ s.heap.size := hA.1.ne
  have c4 : Steps p.tables e below (s₁.setTop (entryFrame m #[.ref b, .int (Int32.ofNat o), .int (Int32.ofNat len)] 6)) (T3.setTop (mkF m 3 #[.val (.ref b), .val (.int (Int32.ofNat o)), .val (.int (Int32.ofNat len)), .unset, .unset, .unset] [.ref s.heap.size])) := c2.trans (st3 _ (Steps.refl _))
  have c5 : Steps p.tables e below (s₁.setTop (entryFrame m #[.ref b, .int (Int32.ofNat o), .int (Int32.ofNat len)] 6)) (T3.setTop (mkF m 9 #[.val (.ref b), .val (.int (Int32.ofNat o)), .val (.int (Int32.ofNat len)), .val (.ref s.heap.size), .unset, .unset] [.int (Int32.ofNat len), .int 0, .ref s.heap.size, .int (Int32.ofNat o), .ref b])) := c4.trans (by
    refine XS.astoreN X3.here hexec rfl (hb hbytes d3) rfl rfl rfl ?_
    refine XS.aloadN X3.here hexec rfl (hb hbytes d4) rfl rfl ?_
    refine XS.iloadN X3.here hexec rfl (hb hbytes d5) rfl ?_
    refine XS.aloadN X3.here hexec rfl (hb hbytes d6) rfl rfl ?_
    refine iconstV X3.here hexec rfl 0 (hb hbytes d7) (by decide) ?_
    refine XS.iloadN X3.here hexec rfl (hb hbytes d8) rfl ?_
    exact Steps.refl _)
  obtain ⟨v6, T6, X6, E6, g6⟩ := X3.callS hexec (Cmp5.law l b A s.heap.size B3 o 0 len) hown (wks W (staticW U16 115 Cmp5.yN)) (wk W Cmp5.tab) (W := 0) (Nat.le_of_ble_eq_true rfl) (Nat.le_of_ble_eq_true rfl) (Nat.le_refl _) (by show 0 + len + 0 ≤ len; omega) (g := (mkF m 9 #[.val (.ref b), .val (.int (Int32.ofNat o)), .val (.int (Int32.ofNat len)), .val (.ref s.heap.size), .unset, .unset] [.int (Int32.ofNat len), .int (Int32.ofNat 0), .ref s.heap.size, .int (Int32.ofNat o), .ref b])) rfl (by rw [hml]; rfl) c5 (argsL := [.ref b, .int (Int32.ofNat o), .ref s.heap.size, .int (Int32.ofNat 0), .int (Int32.ofNat len)]) (rest := []) rfl rfl (by show 2 * 0 + 0 ≤ _; decide) (hb hbytes d9) (⟨rfl, hA3, ba3, hne, l1, by rw [bs3]; simp, hp⟩)
  obtain ⟨rfl, B6, p6, f6⟩ := E6
  have c7 : Steps p.tables e below (s₁.setTop (entryFrame m #[.ref b, .int (Int32.ofNat o), .int (Int32.ofNat len)] 6)) (T6.setTop (mkF m 12 #[.val (.ref b), .val (.int (Int32.ofNat o)), .val (.int (Int32.ofNat len)), .val (.ref s.heap.size), .unset, .unset] [.int (Int32.ofNat len)])) := g6
  have c8 : Steps p.tables e below (s₁.setTop (entryFrame m #[.ref b, .int (Int32.ofNat o), .int (Int32.ofNat len)] 6)) (T6.setTop (mkF m 58 #[.val (.ref b), .val (.int (Int32.ofNat o)), .val (.int (Int32.ofNat len)), .val (.ref s.heap.size), .val (.int (Int32.ofNat len)), .unset] [.ref s.heap.size])) := c7.trans (by
    refine XS.istore X6.here hexec rfl (hb hbytes d12) rfl rfl ?_
    refine XS.iload X6.here hexec rfl (hb hbytes d14) rfl ?_
    refine XS.iloadN X6.here hexec rfl (hb hbytes d16) rfl ?_
    refine XS.icmpYes X6.here hexec rfl (pc0 := 17) rfl (hb hbytes d17) rfl (ii_eq_t rfl) (by decide) rfl ?_
    refine XS.aloadN X6.here hexec rfl (hb hbytes d57) rfl rfl ?_
    exact Steps.refl _)
  have X8 := X6.wide (L' := []) (cells' := 1) (slots' := len) (fun x hx hlt => by
    simp only [List.nil_append, copyLocs, List.mem_map, List.mem_range] at hx
    obtain ⟨i, -, rfl⟩ := hx
    exact absurd hlt (Nat.lt_irrefl _)) (Nat.le_refl _) (by omega)
  exact ⟨T6, some (.ref s.heap.size), _, _, _, X8, rfl, rfl, rfl, (fun h => by cases h), ⟨⟨rfl, B6, ba3.like (X3.warmed.alike.symm.trans X6.warmed.alike) p6.1 f6.1 f6.2.1 f6.2.2.1, f6.2.1.trans bv3, by rw [X6.warmed.alike.findClass, f6.1]; exact bf3, by rw [f6.2.2.1, bs3]; simp, fun j hj => by rw [f6.2.2.2 j, if_pos (by omega)]; rfl, kp3.put p6 (Nat.le_refl _)⟩, by rw [p6.2.2, bh3, hh0]; simp⟩, fun fs hl => c8.trans (X8.areturnOut hexec rfl hret rfl (hb hbytes d58) hl)⟩
end Cmp3
namespace CodL
def yN : MethodName := ⟨"java/lang/StringUTF16", "coderFromArrayLen", "([BI)B"⟩
abbrev yB : ByteArray := jdk_52_method_15_code
theorem d0 : decode yB 0 = .ok (.iload_n 1, 1) := by decide +kernel
theorem d1 : decode yB 1 = .ok (.aload_n 0, 1) := by decide +kernel
theorem d2 : decode yB 2 = .ok (.arraylength, 1) := by decide +kernel
theorem d3 : decode yB 3 = .ok (.isub, 1) := by decide +kernel
theorem d4 : decode yB 4 = .ok (.bipush 31, 2) := by decide +kernel
theorem d6 : decode yB 6 = .ok (.iushr, 1) := by decide +kernel
theorem d7 : decode yB 7 = .ok (.i2b, 1) := by decide +kernel
theorem d8 : decode yB 8 = .ok (.ireturn, 1) := by decide +kernel
def site : List Cond := []
def tab : Cond := tabOf yN yB 2 (some .byte) site
def P (d : Addr) (B : Cell) (args : Array Value) (s : State) : Prop := args = #[.ref d, .int (Int32.ofNat B.slots.size)] ∧ Arr .byte d B s
def E (r : Option Value) (s u : State) : Prop := XT.PureE (some (.int 0)) r s u
/-- an array as long as the number of chars: LATIN1 -/
theorem law (l : Launch) (d : Addr) (B : Cell) : Law l yN 2 2 0 0 yB 2 (some .byte) site (P d B) E [] 0 0 := by
  refine Law.of_walk (plainFor_of_name (by decide +kernel)) (by decide +kernel) (by decide +kernel) (by decide) (fun _ _ h => by rw [h.1]; rfl) (fun _ U U' hal hh h => ⟨h.1, h.2.mv hal hh⟩) (fun r U U' V V' h1 hal h2 h => XT.PureE.mv r U U' V V' h1 hal h2 h) ?_
  intro p e s m args below meth c s₁ X0 hexec hbytes hml hret hlk hnm hown hh0 W hP
  obtain ⟨rfl, hB⟩ := hP
  have hB0 := hB.mv X0.warmed.alike hh0
  have c1 : Steps p.tables e below (s₁.setTop (entryFrame m #[.ref d, .int (Int32.ofNat B.slots.size)] 2)) (s₁.setTop (mkF m 0 #[.val (.ref d), .val (.int (Int32.ofNat B.slots.size))] [])) := entry rfl
  have c2 : Steps p.tables e below (s₁.setTop (entryFrame m #[.ref d, .int (Int32.ofNat B.slots.size)] 2)) (s₁.setTop (mkF m 2 #[.val (.ref d), .val (.int (Int32.ofNat B.slots.size))] [.ref d, .int (Int32.ofNat B.slots.size)])) := c1.trans (by
    refine XS.iloadN X0.here hexec rfl (hb hbytes d0) rfl ?_
    refine XS.aloadN X0.here hexec rfl (hb hbytes d1) rfl rfl ?_
    exact Steps.refl _)
  have c3 : Steps p.tables e below (s₁.setTop (entryFrame m #[.ref d, .int (Int32.ofNat B.slots.size)] 2)) (s₁.setTop (mkF m 8 #[.val (.ref d), .val (.int (Int32.ofNat B.slots.size))] [.int (lo8 (ushr (Int32.ofNat B.slots.size - Int32.ofNat B.slots.size) 31))])) := c2.trans (by
    refine X0.alen hexec hB0 rfl rfl (hb hbytes d2) ?_
    refine XS.isub X0.here hexec rfl (hb hbytes d3) rfl ?_
    refine bipushV X0.here hexec rfl 31 (hb hbytes d4) (by decide) ?_
    refine iushr X0.here hexec rfl (hb hbytes d6) rfl ?_
    refine i2b X0.here hexec rfl (hb hbytes d7) rfl ?_
    exact Steps.refl _)
  have e0 : lo8 (ushr (Int32.ofNat B.slots.size - Int32.ofNat B.slots.size) 31) = 0 := by rw [Int32.sub_self]; decide
  rw [e0] at c3
  exact ⟨s₁, some (.int 0), _, _, _, X0, rfl, rfl, rfl, (fun h => by cases h), ⟨rfl, hh0⟩, fun fs hl => c3.trans (X0.ireturnOut hexec hret rfl (Or.inr (Or.inr (Or.inl rfl))) (hb hbytes d8) hl)⟩
end CodL
/-- the String at a is Latin-1 over a new byte[] (the heap's one new cell): the low bytes of the len chars of A from o on; every cell but a is kept -/
def Got (a : Addr) (D : Cell) (fV fC : Field) (A : Cell) (o len : Nat) (r : Option Value) (s u : State) : Prop := r = none ∧ ∃ D' V : Cell, Blank "java/lang/String" a D' u ∧ Same D D' [fV.slot, fC.slot] ∧ D'.slots[fV.slot]? = some (.ref s.heap.size) ∧ D'.slots[fC.slot]? = some (.int 0) ∧ Arr .byte s.heap.size V u ∧ V.vm = .none ∧ u.vm.findClass "[B" = some V.cls ∧ V.slots.size = len ∧ (∀ j, j < len → V.slots[j]? = some (.int (lo8 (cv A (o + j))))) ∧ (∀ (y : Addr) (c : Cell), y ≠ a → s.heap[y]? = some c → u.heap[y]? = some c) ∧ u.heap.size = s.heap.size + 1
theorem Got.mv {a : Addr} {D A : Cell} {fV fC : Field} {o len : Nat} : ∀ r (U U' V V' : State), U'.heap = U.heap → V.vm.Alike V'.vm → V'.heap = V.heap → Got a D fV fC A o len r U V → Got a D fV fC A o len r U' V' :=
  fun r U U' V V' h1 hal h2 ⟨e0, D', X, a1, a2, a3, a4, a5, a6, a7, a8, a9, a10, a11⟩ => ⟨e0, D', X, a1.mv hal h2, a2, by rw [h1]; exact a3, a4, by rw [h1]; exact a5.mv hal h2, a6, by rw [hal.findClass]; exact a7, a8, a9, by rw [h1, h2]; exact a10, by rw [h1, h2]; exact a11⟩
namespace New4
def yN : MethodName := ⟨"java/lang/String", "<init>", "([CIILjava/lang/Void;)V"⟩
abbrev yB : ByteArray := jdk_42_method_149_code
theorem d0 : decode yB 0 = .ok (.aload_n 0, 1) := by decide +kernel
theorem d1 : decode yB 1 = .ok (.invokespecial 1, 3) := by decide +kernel
theorem d4 : decode yB 4 = .ok (.iload_n 3, 1) := by decide +kernel
theorem d5 : decode yB 5 = .ok (.ifCond (.ne) 22, 3) := by decide +kernel
theorem d27 : decode yB 27 = .ok (.getstatic 38, 3) := by decide +kernel
theorem d30 : decode yB 30 = .ok (.ifCond (.eq) 28, 3) := by decide +kernel
theorem d33 : decode yB 33 = .ok (.aload_n 1, 1) := by decide +kernel
theorem d34 : decode yB 34 = .ok (.iload_n 2, 1) := by decide +kernel
theorem d35 : decode yB 35 = .ok (.iload_n 3, 1) := by decide +kernel
theorem d36 : decode yB 36 = .ok (.invokestatic 177, 3) := by decide +kernel
theorem d39 : decode yB 39 = .ok (.astore 5, 2) := by decide +kernel
theorem d41 : decode yB 41 = .ok (.aload_n 0, 1) := by decide +kernel
theorem d42 : decode yB 42 = .ok (.aload 5, 2) := by decide +kernel
theorem d44 : decode yB 44 = .ok (.iload_n 3, 1) := by decide +kernel
theorem d45 : decode yB 45 = .ok (.invokestatic 47, 3) := by decide +kernel
theorem d48 : decode yB 48 = .ok (.putfield 15, 3) := by decide +kernel
theorem d51 : decode yB 51 = .ok (.aload_n 0, 1) := by decide +kernel
theorem d52 : decode yB 52 = .ok (.aload 5, 2) := by decide +kernel
theorem d54 : decode yB 54 = .ok (.putfield 9, 3) := by decide +kernel
theorem d57 : decode yB 57 = .ok (.return_, 1) := by decide +kernel
def site : List Cond := [.fieldLink "java/lang/String" 38 "java/lang/String" "COMPACT_STRINGS" "Z", Cmp3.tab, CodL.tab, .laysFinal "java/lang/String" "java/lang/String" "value" "[B", .fieldLink "java/lang/String" 9 "java/lang/String" "value" "[B", .laysFinal "java/lang/String" "java/lang/String" "coder" "B", .fieldLink "java/lang/String" 15 "java/lang/String" "coder" "B"] ++ objW "java/lang/String" 1 ++ staticW "java/lang/String" 177 Cmp3.yN ++ staticW "java/lang/String" 47 CodL.yN
def tab : Cond := tabOf yN yB 6 none site
def P (a : Addr) (D : Cell) (fV fC : Field) (b : Addr) (A : Cell) (z : Int32) (o len : Nat) (args : Array Value) (s : State) : Prop := args = #[.ref a, .ref b, .int (Int32.ofNat o), .int (Int32.ofNat len), .null] ∧ Blank "java/lang/String" a D s ∧ Found "java/lang/String" "value" "[B" fV s ∧ Found "java/lang/String" "coder" "B" fC s ∧ Ch b A s ∧ StaticIs s "java/lang/String" "COMPACT_STRINGS" "Z" (.int z) ∧ ¬ z = 0 ∧ 0 < len ∧ o + len ≤ A.slots.size ∧ len ≤ 536870912 ∧ ∀ i, i < len → ¬ 255 < cv A (o + i)
def E (a : Addr) (D : Cell) (fV fC : Field) (A : Cell) (o len : Nat) (r : Option Value) (s u : State) : Prop := Got a D fV fC A o len r s u
/-- len > 0, no char of the range above 255: a Latin-1 String of their low bytes -/
theorem law (l : Launch) (a : Addr) (D : Cell) (fV fC : Field) (b : Addr) (A : Cell) (z : Int32) (o len : Nat) : Law l yN 5 4 2 35 yB 6 none site (P a D fV fC b A z o len) (E a D fV fC A o len) [⟨a, fC.slot⟩, ⟨a, fV.slot⟩] 1 len := by
  refine Law.of_walk (plainFor_of_name (by decide +kernel)) (by decide +kernel) (by decide +kernel) (by decide) (fun _ _ h => by rw [h.1]; rfl) (fun _ U U' hal hh h => ⟨h.1, h.2.1.mv hal hh, h.2.2.1.al hal, h.2.2.2.1.al hal, h.2.2.2.2.1.mv hal hh, h.2.2.2.2.2.1.there hal hh, h.2.2.2.2.2.2⟩) (fun r U U' V V' h1 hal h2 h => Got.mv r U U' V V' h1 hal h2 h) ?_
  intro p e s m args below meth c s₁ X0 hexec hbytes hml hret hlk hnm hown hh0 W hP
  obtain ⟨rfl, hB, f1, f2, hA, s1, hz, l0, l1, l2, hp⟩ := hP
  have a31 := hA.1.2.2.2
  have c1 : Steps p.tables e below (s₁.setTop (entryFrame m #[.ref a, .ref b, .int (Int32.ofNat o), .int (Int32.ofNat len), .null] 6)) (s₁.setTop (mkF m 0 #[.val (.ref a), .val (.ref b), .val (.int (Int32.ofNat o)), .val (.int (Int32.ofNat len)), .val .null, .unset] [])) := entry rfl
  have c2 : Steps p.tables e below (s₁.setTop (entryFrame m #[.ref a, .ref b, .int (Int32.ofNat o), .int (Int32.ofNat len), .null] 6)) (s₁.setTop (mkF m 1 #[.val (.ref a), .val (.ref b), .val (.int (Int32.ofNat o)), .val (.int (Int32.ofNat len)), .val .null, .unset] [.ref a])) := c1.trans (by
    refine XS.aloadN X0.here hexec rfl (hb hbytes d0) rfl rfl ?_
    exact Steps.refl _)
  obtain ⟨T3, X3, q3, st3⟩ := X0.oinit hexec hown (wks W (objW "java/lang/String" 1)) (g := (mkF m 1 #[.val (.ref a), .val (.ref b), .val (.int (Int32.ofNat o)), .val (.int (Int32.ofNat len)), .val .null, .unset] [.ref a])) rfl (by rw [hml]; rfl) (rest := []) rfl (hb hbytes d1) (W := 0) (by show 2 * 0 + 0 ≤ _; decide) (Nat.le_of_ble_eq_true rfl) (Nat.le_of_ble_eq_true rfl)
  have hh3 := q3.trans hh0
  have c4 : Steps p.tables e below (s₁.setTop (entryFrame m #[.ref a, .ref b, .int (Int32.ofNat o), .int (Int32.ofNat len), .null] 6)) (T3.setTop (mkF m 27 #[.val (.ref a), .val (.ref b), .val (.int (Int32.ofNat o)), .val (.int (Int32.ofNat len)), .val .null, .unset] [])) := (c2.trans (st3 _ (Steps.refl _))).trans (by
    refine XS.iloadN X3.here hexec rfl (hb hbytes d4) rfl ?_
    refine XS.ifYes X3.here hexec rfl (pc0 := 5) rfl (hb hbytes d5) rfl (i0_ne_t (nz32 (by omega) l0)) (by decide) rfl ?_
    exact Steps.refl _)
  obtain ⟨T5, X5, q5, st5⟩ := X3.sget hexec hown (wk W (.fieldLink "java/lang/String" 38 "java/lang/String" "COMPACT_STRINGS" "Z")) s1 (fun _ _ h => by rw [hh3]; exact h) (g := (mkF m 27 #[.val (.ref a), .val (.ref b), .val (.int (Int32.ofNat o)), .val (.int (Int32.ofNat len)), .val .null, .unset] [])) rfl (hb hbytes d27)
  have hh5 := q5.trans hh3
  have c6 : Steps p.tables e below (s₁.setTop (entryFrame m #[.ref a, .ref b, .int (Int32.ofNat o), .int (Int32.ofNat len), .null] 6)) (T5.setTop (mkF m 30 #[.val (.ref a), .val (.ref b), .val (.int (Int32.ofNat o)), .val (.int (Int32.ofNat len)), .val .null, .unset] [.int z])) := c4.trans (st5 _ (Steps.refl _))
  have c7 : Steps p.tables e below (s₁.setTop (entryFrame m #[.ref a, .ref b, .int (Int32.ofNat o), .int (Int32.ofNat len), .null] 6)) (T5.setTop (mkF m 36 #[.val (.ref a), .val (.ref b), .val (.int (Int32.ofNat o)), .val (.int (Int32.ofNat len)), .val .null, .unset] [.int (Int32.ofNat len), .int (Int32.ofNat o), .ref b])) := c6.trans (by
    refine XS.ifNo X5.here hexec rfl (hb hbytes d30) rfl (i0_eq_f hz) ?_
    refine XS.aloadN X5.here hexec rfl (hb hbytes d33) rfl rfl ?_
    refine XS.iloadN X5.here hexec rfl (hb hbytes d34) rfl ?_
    refine XS.iloadN X5.here hexec rfl (hb hbytes d35) rfl ?_
    exact Steps.refl _)
  obtain ⟨v8, T8, X8, E8, g8⟩ := X5.callS hexec (Cmp3.law l b A o len) hown (wks W (staticW "java/lang/String" 177 Cmp3.yN)) (wk W Cmp3.tab) (W := 0) (Nat.le_of_ble_eq_true rfl) (Nat.le_of_ble_eq_true rfl) (Nat.le_refl _) (by show 0 + len ≤ len; omega) (g := (mkF m 36 #[.val (.ref a), .val (.ref b), .val (.int (Int32.ofNat o)), .val (.int (Int32.ofNat len)), .val .null, .unset] [.int (Int32.ofNat len), .int (Int32.ofNat o), .ref b])) rfl (by rw [hml]; rfl) c7 (argsL := [.ref b, .int (Int32.ofNat o), .int (Int32.ofNat len)]) (rest := []) rfl rfl (by show 2 * 0 + 0 ≤ _; decide) (hb hbytes d36) (⟨rfl, hA.mv X5.warmed.alike hh5, l1, l2, hp⟩)
  obtain ⟨e8, z8⟩ := E8
  obtain ⟨rfl, N, n1, n2, n3, n4, n5, n6⟩ := NewArr.mv _ T5 s _ _ hh5.symm (Vm.Alike.refl _) rfl e8
  rw [hh5] at z8
  have hB1 := hB.keep X8.warmed.alike (n6 _ _ hB.1)
  have hne : s.heap.size ≠ a := (Nat.ne_of_lt (Array.getElem?_eq_some_iff.mp hB.1).1).symm
  have c9 : Steps p.tables e below (s₁.setTop (entryFrame m #[.ref a, .ref b, .int (Int32.ofNat o), .int (Int32.ofNat len), .null] 6)) (T8.setTop (mkF m 39 #[.val (.ref a), .val (.ref b), .val (.int (Int32.ofNat o)), .val (.int (Int32.ofNat len)), .val .null, .unset] [.ref s.heap.size])) := g8
  have c10 : Steps p.tables e below (s₁.setTop (entryFrame m #[.ref a, .ref b, .int (Int32.ofNat o), .int (Int32.ofNat len), .null] 6)) (T8.setTop (mkF m 45 #[.val (.ref a), .val (.ref b), .val (.int (Int32.ofNat o)), .val (.int (Int32.ofNat len)), .val .null, .val (.ref s.heap.size)] [.int (Int32.ofNat N.slots.size), .ref s.heap.size, .ref a])) := by
    have hc : Steps p.tables e below (s₁.setTop (entryFrame m #[.ref a, .ref b, .int (Int32.ofNat o), .int (Int32.ofNat len), .null] 6)) (T8.setTop (mkF m 45 #[.val (.ref a), .val (.ref b), .val (.int (Int32.ofNat o)), .val (.int (Int32.ofNat len)), .val .null, .val (.ref s.heap.size)] [.int (Int32.ofNat len), .ref s.heap.size, .ref a])) := c9.trans (by
      refine XS.astore X8.here hexec rfl (hb hbytes d39) rfl rfl rfl ?_
      refine XS.aloadN X8.here hexec rfl (hb hbytes d41) rfl rfl ?_
      refine XS.aload X8.here hexec rfl (hb hbytes d42) rfl rfl ?_
      refine XS.iloadN X8.here hexec rfl (hb hbytes d44) rfl ?_
      exact Steps.refl _)
    rw [n4]; exact hc
  obtain ⟨v11, T11, X11, E11, g11⟩ := X8.callS hexec (CodL.law l s.heap.size N) hown (wks W (staticW "java/lang/String" 47 CodL.yN)) (wk W CodL.tab) (W := 1) (Nat.le_of_ble_eq_true rfl) (Nat.le_of_ble_eq_true rfl) (Nat.le_refl _) (by show 0 + len + 0 ≤ len; omega) (g := (mkF m 45 #[.val (.ref a), .val (.ref b), .val (.int (Int32.ofNat o)), .val (.int (Int32.ofNat len)), .val .null, .val (.ref s.heap.size)] [.int (Int32.ofNat N.slots.size), .ref s.heap.size, .ref a])) rfl (by rw [hml]; rfl) c10 (argsL := [.ref s.heap.size, .int (Int32.ofNat N.slots.size)]) (rest := [.ref a]) rfl rfl (by show 2 * 0 + (1 + 0) ≤ _; decide) (hb hbytes d45) (⟨rfl, n1⟩)
  obtain ⟨rfl, q11⟩ := E11
  have hB11 := hB1.mv (X8.warmed.alike.symm.trans X11.warmed.alike) q11
  have c12 : Steps p.tables e below (s₁.setTop (entryFrame m #[.ref a, .ref b, .int (Int32.ofNat o), .int (Int32.ofNat len), .null] 6)) (T11.setTop (mkF m 48 #[.val (.ref a), .val (.ref b), .val (.int (Int32.ofNat o)), .val (.int (Int32.ofNat len)), .val .null, .val (.ref s.heap.size)] [.int 0, .ref a])) := g11
  obtain ⟨T13, X13, p13, bl13, sl13, st13⟩ := X11.finit hexec hown (wk W (.fieldLink "java/lang/String" 15 "java/lang/String" "coder" "B")) (Or.inr ⟨_, (wk W (.laysFinal "java/lang/String" "java/lang/String" "coder" "B"))⟩) (Or.inl ⟨rfl, hnm⟩) f2 (Or.inl rfl) hB11 (t := .byte) (by decide +kernel) rfl (g := (mkF m 48 #[.val (.ref a), .val (.ref b), .val (.int (Int32.ofNat o)), .val (.int (Int32.ofNat len)), .val .null, .val (.ref s.heap.size)] [.int 0, .ref a])) rfl (rest := []) rfl (hb hbytes d48)
  have c14 : Steps p.tables e below (s₁.setTop (entryFrame m #[.ref a, .ref b, .int (Int32.ofNat o), .int (Int32.ofNat len), .null] 6)) (T13.setTop (mkF m 54 #[.val (.ref a), .val (.ref b), .val (.int (Int32.ofNat o)), .val (.int (Int32.ofNat len)), .val .null, .val (.ref s.heap.size)] [.ref s.heap.size, .ref a])) := (c12.trans (st13 _ (Steps.refl _))).trans (by
    refine XS.aloadN X13.here hexec rfl (hb hbytes d51) rfl rfl ?_
    refine XS.aload X13.here hexec rfl (hb hbytes d52) rfl rfl ?_
    exact Steps.refl _)
  obtain ⟨T15, X15, p15, bl15, sl15, st15⟩ := X13.finit hexec hown (wk W (.fieldLink "java/lang/String" 9 "java/lang/String" "value" "[B")) (Or.inr ⟨_, (wk W (.laysFinal "java/lang/String" "java/lang/String" "value" "[B"))⟩) (Or.inl ⟨rfl, hnm⟩) f1 (Or.inl rfl) bl13 (t := (.array .byte)) (by decide +kernel) rfl (g := (mkF m 54 #[.val (.ref a), .val (.ref b), .val (.int (Int32.ofNat o)), .val (.int (Int32.ofNat len)), .val .null, .val (.ref s.heap.size)] [.ref s.heap.size, .ref a])) rfl (rest := []) rfl (hb hbytes d54)
  have c16 : Steps p.tables e below (s₁.setTop (entryFrame m #[.ref a, .ref b, .int (Int32.ofNat o), .int (Int32.ofNat len), .null] 6)) (T15.setTop (mkF m 57 #[.val (.ref a), .val (.ref b), .val (.int (Int32.ofNat o)), .val (.int (Int32.ofNat len)), .val .null, .val (.ref s.heap.size)] [])) := c14.trans (st15 _ (Steps.refl _))
  have ap := apart (Or.inr ⟨_, (wk W (.laysFinal "java/lang/String" "java/lang/String" "value" "[B"))⟩) (Or.inr ⟨_, (wk W (.laysFinal "java/lang/String" "java/lang/String" "coder" "B"))⟩) f1 f2 (t₁ := .array .byte) (t₂ := .byte) (by decide +kernel) (by decide +kernel) (by decide)
  have al := X8.warmed.alike.symm.trans X15.warmed.alike
  have n7 : T11.heap[s.heap.size]? = some N := by rw [q11]; exact n1.1
  exact ⟨T15, none, _, _, _, X15, by simp, rfl, by omega, (fun _ => rfl), ⟨rfl, _, N, bl15, ((Same.refl D _).set _ (by simp)).set _ (by simp), sl15, (Cell.slots_setSlot_ne _ ap).trans sl13, n1.keep al (p15.other hne (p13.other hne n7)), n2, by rw [al.findClass]; exact n3, n4, n5, fun y c h1 h2 => p15.other h1 (p13.other h1 (by rw [q11]; exact n6 y c h2)), by rw [p15.2.2, p13.2.2, q11]; exact z8⟩, fun fs hl => c16.trans (X15.returnOut hexec hret (hb hbytes d57) hl)⟩
end New4
namespace New1
def yN : MethodName := ⟨"java/lang/String", "<init>", "([C)V"⟩
abbrev yB : ByteArray := jdk_42_method_3_code
theorem d0 : decode yB 0 = .ok (.aload_n 0, 1) := by decide +kernel
theorem d1 : decode yB 1 = .ok (.aload_n 1, 1) := by decide +kernel
theorem d2 : decode yB 2 = .ok (.iconst 0, 1) := by decide +kernel
theorem d3 : decode yB 3 = .ok (.aload_n 1, 1) := by decide +kernel
theorem d4 : decode yB 4 = .ok (.arraylength, 1) := by decide +kernel
theorem d5 : decode yB 5 = .ok (.aconst_null, 1) := by decide +kernel
theorem d6 : decode yB 6 = .ok (.invokespecial 27, 3) := by decide +kernel
theorem d9 : decode yB 9 = .ok (.return_, 1) := by decide +kernel
def site : List Cond := [New4.tab] ++ initW "java/lang/String" 27 New4.yN
def tab : Cond := tabOf yN yB 2 none site
def P (a : Addr) (D : Cell) (fV fC : Field) (b : Addr) (A : Cell) (z : Int32) (args : Array Value) (s : State) : Prop := args = #[.ref a, .ref b] ∧ Blank "java/lang/String" a D s ∧ Found "java/lang/String" "value" "[B" fV s ∧ Found "java/lang/String" "coder" "B" fC s ∧ Ch b A s ∧ StaticIs s "java/lang/String" "COMPACT_STRINGS" "Z" (.int z) ∧ ¬ z = 0 ∧ 0 < A.slots.size ∧ A.slots.size ≤ 536870912 ∧ ∀ i, i < A.slots.size → ¬ 255 < cv A i
def E (a : Addr) (D : Cell) (fV fC : Field) (A : Cell) (r : Option Value) (s u : State) : Prop := Got a D fV fC A 0 A.slots.size r s u
/-- new String(chars), not empty, no char above 255: a Latin-1 String of their low bytes -/
theorem law (l : Launch) (a : Addr) (D : Cell) (fV fC : Field) (b : Addr) (A : Cell) (z : Int32) : Law l yN 2 1 3 52 yB 2 none site (P a D fV fC b A z) (E a D fV fC A) [⟨a, fC.slot⟩, ⟨a, fV.slot⟩] 1 A.slots.size := by
  refine Law.of_walk (plainFor_of_name (by decide +kernel)) (by decide +kernel) (by decide +kernel) (by decide) (fun _ _ h => by rw [h.1]; rfl) (fun _ U U' hal hh h => ⟨h.1, h.2.1.mv hal hh, h.2.2.1.al hal, h.2.2.2.1.al hal, h.2.2.2.2.1.mv hal hh, h.2.2.2.2.2.1.there hal hh, h.2.2.2.2.2.2⟩) (fun r U U' V V' h1 hal h2 h => Got.mv r U U' V V' h1 hal h2 h) ?_
  intro p e s m args below meth c s₁ X0 hexec hbytes hml hret hlk hnm hown hh0 W hP
  obtain ⟨rfl, hB, f1, f2, hA, s1, hz, l0, l2, hp⟩ := hP
  have c1 : Steps p.tables e below (s₁.setTop (entryFrame m #[.ref a, .ref b] 2)) (s₁.setTop (mkF m 0 #[.val (.ref a), .val (.ref b)] [])) := entry rfl
  have c2 : Steps p.tables e below (s₁.setTop (entryFrame m #[.ref a, .ref b] 2)) (s₁.setTop (mkF m 6 #[.val (.ref a), .val (.ref b)] [.null, .int (Int32.ofNat A.slots.size), .int 0, .ref b, .ref a])) := c1.trans (by
    refine XS.aloadN X0.here hexec rfl (hb hbytes d0) rfl rfl ?_
    refine XS.aloadN X0.here hexec rfl (hb hbytes d1) rfl rfl ?_
    refine iconstV X0.here hexec rfl 0 (hb hbytes d2) (by decide) ?_
    refine XS.aloadN X0.here hexec rfl (hb hbytes d3) rfl rfl ?_
    refine X0.alen hexec (hA.1.mv X0.warmed.alike hh0) rfl rfl (hb hbytes d4) ?_
    refine XS.aconstNull X0.here hexec rfl (hb hbytes d5) ?_
    exact Steps.refl _)
  obtain ⟨v3, T3, X3, E3, g3⟩ := X0.callN hexec (New4.law l a D fV fC b A z 0 A.slots.size) rfl hown (wks W (initW "java/lang/String" 27 New4.yN)) (W New4.tab (by simp only [site, List.mem_cons, List.mem_append, true_or, or_true])) (W := 0) (Nat.le_of_ble_eq_true rfl) (Nat.le_of_ble_eq_true rfl) (Nat.le_refl _) (by show 0 + A.slots.size ≤ A.slots.size; omega) (g := (mkF m 6 #[.val (.ref a), .val (.ref b)] [.null, .int (Int32.ofNat A.slots.size), .int (Int32.ofNat 0), .ref b, .ref a])) rfl (by rw [hml]; rfl) c2 (argsL := [.ref b, .int (Int32.ofNat 0), .int (Int32.ofNat A.slots.size), .null]) (rest := []) rfl rfl (by show 2 * 0 + 0 ≤ _; decide) (hb hbytes d6) (⟨rfl, hB.mv X0.warmed.alike hh0, f1.al X0.warmed.alike, f2.al X0.warmed.alike, hA.mv X0.warmed.alike hh0, s1.there X0.warmed.alike hh0, hz, l0, by omega, l2, fun i hi => by rw [Nat.zero_add]; exact hp i hi⟩)
  have e0 := Got.mv _ s₁ s _ _ hh0.symm (Vm.Alike.refl _) rfl E3
  obtain rfl := e0.1
  have c4 : Steps p.tables e below (s₁.setTop (entryFrame m #[.ref a, .ref b] 2)) (T3.setTop (mkF m 9 #[.val (.ref a), .val (.ref b)] [])) := g3
  exact ⟨T3, none, _, _, _, X3, by simp, rfl, by omega, (fun _ => rfl), e0, fun fs hl => c4.trans (X3.returnOut hexec hret (hb hbytes d9) hl)⟩
theorem pays {l : Launch} {R : Room} {p : Program} {e : Env} {below : List Frame} {s : State} {sargs : Array Value} {len W : Nat} (a : Addr) (D : Cell) (fV fC : Field) (b : Addr) (A : Cell) (z : Int32) (htab : tab.before sargs s = true) (hfr : 4 ≤ R.frames) (hlo : W + 65 ≤ R.locals) :
    Back l R p e below s sargs yN len W (fun A₁ a₁ => A₁.cells + 1 ≤ R.cells ∧ A₁.slots + A.slots.size ≤ R.slots ∧ P a D fV fC b A z a₁ A₁.U) (fun A₁ _ v₁ B₁ => E a D fV fC A v₁ A₁.U B₁.U ∧ B₁.locs = A₁.locs ++ [⟨a, fC.slot⟩, ⟨a, fV.slot⟩] ∧ B₁.cells = A₁.cells + 1 ∧ B₁.slots = A₁.slots + A.slots.size) :=
  (law l a D fV fC b A z).pays htab hfr (by omega)
end New1
/-- the byte, read back as charAt reads it, is the char -/
theorem lo8_mask {x : Int32} (h0 : ¬ x < 0) (h1 : ¬ 255 < x) : lo8 x &&& 255 = x := by
  have t : ∀ k : Fin 256, lo8 (Int32.ofNat k.val) &&& 255 = Int32.ofNat k.val := by decide +kernel
  rw [Int32.lt_iff_toInt_lt] at h0 h1
  have e0 : (0 : Int32).toInt = 0 := rfl
  have e1 : (255 : Int32).toInt = 255 := rfl
  obtain ⟨k, hk⟩ : ∃ k : Nat, x.toInt = k := ⟨x.toInt.toNat, by omega⟩
  have hx : x = Int32.ofNat k := Int32.toInt_inj.mp (by rw [hk, Int32.toInt_ofNat_small (by omega)])
  rw [hx]
  exact t ⟨k, by omega⟩
end StrChars
namespace StrChars.Road
open Jvm Sem ClassFile Op Lib Jvm.Stand Jvm.Free Jvm.Free.XT
open Jvm.Lib.Cold (StaticIs)
abbrev ST : String := "java/lang/String"
/-- every table word that New1's law asks, flat -/
abbrev words : List Jvm.Cond := [.code New1.yN New1.yB 2 none, .initialized ST, .methodLink ST 27 New4.yN, .instanceMethod New4.yN,
  .code New4.yN New4.yB 6 none, .fieldLink ST 38 ST "COMPACT_STRINGS" "Z", .laysFinal ST ST "value" "[B", .fieldLink ST 9 ST "value" "[B", .laysFinal ST ST "coder" "B", .fieldLink ST 15 ST "coder" "B",
  .methodLink ST 1 Lib.objectInit, .instanceMethod Lib.objectInit, .code Lib.objectInit ⟨#[0xb1]⟩ 1 none, .methodLink ST 177 Cmp3.yN, .static Cmp3.yN, .methodLink ST 47 CodL.yN, .static CodL.yN,
  .code Cmp3.yN Cmp3.yB 6 (some (.array .byte)), .initialized U16, .arrayClass .byte, .methodLink U16 115 Cmp5.yN, .static Cmp5.yN, .code Cmp5.yN Cmp5.yB 7 (some .int), .code CodL.yN CodL.yB 2 (some .byte)]
theorem tab_of {a : Array Value} {s : State} (h : ∀ w ∈ words, w.before a s = true) : New1.tab.before a s = true := by
  have h5 : Cmp5.tab.before a s = true := unparts (wk h (.code Cmp5.yN Cmp5.yB 7 (some .int))) (wks h (.initialized Cmp5.yN.cls :: Cmp5.site))
  have hc : CodL.tab.before a s = true := unparts (wk h (.code CodL.yN CodL.yB 2 (some .byte))) (wks h (.initialized CodL.yN.cls :: CodL.site))
  have q5 : ∀ w ∈ Cmp5.tab :: words, w.before a s = true := fun w hw => (List.mem_cons.mp hw).elim (fun e => e ▸ h5) (h w)
  have h3 : Cmp3.tab.before a s = true := unparts (wk q5 (.code Cmp3.yN Cmp3.yB 6 (some (.array .byte)))) (wks q5 (.initialized Cmp3.yN.cls :: Cmp3.site))
  have q3 : ∀ w ∈ Cmp3.tab :: CodL.tab :: words, w.before a s = true := fun w hw => (List.mem_cons.mp hw).elim (fun e => e ▸ h3) fun hw => (List.mem_cons.mp hw).elim (fun e => e ▸ hc) (h w)
  have h4 : New4.tab.before a s = true := unparts (wk q3 (.code New4.yN New4.yB 6 none)) (wks q3 (.initialized New4.yN.cls :: New4.site))
  have q4 : ∀ w ∈ New4.tab :: words, w.before a s = true := fun w hw => (List.mem_cons.mp hw).elim (fun e => e ▸ h4) (h w)
  exact unparts (wk q4 (.code New1.yN New1.yB 2 none)) (wks q4 (.initialized New1.yN.cls :: New1.site))
/-- the words ride from the start Z to the walk's own state -/
theorem moved {Z s : State} {a0 args : Array Value} (hZ : Z.Warmed39 s.vm) (hw : ∀ d ∈ words, d.before a0 Z = true) : ∀ d ∈ words, d.before args s = true := fun d hd => by
  have q := hw d hd
  have t : ∀ d ∈ words, d = .arrayClass .byte ∨ (d.onTables && d.keepsFace) = true := by decide +kernel
  rcases t d hd with rfl | t
  · exact RoadKit.mvA hZ q
  · exact RoadKit.mv hZ q t
/-- WHAT COMES BACK, over the tables of the start Z: h the heap at the call, h' behind it -/
def Q (Z : State) (x : Addr) (A : Cell) (h : Heap) (v : Option Value) (h' : Heap) (L : List Loc) : Prop := v = none ∧ (∀ y ∈ L, y.base = x) ∧ RoadKit.Keep h h' [x] ∧ h'.size = h.size + 1 ∧ RoadKit.Exa Z h' x ST ∧ RoadKit.Fld Z h' x ST "value" "[B" (.ref h.size) ∧ RoadKit.Fld Z h' x ST "coder" "B" (.int 0) ∧
  (∃ V : Cell, RoadKit.Arr Z h' h.size V .byte ∧ V.vm = .none ∧ Z.vm.findClass "[B" = some V.cls ∧ V.slots.size = A.slots.size ∧ ∀ j, j < A.slots.size → V.slots[j]? = some (.int (lo8 (cv A j)))) ∧
  ∀ (O n d : String) (w : Value), RoadKit.Fld Z h x O n d w → RoadKit.slotOf Z O n d ≠ RoadKit.slotOf Z ST "value" "[B" → RoadKit.slotOf Z O n d ≠ RoadKit.slotOf Z ST "coder" "B" → RoadKit.Fld Z h' x O n d w
/-- **new String(chars) AT A CALL, IN THE ROAD'S FORM**: for specialBack behind newO: x the fresh String, b the char[] with the cell A -/
theorem back {p : Program} {l : Launch} {e : Env} {R : Room} {s : State} {args : Array Value} {below : List Frame} {len W : Nat} {Z : State} {a0 : Array Value} {h : Heap} (hZ : Z.Warmed39 s.vm) (hw : ∀ d ∈ words, d.before a0 Z = true) {kI : Nat} (wi : (Jvm.Cond.instantiable ST kI).before a0 Z = true)
    {x b : Addr} {A : Cell} {z : Int32} {v0 c0 : Value} (E : RoadKit.Exa Z h x ST) (V : RoadKit.Fld Z h x ST "value" "[B" v0) (C : RoadKit.Fld Z h x ST "coder" "B" c0) (K : RoadKit.Arr Z h b A .char) (hty : Typed .char A) (S : RoadKit.Sta Z h ST "COMPACT_STRINGS" "Z" (.int z)) (hz : ¬ z = 0)
    (l0 : 0 < A.slots.size) (l2 : A.slots.size ≤ 536870912) (hp : ∀ i, i < A.slots.size → ¬ 255 < cv A i) (hfr : 4 ≤ R.frames) (hlo : W + 65 ≤ R.locals) :
    Back l R p e below s args New1.yN len W (fun P a => a = #[.ref x, .ref b] ∧ P.U.heap = h ∧ P.cells + 1 ≤ R.cells ∧ P.slots + A.slots.size ≤ R.slots)
      (fun P _ v B => ∃ L, Q Z x A h v B.U.heap L ∧ B.locs = P.locs ++ L ∧ B.cells = P.cells + 1 ∧ B.slots = P.slots + A.slots.size) := by
  intro m meth c P g ig mk a X hg hsize hdg hW hn hp'
  obtain ⟨rfl, rfl, r1, r2⟩ := hp'
  have al : Z.vm.Alike P.U.vm := hZ.alike.trans X.warmed.alike
  obtain ⟨D, cfV, kV, iV, fV, hD, gV, stV, knV, obV, asV, slV⟩ := id V
  obtain ⟨D', cfC, kC, iC, fC, hD', gC, stC, -, -, asC, slC⟩ := id C
  cases hD.symm.trans hD'
  obtain ⟨D2, kD, e1, e2, e3, e4, e5⟩ := id E
  cases hD.symm.trans e1
  obtain ⟨c2, k2, i1, i2, i3, -⟩ := Cond.instantiable_spec wi
  cases e2.symm.trans i1
  cases e3.symm.trans i2
  obtain ⟨kU, u1, u2⟩ := al.2.2 _ _ e3
  have hB : Blank ST x D P.U := ⟨hD, ⟨knV, fun q hq => by rw [hq] at obV; cases obV⟩, by rw [al.findClass]; exact e2, kU, u1, by rw [u2]; exact i3, by rw [u2]; exact e5 i3⟩
  have F1 : Found ST "value" "[B" fV P.U := ⟨SBG.found_only al ⟨cfV, kV, iV, gV⟩, stV⟩
  have F2 : Found ST "coder" "B" fC P.U := ⟨SBG.found_only al ⟨cfC, kC, iC, gC⟩, stC⟩
  have hA : Ch b A P.U := ⟨⟨K.1, State.isArrayOf_alike al K.2.1, K.2.2, by omega⟩, hty⟩
  have hS : StaticIs P.U ST "COMPACT_STRINGS" "Z" (.int z) := by
    obtain ⟨cfS, iS, kS, fS, st, cS, t1, t2, t3, t4, t5, t6, t7⟩ := S
    exact StaticIs.there (s := { Z with heap := P.U.heap }) ⟨cfS, iS, kS, fS, st, cS, t1, t2, t3, t4, t5, (fun q => by rw [q] at t6; cases t6), t7⟩ al rfl
  obtain ⟨v, B, X', ⟨⟨hv, E', V', q1, q2, q3, q4, q5, q6, q7, q8, q9, q10, q11⟩, hl, hc, hs⟩, st⟩ := New1.pays x D fV fC b A z (tab_of (moved hZ hw)) hfr hlo m meth c P g ig mk _ X hg hsize hdg hW hn ⟨r1, r2, rfl, hB, F1, F2, hA, hS, hz, l0, l2, hp⟩
  have al' : Z.vm.Alike B.U.vm := hZ.alike.trans X'.warmed.alike
  have hsz : E'.slots.size = D.slots.size := by
    obtain ⟨-, -, -, kB, w1, w2, w3⟩ := q1
    obtain ⟨kB', y1, y2⟩ := al'.2.2 _ _ e3
    rw [q2.2.1] at w1
    cases w1.symm.trans y1
    rw [w3, e5 i3, y2]
  refine ⟨v, B, X', ⟨_, ⟨hv, ?_, ⟨by omega, fun y cy hy hn' => q10 y cy (by simpa using hn') hy, fun y cy hy => ?_⟩, q11, ⟨E', _, q1.1, by rw [q2.2.1]; exact e2, by rw [q2.2.1]; exact e3, by rw [q2.1]; exact obV, fun _ => by rw [hsz]; exact e5 i3⟩,
    ⟨E', cfV, kV, iV, fV, q1.1, gV, stV, by rw [q2.1]; exact knV, by rw [q2.1]; exact obV, by rw [q2.2.1]; exact asV, q3⟩, ⟨E', cfC, kC, iC, fC, q1.1, gC, stC, by rw [q2.1]; exact knV, by rw [q2.1]; exact obV, by rw [q2.2.1]; exact asC, q4⟩,
    ⟨V', ⟨q5.1, State.isArrayOf_alike al'.symm q5.2.1, q5.2.2.1⟩, q6, by rw [← al'.findClass]; exact q7, q8, fun j hj => by have := q9 j hj; rwa [Nat.zero_add] at this⟩, fun O n d w F n1 n2 => ?_⟩, hl, hc, hs⟩, st⟩
  · intro y hy
    simp only [List.mem_cons, List.not_mem_nil, or_false] at hy
    rcases hy with rfl | rfl <;> rfl
  · by_cases q : y = x
    · subst q
      cases hD.symm.trans hy
      exact ⟨E', q1.1, q2.2.1, q2.1, hsz⟩
    · exact ⟨cy, q10 y cy q hy, rfl, rfl, rfl⟩
  · obtain ⟨D3, cf, k, i, f, g1, g2, g3, g4, g5, g6, g7⟩ := F
    cases hD.symm.trans g1
    simp only [RoadKit.slotOf, g2, gV, gC, Option.map_some, Option.getD_some] at n1 n2
    exact ⟨E', cf, k, i, f, q1.1, g2, g3, by rw [q2.1]; exact g4, by rw [q2.1]; exact g5, by rw [q2.2.1]; exact g6, by rw [q2.2.2 f.slot (by simp [n1, n2])]; exact g7⟩
end StrChars.Road
namespace StrChars.Road
open Jvm Sem ClassFile Op Lib Jvm.Stand Jvm.Free Jvm.Free.XT
/-- WHAT COMES BACK, the byte[] as a list of values -/
def QA (Z : State) (x : Addr) (zn : Int32) (cs : List Int32) (h : Heap) (v : Option Value) (h' : Heap) (L : List Loc) : Prop := v = none ∧ (∀ y ∈ L, y.base = x) ∧ RoadKit.Keep h h' [x] ∧ h'.size = h.size + 1 ∧ RoadKit.Exa Z h' x ST ∧ RoadKit.Fld Z h' x ST "value" "[B" (.ref h.size) ∧ RoadKit.Fld Z h' x ST "coder" "B" (.int 0) ∧
  (∃ kb, Z.vm.findClass "[B" = some kb ∧ RoadKit.Arv Z h' h.size kb .byte zn (cs.map fun c => .int (lo8 c)) (.int 0)) ∧
  ∀ (O n d : String) (w : Value), RoadKit.Fld Z h x O n d w → RoadKit.slotOf Z O n d ≠ RoadKit.slotOf Z ST "value" "[B" → RoadKit.slotOf Z O n d ≠ RoadKit.slotOf Z ST "coder" "B" → RoadKit.Fld Z h' x O n d w
/-- **new String(chars) AT A CALL, THE ARRAYS AS LISTS**: the char[] at b holds cs, not empty, no char above 255 -/
theorem backArv {p : Program} {l : Launch} {e : Env} {R : Room} {s : State} {args : Array Value} {below : List Frame} {len W : Nat} {Z : State} {a0 : Array Value} {h : Heap} (hZ : Z.Warmed39 s.vm) (hw : ∀ d ∈ words, d.before a0 Z = true) {kI : Nat} (wi : (Jvm.Cond.instantiable ST kI).before a0 Z = true)
    {x b : Addr} {k : ClassId} {zn z : Int32} {cs : List Int32} {dv v0 c0 : Value} (E : RoadKit.Exa Z h x ST) (V : RoadKit.Fld Z h x ST "value" "[B" v0) (C : RoadKit.Fld Z h x ST "coder" "B" c0) (K : RoadKit.Arv Z h b k .char zn (cs.map Value.int) dv) (S : RoadKit.Sta Z h ST "COMPACT_STRINGS" "Z" (.int z)) (hz : ¬ z = 0)
    (hlen : zn.toNatClampNeg = cs.length) (h0 : 0 < cs.length) (hbig : cs.length ≤ 536870912) (hall : ∀ c ∈ cs, ¬ 255 < c) (hfr : 4 ≤ R.frames) (hlo : W + 65 ≤ R.locals) :
    Back l R p e below s args New1.yN len W (fun P a => a = #[.ref x, .ref b] ∧ P.U.heap = h ∧ P.cells + 1 ≤ R.cells ∧ P.slots + cs.length ≤ R.slots)
      (fun P _ v B => ∃ L, QA Z x zn cs h v B.U.heap L ∧ B.locs = P.locs ++ L ∧ B.cells = P.cells + 1 ∧ B.slots = P.slots + cs.length) := by
  obtain ⟨A, K1, K2, K3, K4, K5, K6⟩ := K
  have e : A.slots.size = cs.length := K3.trans hlen
  have hat : ∀ (i : Nat) (hi : i < cs.length), A.slots[i]? = some (.int cs[i]) := fun i hi => by rw [K5 i (by omega)]; simp [List.getD_eq_getElem?_getD, hi]
  have hcv : ∀ (i : Nat) (hi : i < cs.length), cv A i = cs[i] := fun i hi => by unfold cv; rw [hat i hi]
  have hty : Typed .char A := fun i v hv => by
    have hi : i < A.slots.size := (Array.getElem?_eq_some_iff.mp hv).1
    have q := K5 i hi
    rw [hv] at q
    rw [Option.some.inj q]
    exact K6 i hi
  refine Back.mono (back hZ hw wi E V C K1 hty S hz (by omega) (by omega) (fun i hi => by rw [hcv i (by omega)]; exact hall _ (List.getElem_mem _)) hfr hlo) (fun P a hp => ⟨hp.1, hp.2.1, hp.2.2.1, by rw [e]; exact hp.2.2.2⟩) (fun P a v B hp hq => ?_)
  obtain ⟨L, ⟨q1, q2, q3, q4, q5, q6, q7, ⟨V', v1, v2, v3, v4, v5⟩, q9⟩, hl, hc, hs⟩ := hq
  refine ⟨L, ⟨q1, q2, q3, q4, q5, q6, q7, ⟨V'.cls, v3, V', v1, rfl, by rw [v4, e, hlen], K4, fun i hi => ?_, fun i hi => ?_⟩, q9⟩, hl, hc, by rw [hs, e]⟩
  · have hi' : i < cs.length := by omega
    rw [v5 i (by omega), hcv i hi']; simp [List.getD_eq_getElem?_getD, hi']
  · have hi' : i < cs.length := by omega
    simp only [List.getD_eq_getElem?_getD, List.getElem?_map, List.getElem?_eq_getElem hi', Option.map_some, Option.getD_some]
    exact fits_lo8 _
end StrChars.Road
namespace StrChars.Road
open Jvm Sem ClassFile Op Lib Jvm.Stand Jvm.Free Jvm.Free.XT
/-- WHAT COMES BACK, in the writer's own shape -/
def QV (Z : State) (x : Addr) (N : Int32) (bs : List Int32) (h : Heap) (n0 : Nat) (v : Option Value) (h' : Heap) (L : List Loc) : Prop := v = none ∧ RoadKit.Fr n0 L ∧ RoadKit.Keep h h' [x] ∧ RoadKit.Exa Z h' x ST ∧ RoadKit.Fld Z h' x ST "coder" "B" (.int 0) ∧
  ∃ (t : Addr) (kb : ClassId), n0 ≤ t ∧ h.size ≤ t ∧ ¬ t = x ∧ RoadKit.Fld Z h' x ST "value" "[B" (.ref t) ∧ RoadKit.Arv Z h' t kb .byte N (bs.map Value.int) (.int 0)
/-- **new String(chars) AT A CALL, FOR THE WRITER**: a char[] of n known ints, each 0 to 255 -/
theorem backV {p : Program} {l : Launch} {e : Env} {R : Room} {s : State} {args : Array Value} {below : List Frame} {len W : Nat} {Z : State} {a0 : Array Value} {h : Heap} (hZ : Z.Warmed39 s.vm) (hw : ∀ d ∈ words, d.before a0 Z = true) {kI : Nat} (wi : (Jvm.Cond.instantiable ST kI).before a0 Z = true)
    {x b : Addr} {kC : ClassId} {cs bs : List Int32} {d v0 c0 : Value} {z N : Int32} {n n0 : Nat} (hx0 : n0 ≤ x) (hh0 : n0 ≤ h.size) (E : RoadKit.Exa Z h x ST) (V : RoadKit.Fld Z h x ST "value" "[B" v0) (C : RoadKit.Fld Z h x ST "coder" "B" c0) (K : RoadKit.Arv Z h b kC .char N (cs.map Value.int) d) (S : RoadKit.Sta Z h ST "COMPACT_STRINGS" "Z" (.int z)) (hz : ¬ z = 0)
    (hn : cs.length = n) (hN : N = Int32.ofNat n) (l0 : 0 < n) (l2 : n ≤ 4000) (hp : ∀ c ∈ cs, ¬ c < 0 ∧ ¬ (255 : Int32) < c) (hb : bs = cs.map (fun c => c.toInt8.toInt32)) (hfr : 4 ≤ R.frames) (hlo : W + 65 ≤ R.locals) :
    Back l R p e below s args (⟨"java/lang/String", "<init>", "([C)V"⟩ : MethodName) len W (fun P a => a = #[.ref x, .ref b] ∧ P.U.heap = h ∧ P.cells + 1 ≤ R.cells ∧ P.slots + n ≤ R.slots)
      (fun P _ v B => ∃ L, QV Z x N bs h n0 v B.U.heap L ∧ B.locs = P.locs ++ L ∧ B.cells = P.cells + 1 ∧ B.slots = P.slots + n) := by
  subst hn hN hb
  refine Back.mono (backArv hZ hw wi E V C K S hz (n32 (by omega)) l0 (by omega) (fun c hc => (hp c hc).2) hfr hlo) (fun P a hp => hp) (fun P a v B hp hq => ?_)
  obtain ⟨L, ⟨q1, q2, q3, q4, q5, q6, q7, ⟨kb, v1, v2⟩, q9⟩, hl, hc, hs⟩ := hq
  exact ⟨L, ⟨q1, fun y hy => by rw [q2 y hy]; exact hx0, q3, q5, q7, h.size, kb, hh0, Nat.le_refl _, Nat.ne_of_gt E.lt, q6, by rw [List.map_map]; exact v2⟩, hl, hc, hs⟩
end StrChars.Road
namespace StrChars
open Jvm Sem ClassFile Op Lib Jvm.Stand Jvm.Free.XT Jvm.Free.ALB Jvm.Free.JM Jvm.Free
open Jvm.Lib.Cold (StaticIs)
def hi8 (x : Int32) : Int32 := lo8 (x >>> ((8 : Int32) &&& 31))
/-- what StringUTF16.getChar makes of two bytes -/
def pairCh (u v : Int32) : Int32 := (((u &&& 255) <<< ((0 : Int32) &&& 31)) ||| ((v &&& 255) <<< ((8 : Int32) &&& 31))).toUInt32.toUInt16.toUInt32.toInt32
theorem lo8_and (x : Int32) : (lo8 x &&& 255).toBitVec.toNat = x.toBitVec.toNat % 256 := by
  have h : (lo8 x).toBitVec = (x.toBitVec.signExtend 8).signExtend 32 := by rw [lo8, Int8.toBitVec_toInt32, Int32.toBitVec_toInt8]
  rw [Int32.toBitVec_and, BitVec.toNat_and, h]
  have e : ((x.toBitVec.signExtend 8).signExtend 32).toNat % 256 = x.toBitVec.toNat % 256 := by
    rw [BitVec.toNat_signExtend]
    have hlt := x.toBitVec.isLt
    simp only [BitVec.toNat_setWidth, BitVec.toNat_signExtend]
    split <;> split <;> omega
  rw [← e]
  exact Nat.and_two_pow_sub_one_eq_mod _ 8
theorem pair_says {c : Int32} (h0 : ¬ c < 0) (h1 : ¬ 65535 < c) : pairCh (lo8 c) (hi8 c) = c := by
  rw [Int32.lt_iff_toInt_lt] at h0 h1
  have e0 : (0 : Int32).toInt = 0 := rfl
  have e1 : (65535 : Int32).toInt = 65535 := rfl
  have hc : c.toInt = c.toBitVec.toNat := by
    have := c.toBitVec.isLt
    have e : c.toInt = c.toBitVec.toInt := rfl
    rw [e] at h0 h1
    rw [e]
    rw [BitVec.toInt_eq_toNat_cond] at h0 h1 ⊢
    split at h0 <;> split <;> omega
  have hn : c.toBitVec.toNat < 65536 := by omega
  have a1 := lo8_and c
  have a2 : (hi8 c &&& 255).toBitVec.toNat = c.toBitVec.toNat / 256 := by
    rw [hi8, lo8_and]
    have e : ((8 : Int32) &&& 31) = 8 := by decide
    rw [e, Int32.toBitVec_shiftRight]
    have e2 : ((8 : Int32).toBitVec.smod 32) = 8#32 := by decide
    rw [e2, BitVec.sshiftRight_eq', BitVec.toNat_sshiftRight_of_msb_false (by rw [BitVec.msb_eq_false_iff_two_mul_lt]; omega)]
    show c.toBitVec.toNat >>> 8 % 256 = _
    rw [Nat.shiftRight_eq_div_pow]
    omega
  unfold pairCh
  apply Int32.toBitVec_inj.mp
  apply BitVec.eq_of_toNat_eq
  have f0 : ((0 : Int32) &&& 31) = 0 := by decide
  have f8 : ((8 : Int32) &&& 31) = 8 := by decide
  rw [f0, f8]
  have g : (((lo8 c &&& 255) <<< (0 : Int32)) ||| ((hi8 c &&& 255) <<< (8 : Int32))).toBitVec.toNat = c.toBitVec.toNat := by
    rw [Int32.toBitVec_or, Int32.toBitVec_shiftLeft, Int32.toBitVec_shiftLeft]
    have s0 : ((0 : Int32).toBitVec.smod 32) = 0#32 := by decide
    have s8 : ((8 : Int32).toBitVec.smod 32) = 8#32 := by decide
    rw [s0, s8, BitVec.toNat_or]
    simp only [BitVec.shiftLeft_eq', BitVec.toNat_shiftLeft, a1, a2]
    show (c.toBitVec.toNat % 256) <<< 0 % 2 ^ 32 ||| (c.toBitVec.toNat / 256) <<< 8 % 2 ^ 32 = _
    rw [Nat.shiftLeft_zero, Nat.mod_eq_of_lt (show c.toBitVec.toNat % 256 < 2 ^ 32 by omega), Nat.mod_eq_of_lt (show (c.toBitVec.toNat / 256) <<< 8 < 2 ^ 32 by rw [Nat.shiftLeft_eq]; omega), Nat.or_comm, ← Nat.shiftLeft_add_eq_or_of_lt (by omega), Nat.shiftLeft_eq]
    omega
  show BitVec.toNat (((((lo8 c &&& 255) <<< (0 : Int32)) ||| ((hi8 c &&& 255) <<< (8 : Int32))).toBitVec.setWidth 16).setWidth 32) = _
  rw [BitVec.toNat_setWidth, BitVec.toNat_setWidth, g]
  omega
end StrChars
namespace StrChars
open Jvm Sem ClassFile Op Lib Jvm.Stand Jvm.Free.XT Jvm.Free.ALB Jvm.Free.JM Jvm.Free
open Jvm.Lib.Cold (StaticIs)
/-- charAt's cast of a byte read back -/
def chr8 (u : Int32) : Int32 := (u &&& 255).toUInt32.toUInt16.toUInt32.toInt32
theorem chr8_lo8 {c : Int32} (h0 : ¬ c < 0) (h1 : ¬ 255 < c) : chr8 (lo8 c) = c := by
  have t : ∀ k : Fin 256, (Int32.ofNat k.val).toUInt32.toUInt16.toUInt32.toInt32 = Int32.ofNat k.val := by decide +kernel
  unfold chr8
  rw [lo8_mask h0 h1]
  rw [Int32.lt_iff_toInt_lt] at h0 h1
  have e0 : (0 : Int32).toInt = 0 := rfl
  have e1 : (255 : Int32).toInt = 255 := rfl
  obtain ⟨k, hk⟩ : ∃ k : Nat, c.toInt = k := ⟨c.toInt.toNat, by omega⟩
  have hx : c = Int32.ofNat k := Int32.toInt_inj.mp (by rw [hk, Int32.toInt_ofNat_small (by omega)])
  rw [hx]
  exact t ⟨k, by omega⟩
theorem narrow_ch {c : Int32} (h0 : ¬ c < 0) (h1 : ¬ 65535 < c) : narrow .char (.int c) = .int c := by
  have q : narrow .char (.int (pairCh (lo8 c) (hi8 c))) = .int (pairCh (lo8 c) (hi8 c)) := narrow_c _
  rwa [pair_says h0 h1] at q
/-- the array's cell V codes the n chars f 0 .. f (n - 1) by the coder cd, as the JDK does: coder 1 just where some char is above 255 -/
def Cod (cd : Int32) (n : Nat) (f : Nat → Int32) (V : Cell) : Prop := (cd = 0 ∧ V.slots.size = n ∧ ∀ j, j < n → V.slots[j]? = some (.int (lo8 (f j))) ∧ ¬ 255 < f j) ∨ (cd = 1 ∧ V.slots.size = 2 * n ∧ (∀ j, j < n → V.slots[2 * j]? = some (.int (lo8 (f j))) ∧ V.slots[2 * j + 1]? = some (.int (hi8 (f j)))) ∧ ∃ j, j < n ∧ 255 < f j)
theorem Cod.cd {cd : Int32} {n : Nat} {f : Nat → Int32} {V : Cell} (h : Cod cd n f V) : cd = 0 ∨ cd = 1 := h.imp (fun q => q.1) fun q => q.1
/-- **x is a String of the n chars f 0 .. f (n - 1)**, Latin-1 or UTF-16; its array at t has the cell V -/
def Txt (x t : Addr) (V : Cell) (cd : Int32) (n : Nat) (f : Nat → Int32) (U : State) : Prop := Exact "java/lang/String" x U ∧ Has x "java/lang/String" "value" "[B" (.ref t) U ∧ Has x "java/lang/String" "coder" "B" (.int cd) U ∧ XT.Arr .byte t V U ∧ Cod cd n f V ∧ ∀ j, j < n → ¬ f j < 0 ∧ ¬ 65535 < f j
theorem Txt.mv {x t : Addr} {V : Cell} {cd : Int32} {n : Nat} {f : Nat → Int32} {U U' : State} (h : Txt x t V cd n f U) (hal : U.vm.Alike U'.vm) (hh : U'.heap = U.heap) : Txt x t V cd n f U' := ⟨h.1.mv hal hh, h.2.1.mv hal hh, h.2.2.1.mv hal hh, h.2.2.2.1.mv hal hh, h.2.2.2.2⟩
namespace IsL
def yN : MethodName := ⟨"java/lang/String", "isLatin1", "()Z"⟩
abbrev yB : ByteArray := jdk_42_method_154_code
theorem d0 : decode yB 0 = .ok (.getstatic 38, 3) := by decide +kernel
theorem d3 : decode yB 3 = .ok (.ifCond (.eq) 14, 3) := by decide +kernel
theorem d6 : decode yB 6 = .ok (.aload_n 0, 1) := by decide +kernel
theorem d7 : decode yB 7 = .ok (.getfield 15, 3) := by decide +kernel
theorem d10 : decode yB 10 = .ok (.ifCond (.ne) 7, 3) := by decide +kernel
theorem d13 : decode yB 13 = .ok (.iconst 1, 1) := by decide +kernel
theorem d14 : decode yB 14 = .ok (.goto 4, 3) := by decide +kernel
theorem d17 : decode yB 17 = .ok (.iconst 0, 1) := by decide +kernel
theorem d18 : decode yB 18 = .ok (.ireturn, 1) := by decide +kernel
def site : List Cond := [.fieldLink "java/lang/String" 38 "java/lang/String" "COMPACT_STRINGS" "Z", .fieldLink "java/lang/String" 15 "java/lang/String" "coder" "B"]
def tab : Cond := tabOf yN yB 1 (some .boolean) site
def P (x : Addr) (cd z : Int32) (args : Array Value) (s : State) : Prop := args = #[.ref x] ∧ Has x "java/lang/String" "coder" "B" (.int cd) s ∧ (cd = 0 ∨ cd = 1) ∧ StaticIs s "java/lang/String" "COMPACT_STRINGS" "Z" (.int z) ∧ ¬ z = 0
def E (cd : Int32) (r : Option Value) (s u : State) : Prop := XT.PureE (some (.int (1 - cd))) r s u
theorem law (l : Launch) (x : Addr) (cd z : Int32) : Law l yN 1 0 0 0 yB 1 (some .boolean) site (P x cd z) (E cd) [] 0 0 := by
  refine Law.of_walk (plainFor_of_name (by decide +kernel)) (by decide +kernel) (by decide +kernel) (by decide) (fun _ _ h => by rw [h.1]; rfl) (fun _ U U' hal hh h => ⟨h.1, h.2.1.mv hal hh, h.2.2.1, h.2.2.2.1.there hal hh, h.2.2.2.2⟩) (fun r U U' V V' h1 hal h2 h => XT.PureE.mv r U U' V V' h1 hal h2 h) ?_
  intro p e s m args below meth c s₁ X0 hexec hbytes hml hret hlk hnm hown hh0 W hP
  obtain ⟨rfl, hx, hc, s1, hz⟩ := hP
  have c1 : Steps p.tables e below (s₁.setTop (entryFrame m #[.ref x] 1)) (s₁.setTop (mkF m 0 #[.val (.ref x)] [])) := entry rfl
  obtain ⟨T2, X2, q2, st2⟩ := X0.sget hexec hown (wk W (.fieldLink "java/lang/String" 38 "java/lang/String" "COMPACT_STRINGS" "Z")) s1 (fun _ _ h => by rw [hh0]; exact h) (g := (mkF m 0 #[.val (.ref x)] [])) rfl (hb hbytes d0)
  have hh2 := q2.trans hh0
  have c3 : Steps p.tables e below (s₁.setTop (entryFrame m #[.ref x] 1)) (T2.setTop (mkF m 7 #[.val (.ref x)] [.ref x])) := (c1.trans (st2 _ (Steps.refl _))).trans (by
    refine XS.ifNo X2.here hexec rfl (hb hbytes d3) rfl (i0_eq_f hz) ?_
    refine XS.aloadN X2.here hexec rfl (hb hbytes d6) rfl rfl ?_
    exact Steps.refl _)
  obtain ⟨T4, X4, q4, st4⟩ := X2.hget hexec hown (wk W (.fieldLink "java/lang/String" 15 "java/lang/String" "coder" "B")) (hx.mv X2.warmed.alike hh2) (g := (mkF m 7 #[.val (.ref x)] [.ref x])) rfl (rest := []) rfl (hb hbytes d7)
  have c5 : Steps p.tables e below (s₁.setTop (entryFrame m #[.ref x] 1)) (T4.setTop (mkF m 10 #[.val (.ref x)] [.int cd])) := c3.trans (st4 _ (Steps.refl _))
  have c6 : Steps p.tables e below (s₁.setTop (entryFrame m #[.ref x] 1)) (T4.setTop (mkF m 18 #[.val (.ref x)] [.int (1 - cd)])) := by
    rcases hc with rfl | rfl
    · exact c5.trans (by
        refine XS.ifNo X4.here hexec rfl (hb hbytes d10) rfl (i0_ne_f rfl) ?_
        refine iconstV X4.here hexec rfl 1 (hb hbytes d13) (by decide) ?_
        refine XS.goto X4.here hexec rfl (pc0 := 14) rfl (hb hbytes d14) (by decide) rfl ?_
        exact Steps.refl _)
    · exact c5.trans (by
        refine XS.ifYes X4.here hexec rfl (pc0 := 10) rfl (hb hbytes d10) rfl (i0_ne_t (by decide)) (by decide) rfl ?_
        refine iconstV X4.here hexec rfl 0 (hb hbytes d17) (by decide) ?_
        exact Steps.refl _)
  exact ⟨T4, some (.int (1 - cd)), _, _, _, X4, rfl, rfl, rfl, (fun h => by cases h), ⟨rfl, q4.trans hh2⟩, fun fs hl => c6.trans (X4.ireturnOut hexec hret (by rcases hc with rfl | rfl <;> rfl) (Or.inr (Or.inl rfl)) (hb hbytes d18) hl)⟩
end IsL
namespace LChA
def yN : MethodName := ⟨"java/lang/StringLatin1", "charAt", "([BI)C"⟩
abbrev yB : ByteArray := jdk_43_method_2_code
theorem d0 : decode yB 0 = .ok (.iload_n 1, 1) := by decide +kernel
theorem d1 : decode yB 1 = .ok (.aload_n 0, 1) := by decide +kernel
theorem d2 : decode yB 2 = .ok (.arraylength, 1) := by decide +kernel
theorem d3 : decode yB 3 = .ok (.invokestatic 9, 3) := by decide +kernel
theorem d6 : decode yB 6 = .ok (.aload_n 0, 1) := by decide +kernel
theorem d7 : decode yB 7 = .ok (.iload_n 1, 1) := by decide +kernel
theorem d8 : decode yB 8 = .ok (.baload, 1) := by decide +kernel
theorem d9 : decode yB 9 = .ok (.sipush 255, 3) := by decide +kernel
theorem d12 : decode yB 12 = .ok (.iand, 1) := by decide +kernel
theorem d13 : decode yB 13 = .ok (.i2c, 1) := by decide +kernel
theorem d14 : decode yB 14 = .ok (.ireturn, 1) := by decide +kernel
def site : List Cond := [JO.Str_checkIndex.tab] ++ staticW "java/lang/StringLatin1" 9 JO.Str_checkIndex.yN
def tab : Cond := tabOf yN yB 2 (some .char) site
def P (t : Addr) (V : Cell) (i : Nat) (u : Int32) (fm : Value) (args : Array Value) (s : State) : Prop := args = #[.ref t, .int (Int32.ofNat i)] ∧ XT.Arr .byte t V s ∧ V.slots[i]? = some (.int u) ∧ (StaticIs s "jdk/internal/util/Preconditions" "SIOOBE_FORMATTER" "Ljava/util/function/BiFunction;" fm ∧ fm.isRef = true)
def E (u : Int32) (r : Option Value) (s w : State) : Prop := XT.PureE (some (.int (chr8 u))) r s w
theorem law (l : Launch) (t : Addr) (V : Cell) (i : Nat) (u : Int32) (fm : Value) : Law l yN 2 2 2 27 yB 2 (some .char) site (P t V i u fm) (E u) [] 0 0 := by
  refine Law.of_walk (plainFor_of_name (by decide +kernel)) (by decide +kernel) (by decide +kernel) (by decide) (fun _ _ h => by rw [h.1]; rfl) (fun _ U U' hal hh h => ⟨h.1, h.2.1.mv hal hh, h.2.2.1, h.2.2.2.1.there hal hh, h.2.2.2.2⟩) (fun r U U' V V' h1 hal h2 h => XT.PureE.mv r U U' V V' h1 hal h2 h) ?_
  intro p e s m args below meth c s₁ X0 hexec hbytes hml hret hlk hnm hown hh0 W hP
  obtain ⟨rfl, hV, hu, s1, rf⟩ := hP
  have v31 := hV.2.2.2
  have hi : i < V.slots.size := (Array.getElem?_eq_some_iff.mp hu).1
  have c1 : Steps p.tables e below (s₁.setTop (entryFrame m #[.ref t, .int (Int32.ofNat i)] 2)) (s₁.setTop (mkF m 0 #[.val (.ref t), .val (.int (Int32.ofNat i))] [])) := entry rfl
  have c2 : Steps p.tables e below (s₁.setTop (entryFrame m #[.ref t, .int (Int32.ofNat i)] 2)) (s₁.setTop (mkF m 3 #[.val (.ref t), .val (.int (Int32.ofNat i))] [.int (Int32.ofNat V.slots.size), .int (Int32.ofNat i)])) := c1.trans (by
    refine XS.iloadN X0.here hexec rfl (hb hbytes d0) rfl ?_
    refine XS.aloadN X0.here hexec rfl (hb hbytes d1) rfl rfl ?_
    refine X0.alen hexec (hV.mv X0.warmed.alike hh0) rfl rfl (hb hbytes d2) ?_
    exact Steps.refl _)
  obtain ⟨v3, T3, X3, E3, g3⟩ := X0.callS hexec (JO.Str_checkIndex.law l (Int32.ofNat i) (Int32.ofNat V.slots.size) fm) hown (wks W (staticW "java/lang/StringLatin1" 9 JO.Str_checkIndex.yN)) (wk W JO.Str_checkIndex.tab) (W := 0) (Nat.le_of_ble_eq_true rfl) (Nat.le_of_ble_eq_true rfl) (Nat.le_refl _) (Nat.le_refl _) (g := (mkF m 3 #[.val (.ref t), .val (.int (Int32.ofNat i))] [.int (Int32.ofNat V.slots.size), .int (Int32.ofNat i)])) rfl (by rw [hml]; rfl) c2 (argsL := [.int (Int32.ofNat i), .int (Int32.ofNat V.slots.size)]) (rest := []) rfl rfl (by show 2 * 0 + 0 ≤ _; decide) (hb hbytes d3) (⟨rfl, rf, s1.there X0.warmed.alike hh0, Int32.ofNat_not_neg (by omega), lt32 v31 hi⟩)
  obtain ⟨rfl, q3⟩ := E3
  have hh3 := q3.trans hh0
  have c4 : Steps p.tables e below (s₁.setTop (entryFrame m #[.ref t, .int (Int32.ofNat i)] 2)) (T3.setTop (mkF m 14 #[.val (.ref t), .val (.int (Int32.ofNat i))] [.int (chr8 u)])) := Steps.trans g3 (by
    refine XS.aloadN X3.here hexec rfl (hb hbytes d6) rfl rfl ?_
    refine XS.iloadN X3.here hexec rfl (hb hbytes d7) rfl ?_
    refine X3.aget hexec (hV.mv X3.warmed.alike hh3) rfl hu rfl rfl (hb hbytes d8) ?_
    refine sipushV X3.here hexec rfl 255 (hb hbytes d9) (by decide) ?_
    refine XS.iand X3.here hexec rfl (hb hbytes d12) rfl ?_
    refine i2c X3.here hexec rfl (hb hbytes d13) rfl ?_
    exact Steps.refl _)
  exact ⟨T3, some (.int (chr8 u)), _, _, _, X3, rfl, rfl, rfl, (fun h => by cases h), ⟨rfl, hh3⟩, fun fs hl => c4.trans (X3.ireturnOut hexec hret (narrow_c _) (Or.inr (Or.inr (Or.inr (Or.inl rfl)))) (hb hbytes d14) hl)⟩
end LChA
end StrChars
namespace StrChars.Road
open Jvm Sem ClassFile Op Lib Jvm.Stand Jvm.Free Jvm.Free.XT
open Jvm.Lib.Cold (StaticIs)
theorem consq {a : Array Value} {s : State} {c : Jvm.Cond} {L : List Jvm.Cond} (h0 : c.before a s = true) (h : ∀ w ∈ L, w.before a s = true) : ∀ w ∈ c :: L, w.before a s = true := fun w hw => (List.mem_cons.mp hw).elim (fun e => e ▸ h0) (h w)
/-- the bytes of the chars cs, low before high -/
def wideBytes : List Int32 → List Value
  | [] => []
  | c :: cs => .int (lo8 c) :: .int (hi8 c) :: wideBytes cs
theorem wide_lo (d : Value) : ∀ (cs : List Int32) (j : Nat), j < cs.length → (wideBytes cs).getD (2 * j) d = .int (lo8 (cs.getD j 0))
  | [], j, h => absurd h (Nat.not_lt_zero j)
  | c :: cs, 0, _ => rfl
  | c :: cs, j + 1, h => by
    have q := wide_lo d cs j (by simpa using h)
    rw [show 2 * (j + 1) = 2 * j + 1 + 1 from by omega]
    simpa [wideBytes] using q
theorem wide_hi (d : Value) : ∀ (cs : List Int32) (j : Nat), j < cs.length → (wideBytes cs).getD (2 * j + 1) d = .int (hi8 (cs.getD j 0))
  | [], j, h => absurd h (Nat.not_lt_zero j)
  | c :: cs, 0, _ => rfl
  | c :: cs, j + 1, h => by
    have q := wide_hi d cs j (by simpa using h)
    rw [show 2 * (j + 1) + 1 = 2 * j + 1 + 1 + 1 from by omega]
    simpa [wideBytes] using q
theorem low_at (d : Value) (cs : List Int32) (j : Nat) (h : j < cs.length) : (cs.map fun c => Value.int (lo8 c)).getD j d = .int (lo8 (cs.getD j 0)) := by
  simp [List.getD_eq_getElem?_getD, h]
/-- an array of N2 bytes vs codes the chars cs by the coder cd -/
def CodA (cs : List Int32) (cd N2 : Int32) (vs : List Value) : Prop := (cd = 0 ∧ N2 = Int32.ofNat cs.length ∧ vs = (cs.map fun c => Value.int (lo8 c)) ∧ ∀ c ∈ cs, ¬ 255 < c) ∨ (cd = 1 ∧ N2 = Int32.ofNat (2 * cs.length) ∧ vs = wideBytes cs ∧ ∃ c ∈ cs, 255 < c)
theorem CodA.cod {cs : List Int32} {cd N2 : Int32} {vs : List Value} {V : Cell} (h : CodA cs cd N2 vs) (hn : 2 * cs.length < 2 ^ 31) (hs : V.slots.size = N2.toNatClampNeg) (hv : RoadKit.Has V vs (.int 0)) : Cod cd cs.length (fun j => cs.getD j 0) V := by
  rcases h with ⟨rfl, rfl, rfl, h⟩ | ⟨rfl, rfl, rfl, c, hc, hw⟩
  · rw [n32 (by omega)] at hs
    exact Or.inl ⟨rfl, hs, fun j hj => ⟨by rw [hv j (by omega), low_at _ _ _ hj], by
      have e : cs.getD j 0 = cs[j] := by simp [List.getD_eq_getElem?_getD, hj]
      show ¬ 255 < cs.getD j 0
      rw [e]; exact h _ (List.getElem_mem _)⟩⟩
  · rw [n32 (by omega)] at hs
    obtain ⟨j, hj, rfl⟩ := List.getElem_of_mem hc
    exact Or.inr ⟨rfl, hs, fun j hj => ⟨by rw [hv _ (by omega), wide_lo _ _ _ hj], by rw [hv _ (by omega), wide_hi _ _ _ hj]⟩, j, hj, by
      have e : cs.getD j 0 = cs[j] := by simp [List.getD_eq_getElem?_getD, hj]
      show 255 < cs.getD j 0
      rw [e]; exact hw⟩
/-- an object of exactly java/lang/String, its two fields found: as the laws ask it -/
theorem strObj {Z U : State} {a0 : Array Value} {kI : Nat} (wi : (Jvm.Cond.instantiable ST kI).before a0 Z = true) (al : Z.vm.Alike U.vm) {x : Addr} {v0 c0 : Value} (E : RoadKit.Exa Z U.heap x ST) (V : RoadKit.Fld Z U.heap x ST "value" "[B" v0) (C : RoadKit.Fld Z U.heap x ST "coder" "B" c0) :
    ∃ (D : Cell) (fV fC : Field), Blank ST x D U ∧ Found ST "value" "[B" fV U ∧ Found ST "coder" "B" fC U ∧ D.slots[fV.slot]? = some v0 ∧ D.slots[fC.slot]? = some c0 ∧ RoadKit.slotOf Z ST "value" "[B" = fV.slot ∧ RoadKit.slotOf Z ST "coder" "B" = fC.slot := by
  obtain ⟨D, cfV, kV, iV, fV, hD, gV, stV, knV, obV, asV, slV⟩ := V
  obtain ⟨D', cfC, kC, iC, fC, hD', gC, stC, -, -, asC, slC⟩ := C
  cases hD.symm.trans hD'
  obtain ⟨D2, kD, e1, e2, e3, e4, e5⟩ := E
  cases hD.symm.trans e1
  obtain ⟨c2, k2, i1, i2, i3, -⟩ := Cond.instantiable_spec wi
  cases e2.symm.trans i1
  cases e3.symm.trans i2
  obtain ⟨kU, u1, u2⟩ := al.2.2 _ _ e3
  exact ⟨D, fV, fC, ⟨hD, ⟨knV, fun q hq => by rw [hq] at obV; cases obV⟩, by rw [al.findClass]; exact e2, kU, u1, by rw [u2]; exact i3, by rw [u2]; exact e5 i3⟩, ⟨SBG.found_only al ⟨cfV, kV, iV, gV⟩, stV⟩, ⟨SBG.found_only al ⟨cfC, kC, iC, gC⟩, stC⟩, slV, slC, by simp [RoadKit.slotOf, gV], by simp [RoadKit.slotOf, gC]⟩
theorem sta_is {Z U : State} (al : Z.vm.Alike U.vm) {C n d : String} {v : Value} (S : RoadKit.Sta Z U.heap C n d v) : StaticIs U C n d v := by
  obtain ⟨cfS, iS, kS, fS, st, cS, t1, t2, t3, t4, t5, t6, t7⟩ := S
  exact StaticIs.there (s := { Z with heap := U.heap }) ⟨cfS, iS, kS, fS, st, cS, t1, t2, t3, t4, t5, (fun q => by rw [q] at t6; cases t6), t7⟩ al rfl
end StrChars.Road
namespace StrChars.Road
open Jvm Sem ClassFile Op Lib Jvm.Stand Jvm.Free Jvm.Free.XT
open Jvm.Lib.Cold (StaticIs)
/-- the road's facts of a String, as the laws ask it -/
theorem txt_of {Z U : State} {a0 : Array Value} {kI : Nat} (wi : (Jvm.Cond.instantiable ST kI).before a0 Z = true) (al : Z.vm.Alike U.vm) {x t : Addr} {kb : ClassId} {cs : List Int32} {cd N2 : Int32} {vs : List Value} (E : RoadKit.Exa Z U.heap x ST) (V : RoadKit.Fld Z U.heap x ST "value" "[B" (.ref t)) (C : RoadKit.Fld Z U.heap x ST "coder" "B" (.int cd)) (K : RoadKit.Arv Z U.heap t kb .byte N2 vs (.int 0)) (hc : CodA cs cd N2 vs) (hb : ∀ c ∈ cs, ¬ c < 0 ∧ ¬ (65535 : Int32) < c) (l2 : cs.length ≤ 4000) :
    ∃ A, Txt x t A cd cs.length (fun j => cs.getD j 0) U := by
  obtain ⟨A, K1, K2, K3, K4, K5, K6⟩ := K
  have hcod := hc.cod (by omega) K3 K5
  obtain ⟨D, fV, fC, hB, F1, F2, g1, g2, -, -⟩ := strObj wi al E V C
  exact ⟨A, ⟨_, hB.2.2.1, D, hB.1, rfl, by cases q : D.vm <;> first | rfl | exact absurd q (hB.2.1.2 _)⟩, Has.of hB F1 g1, Has.of hB F2 g2, ⟨K1.1, State.isArrayOf_alike al K1.2.1, K1.2.2, by rcases hcod with ⟨-, q, -⟩ | ⟨-, q, -⟩ <;> omega⟩, hcod, fun j hj => by
    have e : cs.getD j 0 = cs[j] := by simp [List.getD_eq_getElem?_getD, hj]
    show ¬ cs.getD j 0 < 0 ∧ ¬ 65535 < cs.getD j 0
    rw [e]; exact hb _ (List.getElem_mem _)⟩
end StrChars.Road
namespace StrChars
open Jvm Sem ClassFile Op Lib Jvm.Stand Jvm.Free.XT Jvm.Free.ALB Jvm.Free.JM Jvm.Free
open Jvm.Lib.Cold (StaticIs)
namespace ChN
def yN : MethodName := ⟨"java/lang/String", "charAt", "(I)C"⟩
abbrev yB : ByteArray := jdk_42_method_56_code
theorem d0 : decode yB 0 = .ok (.aload_n 0, 1) := by decide +kernel
theorem d1 : decode yB 1 = .ok (.invokevirtual 492, 3) := by decide +kernel
theorem d4 : decode yB 4 = .ok (.ifCond (.eq) 12, 3) := by decide +kernel
theorem d7 : decode yB 7 = .ok (.aload_n 0, 1) := by decide +kernel
theorem d8 : decode yB 8 = .ok (.getfield 9, 3) := by decide +kernel
theorem d11 : decode yB 11 = .ok (.iload_n 1, 1) := by decide +kernel
theorem d12 : decode yB 12 = .ok (.invokestatic 495, 3) := by decide +kernel
theorem d15 : decode yB 15 = .ok (.ireturn, 1) := by decide +kernel
def site : List Cond := [.fieldLink "java/lang/String" 9 "java/lang/String" "value" "[B", IsL.tab, LChA.tab] ++ virtW "java/lang/String" 492 "java/lang/String" IsL.yN IsL.yN ++ staticW "java/lang/String" 495 LChA.yN
def tab : Cond := tabOf yN yB 2 (some .char) site
def P (x t : Addr) (V : Cell) (n : Nat) (f : Nat → Int32) (z : Int32) (fm : Value) (i : Nat) (args : Array Value) (s : State) : Prop := args = #[.ref x, .int (Int32.ofNat i)] ∧ Txt x t V 0 n f s ∧ i < n ∧ StaticIs s "java/lang/String" "COMPACT_STRINGS" "Z" (.int z) ∧ ¬ z = 0 ∧ StaticIs s "jdk/internal/util/Preconditions" "SIOOBE_FORMATTER" "Ljava/util/function/BiFunction;" fm ∧ fm.isRef = true
def E (f : Nat → Int32) (i : Nat) (r : Option Value) (s u : State) : Prop := XT.PureE (some (.int (f i))) r s u
/-- charAt(i) of a Latin-1 String of n chars, i < n: f i -/
theorem law (l : Launch) (x t : Addr) (V : Cell) (n : Nat) (f : Nat → Int32) (z : Int32) (fm : Value) (i : Nat) : Law l yN 2 1 3 40 yB 2 (some .char) site (P x t V n f z fm i) (E f i) [] 0 0 := by
  refine Law.of_walk (plainFor_of_name (by decide +kernel)) (by decide +kernel) (by decide +kernel) (by decide) (fun _ _ h => by rw [h.1]; rfl) (fun _ U U' hal hh h => ⟨h.1, h.2.1.mv hal hh, h.2.2.1, h.2.2.2.1.there hal hh, h.2.2.2.2.1, h.2.2.2.2.2.1.there hal hh, h.2.2.2.2.2.2⟩) (fun r U U' V V' h1 hal h2 h => XT.PureE.mv r U U' V V' h1 hal h2 h) ?_
  intro p e s m args below meth c s₁ X0 hexec hbytes hml hret hlk hnm hown hh0 W hP
  obtain ⟨rfl, hx, hi, s1, hz, s3, rf⟩ := hP
  have v31 := hx.2.2.2.1.2.2.2
  have hr := hx.2.2.2.2.2 i hi
  have hx0 := hx.mv X0.warmed.alike hh0
  have c1 : Steps p.tables e below (s₁.setTop (entryFrame m #[.ref x, .int (Int32.ofNat i)] 2)) (s₁.setTop (mkF m 1 #[.val (.ref x), .val (.int (Int32.ofNat i))] [.ref x])) := Steps.trans (entry rfl) (by
    show Steps p.tables e below (s₁.setTop (mkF m 0 #[.val (.ref x), .val (.int (Int32.ofNat i))] [])) _
    refine XS.aloadN X0.here hexec rfl (hb hbytes d0) rfl rfl ?_
    exact Steps.refl _)
  obtain ⟨v2, T2, X2, E2, g2⟩ := X0.callV hexec (IsL.law l x 0 z) hown (wks W (virtW "java/lang/String" 492 "java/lang/String" IsL.yN IsL.yN)) rfl (by decide) (wk W IsL.tab) (W := 0) (Nat.le_of_ble_eq_true rfl) (Nat.le_of_ble_eq_true rfl) (Nat.le_refl _) (Nat.le_refl _) (hx0.1.fc X0.warmed.alike) hx0.1.is (g := (mkF m 1 #[.val (.ref x), .val (.int (Int32.ofNat i))] [.ref x])) rfl (by rw [hml]; rfl) c1 (argsL := []) (rest := []) rfl rfl (by show 2 * 0 + 0 ≤ _; decide) (hb hbytes d1) (⟨rfl, hx0.2.2.1, hx.2.2.2.2.1.cd, s1.there X0.warmed.alike hh0, hz⟩)
  obtain ⟨rfl, q2⟩ := E2
  have hh2 := q2.trans hh0
  have hx2 := hx.mv X2.warmed.alike hh2
  obtain ⟨-, k1, k2⟩ | ⟨k0, -⟩ := hx.2.2.2.2.1
  · have c3 : Steps p.tables e below (s₁.setTop (entryFrame m #[.ref x, .int (Int32.ofNat i)] 2)) (T2.setTop (mkF m 8 #[.val (.ref x), .val (.int (Int32.ofNat i))] [.ref x])) := Steps.trans g2 (by
      refine XS.ifNo X2.here hexec rfl (hb hbytes d4) rfl (i0_eq_f (by decide)) ?_
      refine XS.aloadN X2.here hexec rfl (hb hbytes d7) rfl rfl ?_
      exact Steps.refl _)
    obtain ⟨T4, X4, q4, st4⟩ := X2.hget hexec hown (wk W (.fieldLink "java/lang/String" 9 "java/lang/String" "value" "[B")) hx2.2.1 (g := (mkF m 8 #[.val (.ref x), .val (.int (Int32.ofNat i))] [.ref x])) rfl (rest := []) rfl (hb hbytes d8)
    have hh4 := q4.trans hh2
    have c5 : Steps p.tables e below (s₁.setTop (entryFrame m #[.ref x, .int (Int32.ofNat i)] 2)) (T4.setTop (mkF m 12 #[.val (.ref x), .val (.int (Int32.ofNat i))] [.int (Int32.ofNat i), .ref t])) := (c3.trans (st4 _ (Steps.refl _))).trans (by
      refine XS.iloadN X4.here hexec rfl (hb hbytes d11) rfl ?_
      exact Steps.refl _)
    obtain ⟨v6, T6, X6, E6, g6⟩ := X4.callS hexec (LChA.law l t V i (lo8 (f i)) fm) hown (wks W (staticW "java/lang/String" 495 LChA.yN)) (wk W LChA.tab) (W := 0) (Nat.le_of_ble_eq_true rfl) (Nat.le_of_ble_eq_true rfl) (Nat.le_refl _) (Nat.le_refl _) (g := (mkF m 12 #[.val (.ref x), .val (.int (Int32.ofNat i))] [.int (Int32.ofNat i), .ref t])) rfl (by rw [hml]; rfl) c5 (argsL := [.ref t, .int (Int32.ofNat i)]) (rest := []) rfl rfl (by show 2 * 0 + 0 ≤ _; decide) (hb hbytes d12) (⟨rfl, hx.2.2.2.1.mv X4.warmed.alike hh4, (k2 i hi).1, s3.there X4.warmed.alike hh4, rf⟩)
    obtain ⟨rfl, q6⟩ := E6
    rw [chr8_lo8 hr.1 (k2 i hi).2] at g6
    exact ⟨T6, some (.int (f i)), _, _, _, X6, rfl, rfl, rfl, (fun h => by cases h), ⟨rfl, q6.trans hh4⟩, fun fs hl => Steps.trans g6 (X6.ireturnOut hexec hret (narrow_ch hr.1 hr.2) (Or.inr (Or.inr (Or.inr (Or.inl rfl)))) (hb hbytes d15) hl)⟩
  · exact absurd k0 (by decide)
theorem pays {l : Launch} {R : Room} {p : Program} {e : Env} {below : List Frame} {s : State} {sargs : Array Value} {len W : Nat} (x t : Addr) (V : Cell) (n : Nat) (f : Nat → Int32) (z : Int32) (fm : Value) (i : Nat) (htab : tab.before sargs s = true) (hfr : 4 ≤ R.frames) (hlo : W + 53 ≤ R.locals) :
    Back l R p e below s sargs yN len W (fun A₁ a₁ => A₁.cells + 0 ≤ R.cells ∧ A₁.slots + 0 ≤ R.slots ∧ P x t V n f z fm i a₁ A₁.U) (fun A₁ _ v₁ B₁ => E f i v₁ A₁.U B₁.U ∧ B₁.locs = A₁.locs ++ [] ∧ B₁.cells = A₁.cells + 0 ∧ B₁.slots = A₁.slots + 0) :=
  (law l x t V n f z fm i).pays htab hfr (by omega)
end ChN
end StrChars
namespace StrChars.Road
open Jvm Sem ClassFile Op Lib Jvm.Stand Jvm.Free Jvm.Free.XT
open Jvm.Lib.Cold (StaticIs)
/-- the words of String.charAt(int), the Latin-1 road alone -/
abbrev wordsChN : List Jvm.Cond := [.code ChN.yN ChN.yB 2 (some .char), .initialized ST, .fieldLink ST 9 ST "value" "[B", .fieldLink ST 38 ST "COMPACT_STRINGS" "Z", .fieldLink ST 15 ST "coder" "B", .code IsL.yN IsL.yB 1 (some .boolean), .methodLink ST 492 IsL.yN, .declares IsL.yN, .selects ST IsL.yN IsL.yN, .instanceMethod IsL.yN,
  .methodLink ST 495 LChA.yN, .static LChA.yN, .code LChA.yN LChA.yB 2 (some .char), .initialized "java/lang/StringLatin1", .methodLink "java/lang/StringLatin1" 9 JO.Str_checkIndex.yN, .static JO.Str_checkIndex.yN, .code JO.Str_checkIndex.yN JO.Str_checkIndex.yB 2 none,
  .fieldLink ST 1053 "jdk/internal/util/Preconditions" "SIOOBE_FORMATTER" "Ljava/util/function/BiFunction;", .methodLink ST 1059 JC.PreCheck.yN, .static JC.PreCheck.yN, .code JC.PreCheck.yN JC.PreCheck.yB 3 (some .int), .initialized "jdk/internal/util/Preconditions"]
theorem tabChN_of {a : Array Value} {s : State} (h : ∀ w ∈ wordsChN, w.before a s = true) : ChN.tab.before a s = true := by
  have hp : JC.PreCheck.tab.before a s = true := unparts (wk h (.code JC.PreCheck.yN JC.PreCheck.yB 3 (some .int))) (wks h (.initialized JC.PreCheck.yN.cls :: JC.PreCheck.site))
  have qk := consq hp h
  have hk : JO.Str_checkIndex.tab.before a s = true := unparts (wk qk (.code JO.Str_checkIndex.yN JO.Str_checkIndex.yB 2 none)) (wks qk (.initialized JO.Str_checkIndex.yN.cls :: JO.Str_checkIndex.site))
  have ql := consq hk h
  have hl : LChA.tab.before a s = true := unparts (wk ql (.code LChA.yN LChA.yB 2 (some .char))) (wks ql (.initialized LChA.yN.cls :: LChA.site))
  have hi : IsL.tab.before a s = true := unparts (wk h (.code IsL.yN IsL.yB 1 (some .boolean))) (wks h (.initialized IsL.yN.cls :: IsL.site))
  have q := consq hi (consq hl h)
  exact unparts (wk q (.code ChN.yN ChN.yB 2 (some .char))) (wks q (.initialized ChN.yN.cls :: ChN.site))
theorem movedChN {Z s : State} {a0 args : Array Value} (hZ : Z.Warmed39 s.vm) (hw : ∀ d ∈ wordsChN, d.before a0 Z = true) : ∀ d ∈ wordsChN, d.before args s = true := fun d hd => by
  have t : ∀ d ∈ wordsChN, (d.onTables && d.keepsFace) = true := by decide +kernel
  exact RoadKit.mv hZ (hw d hd) (t d hd)
/-- **charAt(i) OF A LATIN-1 STRING**, i < n: the char -/
theorem chN {p : Program} {l : Launch} {e : Env} {R : Room} {s : State} {args : Array Value} {below : List Frame} {len W : Nat} {Z : State} {a0 : Array Value} {h : Heap} (hZ : Z.Warmed39 s.vm) (hw : ∀ d ∈ wordsChN, d.before a0 Z = true) {kI : Nat} (wi : (Jvm.Cond.instantiable ST kI).before a0 Z = true)
    {x t : Addr} {kb : ClassId} {cs : List Int32} {N2 z : Int32} {vs : List Value} {fm : Value} {i : Nat} {j : Int32} (E : RoadKit.Exa Z h x ST) (V : RoadKit.Fld Z h x ST "value" "[B" (.ref t)) (C : RoadKit.Fld Z h x ST "coder" "B" (.int 0)) (K : RoadKit.Arv Z h t kb .byte N2 vs (.int 0)) (hc : CodA cs 0 N2 vs) (hb : ∀ c ∈ cs, ¬ c < 0 ∧ ¬ (65535 : Int32) < c)
    (S : RoadKit.Sta Z h ST "COMPACT_STRINGS" "Z" (.int z)) (hz : ¬ z = 0) (F : RoadKit.Sta Z h "jdk/internal/util/Preconditions" "SIOOBE_FORMATTER" "Ljava/util/function/BiFunction;" fm) (rf : fm.isRef = true) (l2 : cs.length ≤ 4000) (hi : i < cs.length) (hj : j = Int32.ofNat i) (hfr : 4 ≤ R.frames) (hlo : W + 53 ≤ R.locals) :
    Back l R p e below s args (⟨"java/lang/String", "charAt", "(I)C"⟩ : MethodName) len W (fun P a => a = #[.ref x, .int j] ∧ P.U.heap = h ∧ P.cells + 0 ≤ R.cells ∧ P.slots + 0 ≤ R.slots)
      (fun P _ v B => ∃ L, (v = some (.int (cs.getD i 0)) ∧ L = [] ∧ B.U.heap = h) ∧ B.locs = P.locs ++ L ∧ B.cells = P.cells + 0 ∧ B.slots = P.slots + 0) := by
  subst hj
  intro m meth c P g ig mk a X hg hsize hdg hW hn hp'
  obtain ⟨rfl, rfl, r1, r2⟩ := hp'
  have al : Z.vm.Alike P.U.vm := hZ.alike.trans X.warmed.alike
  obtain ⟨A, hx⟩ := txt_of wi al E V C K hc hb l2
  obtain ⟨v, B, X', ⟨⟨hv, hh⟩, hl, hk, hs⟩, st⟩ := ChN.pays x t A cs.length (fun j => cs.getD j 0) z fm i (tabChN_of (movedChN hZ hw)) hfr hlo m meth c P g ig mk _ X hg hsize hdg hW hn ⟨r1, r2, rfl, hx, hi, sta_is al S, hz, sta_is al F, rf⟩
  exact ⟨v, B, X', ⟨[], ⟨hv, rfl, hh⟩, hl, hk, hs⟩, st⟩
/-- what backV says of its String, as the contracts of this text ask it: cs's low bytes, coder 0 -/
theorem codOf {cs : List Int32} {n : Nat} (hn : cs.length = n) (hb : ∀ c ∈ cs, ¬ 255 < c) : CodA cs 0 (Int32.ofNat n) ((cs.map lo8).map Value.int) := Or.inl ⟨rfl, by rw [hn], by simp [List.map_map, Function.comp_def], hb⟩
end StrChars.Road
end Jvm.Pilot.@@N@@
namespace Jvm.Pilot.@@N@@
open Jvm Jvm.ClassFile Sem Op Lib Jvm.Free Jvm.Stand Jvm.LawKit Jvm.RoadKit Bundle Jvm.Pilot.@@N@@.Jvm.D
/-! the walk in continuation style: 'Go .. A': from A the run comes to its end, and P holds there -/
def Go (p : Program) (e : Env) (below : List Frame) (P : Outcome → State → Prop) (A : State) : Prop := ∃ s₂ o, Steps p.tables e below A s₂ ∧ s₂.status = .running ∧ Ended s₂ below o ∧ P o s₂
theorem Go.by {p : Program} {e : Env} {below : List Frame} {P : Outcome → State → Prop} {A B : State} (h : ∀ t, Steps p.tables e below B t → Steps p.tables e below A t) (k : Go p e below P B) : Go p e below P A := by
  obtain ⟨s2, o, h1, h2⟩ := k
  exact ⟨s2, o, h _ h1, h2⟩
def End (s : State) (Q : Option Value → Heap → List Loc → Prop) (k n : Nat) (o : Outcome) (U : State) : Prop := ∃ v L, o = .returned v ∧ Q v U.heap L ∧ FrameEnd s o U L k n
section Ends
variable {p : Program} {l : Launch} {e : Env} {R : Room} {s : State} {m : MethodId} {args : Array Value} {below : List Frame} {meth : Method} {c : Code} {T : State} {locs : List Loc} {cells slots : Nat} {Q : Option Value → Heap → List Loc → Prop} {C S : Nat}
theorem Go.fin (X : Stand p l e R s m args below meth c T locs cells slots) {A : State} {v : Option Value} (hv : meth.sig.returnType = none → v = none) (hlk : meth.locks = false) (hk : cells ≤ C) (hn : slots ≤ S) (hQ : Q v T.heap locs)
    (k : ∀ fs, (∀ (f : JFrame) (acts : List Action), f.method = m → f.locked = none → f.entered = [] → (doReturn e (T.setTop f) acts v).1 = T.setFrames fs) → Steps p.tables e below A (T.setFrames fs)) : Go p e below (End s Q C S) A := by
  obtain ⟨fs, hr, hrun, hended, hW, hsame⟩ := X.leave (v := v) hv hlk
  exact ⟨_, _, k fs hr, hrun, hended, _, _, rfl, hQ, ⟨_, rfl⟩, hW, hsame.mono hk hn⟩
theorem Go.retZ (X : Stand p l e R s m args below meth c T locs cells slots) (hx : p.tables.exec = Jvm.exec) {pc : Nat} {Ls : Array Slot} {z : Int32} {t : FieldType} {rest : List Value} (hret : meth.sig.returnType = some t) (ht : t = .boolean ∨ t = .byte ∨ t = .char ∨ t = .short) (hlk : meth.locks = false)
    (hd : decode c.code pc = .ok (.ireturn, 1)) (hk : cells ≤ C) (hn : slots ≤ S) (hQ : Q (some (.int (nar t z))) T.heap locs) : Go p e below (End s Q C S) (T.setTop (mkF m pc Ls (.int z :: rest))) :=
  Go.fin X (fun h => by rw [hret] at h; cases h) hlk hk hn hQ fun fs hr => retN X hx hret ht hd hr
theorem Go.retI (X : Stand p l e R s m args below meth c T locs cells slots) (hx : p.tables.exec = Jvm.exec) {pc : Nat} {Ls : Array Slot} {z : Int32} {rest : List Value} (hret : meth.sig.returnType = some .int) (hlk : meth.locks = false)
    (hd : decode c.code pc = .ok (.ireturn, 1)) (hk : cells ≤ C) (hn : slots ≤ S) (hQ : Q (some (.int z)) T.heap locs) : Go p e below (End s Q C S) (T.setTop (mkF m pc Ls (.int z :: rest))) :=
  Go.fin X (fun h => by rw [hret] at h; cases h) hlk hk hn hQ fun fs hr => retOut X hx hret rfl (Or.inl ⟨rfl, Or.inl rfl, _, rfl⟩) hd hr
theorem Go.retR (X : Stand p l e R s m args below meth c T locs cells slots) (hx : p.tables.exec = Jvm.exec) {pc : Nat} {Ls : Array Slot} {w : Value} {t : FieldType} {rest : List Value} (hret : meth.sig.returnType = some t) (ht : t.isReference = true) (hw : w.isRef = true) (hlk : meth.locks = false)
    (hd : decode c.code pc = .ok (.areturn, 1)) (hk : cells ≤ C) (hn : slots ≤ S) (hQ : Q (some w) T.heap locs) : Go p e below (End s Q C S) (T.setTop (mkF m pc Ls (w :: rest))) :=
  Go.fin X (fun h => by rw [hret] at h; cases h) hlk hk hn hQ fun fs hr => retOut X hx hret (by cases t <;> cases w <;> first | rfl | (simp [FieldType.isReference] at ht) | (simp [Value.isRef] at hw)) (Or.inr (Or.inr (Or.inr (Or.inr ⟨rfl, ht, hw⟩)))) hd hr
theorem Go.retV (X : Stand p l e R s m args below meth c T locs cells slots) (hx : p.tables.exec = Jvm.exec) {pc : Nat} {Ls : Array Slot} (hret : meth.sig.returnType = none) (hlk : meth.locks = false)
    (hd : decode c.code pc = .ok (.return_, 1)) (hk : cells ≤ C) (hn : slots ≤ S) (hQ : Q none T.heap locs) : Go p e below (End s Q C S) (T.setTop (mkF m pc Ls [])) :=
  Go.fin X (fun _ => rfl) hlk hk hn hQ fun fs hr => X.returnOut hx hret hd hr
theorem own_iinc {tb : Tables} [Ours tb] {e : Env} {below : List Frame} {T target : State} {m : MethodId} {c : Code} {g : JFrame} (h : At T m c below) (hx : tb.exec = Jvm.exec) (hg : g.method = m) {k : Nat} {cst : Int} {x z : Int32} {l' : Array Slot} (hd : decode c.code g.pc = .ok (.iinc k cst, 3)) (hl : g.locals[k]? = some (.val (.int x))) (hz : Int32.ofInt cst = z) (hl' : storeLocals g.locals k (.int (x + z)) = some l')
    (hr : Steps tb e below (T.setTop { g with pc := g.pc + 3, locals := l' }) target) : Steps tb e below (T.setTop g) target := XS.iinc h hx hg hd hl (by rw [hz]; exact hl') hr
theorem own_eqi {t : Term} {n : Int32} {args : Array Value} {s : State} (h : (Cond.eq t (.int n)).before args s = true) : t.eval args s none [] s = some (.int n) := Cond.eq_int h (Term.int_eval n)
theorem own_n1 : nar .boolean (1 : Int32) = 1 := rfl
theorem own_n0 : nar .boolean (0 : Int32) = 0 := rfl
theorem own_wid (X : Stand p l e R s m args below meth c T locs cells slots) (hk : cells ≤ C) (hn : slots ≤ S) : Stand p l e R s m args below meth c T locs C S :=
  ⟨X.admits, X.cas, X.clock, X.frames, X.room, X.hears, X.method, X.code, X.here, X.tail, X.warmed, X.limits, X.bytes, X.same.mono hk hn⟩
end Ends
def Glob (Z : State) (zC : Int32) (fmV : Value) : Prop := Sta Z Z.heap "java/lang/String" "COMPACT_STRINGS" "Z" (.int zC) ∧ Sta Z Z.heap "jdk/internal/util/Preconditions" "SIOOBE_FORMATTER" "Ljava/util/function/BiFunction;" fmV ∧ ¬ zC = 0 ∧ fmV.isRef = true
theorem own_narc (y : Int32) : nar .char (y.toUInt32.toUInt16.toUInt32.toInt32) = y.toUInt32.toUInt16.toUInt32.toInt32 := by simp only [nar, UInt32.toUInt32_toInt32, UInt16.toUInt16_toUInt32]
theorem own_chr (z : Int32) : ¬ (z &&& (255 : Int32)).toUInt32.toUInt16.toUInt32.toInt32 < 0 ∧ ¬ (255 : Int32) < (z &&& (255 : Int32)).toUInt32.toUInt16.toUInt32.toInt32 := by
  have h1 := c_i2c (z &&& (255 : Int32))
  have h2 := c_and z 255 (by decide)
  have k1 : (255 : Int32).toInt = 255 := rfl
  have k0 : (0 : Int32).toInt = 0 := rfl
  rw [Int32.lt_iff_toInt_lt, Int32.lt_iff_toInt_lt]
  omega
theorem own_up (cs : List Int32) (h : ∀ c ∈ cs, ¬ c < 0 ∧ ¬ (255 : Int32) < c) : ∀ c ∈ cs, ¬ c < 0 ∧ ¬ (65535 : Int32) < c := fun c hc => ⟨(h c hc).1, fun q => (h c hc).2 (by rw [Int32.lt_iff_toInt_lt] at q ⊢; have e1 : (65535 : Int32).toInt = 65535 := rfl; have e2 : (255 : Int32).toInt = 255 := rfl; omega)⟩
theorem own_words {Z : State} {a0 : Array Value} (hw : ∀ d ∈ tables_1, d.before a0 Z = true) : ∀ d ∈ StrChars.Road.words, d.before a0 Z = true := fun d hd => hw d ((by decide +kernel : ∀ d ∈ StrChars.Road.words, d ∈ tables_1) d hd)
theorem own_wordsCh {Z : State} {a0 : Array Value} (hw : ∀ d ∈ tables_1, d.before a0 Z = true) : ∀ d ∈ StrChars.Road.wordsChN, d.before a0 Z = true := fun d hd => hw d ((by decide +kernel : ∀ d ∈ StrChars.Road.wordsChN, d ∈ tables_1) d hd)
theorem own_lt3 (i : Int32) (h : 0 ≤ i.toInt ∧ i.toInt < 3) : i = 0 ∨ i = 1 ∨ i = 2 := by
  have q : i.toInt = 0 ∨ i.toInt = 1 ∨ i.toInt = 2 := by omega
  rcases q with q | q | q
  · exact Or.inl (Int32.toInt_inj.mp q)
  · exact Or.inr (Or.inl (Int32.toInt_inj.mp q))
  · exact Or.inr (Or.inr (Int32.toInt_inj.mp q))
def frS (cs ws : List Int32) (s e : Nat) : Nat → Int32
  | 0 => 0
  | k + 1 => (ws.getD ((e - 1 - (s + k)) % ws.length) 0) * (cs.getD (s + k) 0 - (48 : Int32)) + frS cs ws s e k
def tm (c k s e wl w0 w1 w2 : Int32) : Int32 := if k < s then 0 else if k < e then (if wl = 1 then w0 else if wl = 2 then (if ((e - (1 : Int32)) - k) = 0 then w0 else if ((e - (1 : Int32)) - k) = 2 then w0 else w1) else (if ((e - (1 : Int32)) - k) = 0 then w0 else if ((e - (1 : Int32)) - k) = 3 then w0 else if ((e - (1 : Int32)) - k) = 1 then w1 else w2)) * (c - (48 : Int32)) else 0
theorem own_get (ws : List Int32) (n : Nat) : (ws.map Value.int).getD n (.int (0 : Int32)) = .int (ws.getD n 0) := by
  simp only [List.getD_eq_getElem?_getD, List.getElem?_map]
  cases ws[n]? <;> rfl
theorem own_idx (e i n : Int32) (eN x m : Nat) (he : e.toInt = (eN : Int)) (hi : i.toInt = (x : Int)) (h1 : x + 1 ≤ eN) (h2 : eN ≤ 4) (hn : n.toInt = (m : Int)) (hm : 0 < m) : (((e - (1 : Int32)) - i) % n).toInt = (((eN - 1 - x) % m : Nat) : Int) := by
  have q1 := c_isub e 1
  have q2 := rng32 (e - 1)
  have l1 : (1 : Int32).toInt = 1 := rfl
  have q3 := c_isub (e - 1) i
  have q4 := rng32 ((e - 1) - i)
  have q5 : ((e - (1 : Int32)) - i).toInt = ((eN - 1 - x : Nat) : Int) := by omega
  rw [(c_irem ((e - (1 : Int32)) - i) n (m : Int) hn).1 (by omega), q5]
  exact (Int.natCast_emod _ _).symm
theorem own_dec (i : Int32) (sN k : Nat) (eN : Nat) (h4 : eN ≤ 4) (hi : i.toInt = (sN : Int) + ((k + 1 : Nat) : Int) - 1) (hk : sN + (k + 1) ≤ eN) : (i + (-1 : Int32)).toInt = (sN : Int) + (k : Int) - 1 := by
  have q := c_iadd i (-1)
  have q1 := rng32 (i + (-1))
  have l1 : (-1 : Int32).toInt = -1 := by decide
  omega
theorem own_s7 (x : Int32) : 0 ≤ ((x &&& (7 : Int32)) % (5 : Int32)).toInt ∧ ((x &&& (7 : Int32)) % (5 : Int32)).toInt ≤ 4 := by
  have h1 := c_and x 7 (by decide)
  have h2 := (c_irem (x &&& (7 : Int32)) 5 5 rfl).1 h1.1
  omega
theorem own_e8 (x s : Int32) (h : 0 ≤ s.toInt ∧ s.toInt ≤ 4) : s.toInt ≤ (s + (((x).toUInt32 >>> ((3 : Int32) &&& 31).toUInt32).toInt32 &&& (7 : Int32)) % ((5 : Int32) - s)).toInt ∧ (s + (((x).toUInt32 >>> ((3 : Int32) &&& 31).toUInt32).toInt32 &&& (7 : Int32)) % ((5 : Int32) - s)).toInt ≤ 4 := by
  have h1 := c_and ((x).toUInt32 >>> ((3 : Int32) &&& 31).toUInt32).toInt32 7 (by decide)
  generalize ((x).toUInt32 >>> ((3 : Int32) &&& 31).toUInt32).toInt32 &&& (7 : Int32) = y at *
  have h2 := c_isub 5 s
  have h3 := rng32 (5 - s)
  have l5 : (5 : Int32).toInt = 5 := rfl
  have h4 := (c_iremV y (5 - s)).1 h1.1 (by omega)
  have h5 := c_iadd s (y % ((5 : Int32) - s))
  have h6 := rng32 (s + y % ((5 : Int32) - s))
  omega
theorem own_wl (x : Int32) : ((1 : Int32) + (((x).toUInt32 >>> ((6 : Int32) &&& 31).toUInt32).toInt32 &&& (3 : Int32)) % (3 : Int32)) = 1 ∨ ((1 : Int32) + (((x).toUInt32 >>> ((6 : Int32) &&& 31).toUInt32).toInt32 &&& (3 : Int32)) % (3 : Int32)) = 2 ∨ ((1 : Int32) + (((x).toUInt32 >>> ((6 : Int32) &&& 31).toUInt32).toInt32 &&& (3 : Int32)) % (3 : Int32)) = 3 := by
  have h1 := c_and ((x).toUInt32 >>> ((6 : Int32) &&& 31).toUInt32).toInt32 3 (by decide)
  generalize ((x).toUInt32 >>> ((6 : Int32) &&& 31).toUInt32).toInt32 &&& (3 : Int32) = y at *
  have h2 := (c_irem y 3 3 rfl).1 h1.1
  rcases own_lt3 (y % 3) (by omega) with h | h | h
  · exact Or.inl (by rw [h]; rfl)
  · exact Or.inr (Or.inl (by rw [h]; rfl))
  · exact Or.inr (Or.inr (by rw [h]; rfl))
theorem own_cases (s e : Int32) (sN eN : Nat) (hs : s.toInt = (sN : Int)) (he : e.toInt = (eN : Int)) (h1 : sN ≤ eN) (h2 : eN ≤ 4) {P : Int32 → Int32 → Nat → Nat → Prop}
    (k00 : P 0 0 0 0) (k01 : P 0 1 0 1) (k02 : P 0 2 0 2) (k03 : P 0 3 0 3) (k04 : P 0 4 0 4) (k11 : P 1 1 1 1) (k12 : P 1 2 1 2) (k13 : P 1 3 1 3) (k14 : P 1 4 1 4) (k22 : P 2 2 2 2) (k23 : P 2 3 2 3) (k24 : P 2 4 2 4) (k33 : P 3 3 3 3) (k34 : P 3 4 3 4) (k44 : P 4 4 4 4) : P s e sN eN := by
  rcases (show sN = 0 ∨ sN = 1 ∨ sN = 2 ∨ sN = 3 ∨ sN = 4 by omega) with rfl | rfl | rfl | rfl | rfl
  · obtain rfl : s = 0 := Int32.toInt_inj.mp hs
    rcases (show eN = 0 ∨ eN = 1 ∨ eN = 2 ∨ eN = 3 ∨ eN = 4 by omega) with rfl | rfl | rfl | rfl | rfl
    · obtain rfl : e = 0 := Int32.toInt_inj.mp he
      exact k00
    · obtain rfl : e = 1 := Int32.toInt_inj.mp he
      exact k01
    · obtain rfl : e = 2 := Int32.toInt_inj.mp he
      exact k02
    · obtain rfl : e = 3 := Int32.toInt_inj.mp he
      exact k03
    · obtain rfl : e = 4 := Int32.toInt_inj.mp he
      exact k04
  · obtain rfl : s = 1 := Int32.toInt_inj.mp hs
    rcases (show eN = 0 ∨ eN = 1 ∨ eN = 2 ∨ eN = 3 ∨ eN = 4 by omega) with rfl | rfl | rfl | rfl | rfl
    · exact absurd h1 (by decide)
    · obtain rfl : e = 1 := Int32.toInt_inj.mp he
      exact k11
    · obtain rfl : e = 2 := Int32.toInt_inj.mp he
      exact k12
    · obtain rfl : e = 3 := Int32.toInt_inj.mp he
      exact k13
    · obtain rfl : e = 4 := Int32.toInt_inj.mp he
      exact k14
  · obtain rfl : s = 2 := Int32.toInt_inj.mp hs
    rcases (show eN = 0 ∨ eN = 1 ∨ eN = 2 ∨ eN = 3 ∨ eN = 4 by omega) with rfl | rfl | rfl | rfl | rfl
    · exact absurd h1 (by decide)
    · exact absurd h1 (by decide)
    · obtain rfl : e = 2 := Int32.toInt_inj.mp he
      exact k22
    · obtain rfl : e = 3 := Int32.toInt_inj.mp he
      exact k23
    · obtain rfl : e = 4 := Int32.toInt_inj.mp he
      exact k24
  · obtain rfl : s = 3 := Int32.toInt_inj.mp hs
    rcases (show eN = 0 ∨ eN = 1 ∨ eN = 2 ∨ eN = 3 ∨ eN = 4 by omega) with rfl | rfl | rfl | rfl | rfl
    · exact absurd h1 (by decide)
    · exact absurd h1 (by decide)
    · exact absurd h1 (by decide)
    · obtain rfl : e = 3 := Int32.toInt_inj.mp he
      exact k33
    · obtain rfl : e = 4 := Int32.toInt_inj.mp he
      exact k34
  · obtain rfl : s = 4 := Int32.toInt_inj.mp hs
    rcases (show eN = 0 ∨ eN = 1 ∨ eN = 2 ∨ eN = 3 ∨ eN = 4 by omega) with rfl | rfl | rfl | rfl | rfl
    · exact absurd h1 (by decide)
    · exact absurd h1 (by decide)
    · exact absurd h1 (by decide)
    · exact absurd h1 (by decide)
    · obtain rfl : e = 4 := Int32.toInt_inj.mp he
      exact k44
theorem own_fin1 (c0 c1 c2 c3 w0 w1 w2 s e : Int32) (sN eN : Nat) (hs : s.toInt = (sN : Int)) (he : e.toInt = (eN : Int)) (h1 : sN ≤ eN) (h2 : eN ≤ 4) :
    frS [c0, c1, c2, c3] [w0] sN eN (eN - sN) = (((tm c0 0 s e 1 w0 w1 w2) + (tm c1 1 s e 1 w0 w1 w2)) + (tm c2 2 s e 1 w0 w1 w2)) + (tm c3 3 s e 1 w0 w1 w2) := by
  refine own_cases s e sN eN hs he h1 h2 (P := fun s e sN eN => frS [c0, c1, c2, c3] [w0] sN eN (eN - sN) = (((tm c0 0 s e 1 w0 w1 w2) + (tm c1 1 s e 1 w0 w1 w2)) + (tm c2 2 s e 1 w0 w1 w2)) + (tm c3 3 s e 1 w0 w1 w2))
    (show frS [c0, c1, c2, c3] [w0] 0 0 0 = _ by first | (simp [frS, tm]; done) | (simp [frS, tm]; ac_rfl))
    (show frS [c0, c1, c2, c3] [w0] 0 1 1 = _ by first | (simp [frS, tm]; done) | (simp [frS, tm]; ac_rfl))
    (show frS [c0, c1, c2, c3] [w0] 0 2 2 = _ by first | (simp [frS, tm]; done) | (simp [frS, tm]; ac_rfl))
    (show frS [c0, c1, c2, c3] [w0] 0 3 3 = _ by first | (simp [frS, tm]; done) | (simp [frS, tm]; ac_rfl))
    (show frS [c0, c1, c2, c3] [w0] 0 4 4 = _ by first | (simp [frS, tm]; done) | (simp [frS, tm]; ac_rfl))
    (show frS [c0, c1, c2, c3] [w0] 1 1 0 = _ by first | (simp [frS, tm]; done) | (simp [frS, tm]; ac_rfl))
    (show frS [c0, c1, c2, c3] [w0] 1 2 1 = _ by first | (simp [frS, tm]; done) | (simp [frS, tm]; ac_rfl))
    (show frS [c0, c1, c2, c3] [w0] 1 3 2 = _ by first | (simp [frS, tm]; done) | (simp [frS, tm]; ac_rfl))
    (show frS [c0, c1, c2, c3] [w0] 1 4 3 = _ by first | (simp [frS, tm]; done) | (simp [frS, tm]; ac_rfl))
    (show frS [c0, c1, c2, c3] [w0] 2 2 0 = _ by first | (simp [frS, tm]; done) | (simp [frS, tm]; ac_rfl))
    (show frS [c0, c1, c2, c3] [w0] 2 3 1 = _ by first | (simp [frS, tm]; done) | (simp [frS, tm]; ac_rfl))
    (show frS [c0, c1, c2, c3] [w0] 2 4 2 = _ by first | (simp [frS, tm]; done) | (simp [frS, tm]; ac_rfl))
    (show frS [c0, c1, c2, c3] [w0] 3 3 0 = _ by first | (simp [frS, tm]; done) | (simp [frS, tm]; ac_rfl))
    (show frS [c0, c1, c2, c3] [w0] 3 4 1 = _ by first | (simp [frS, tm]; done) | (simp [frS, tm]; ac_rfl))
    (show frS [c0, c1, c2, c3] [w0] 4 4 0 = _ by first | (simp [frS, tm]; done) | (simp [frS, tm]; ac_rfl))
theorem own_fin2 (c0 c1 c2 c3 w0 w1 w2 s e : Int32) (sN eN : Nat) (hs : s.toInt = (sN : Int)) (he : e.toInt = (eN : Int)) (h1 : sN ≤ eN) (h2 : eN ≤ 4) :
    frS [c0, c1, c2, c3] [w0, w1] sN eN (eN - sN) = (((tm c0 0 s e 2 w0 w1 w2) + (tm c1 1 s e 2 w0 w1 w2)) + (tm c2 2 s e 2 w0 w1 w2)) + (tm c3 3 s e 2 w0 w1 w2) := by
  refine own_cases s e sN eN hs he h1 h2 (P := fun s e sN eN => frS [c0, c1, c2, c3] [w0, w1] sN eN (eN - sN) = (((tm c0 0 s e 2 w0 w1 w2) + (tm c1 1 s e 2 w0 w1 w2)) + (tm c2 2 s e 2 w0 w1 w2)) + (tm c3 3 s e 2 w0 w1 w2))
    (show frS [c0, c1, c2, c3] [w0, w1] 0 0 0 = _ by first | (simp [frS, tm]; done) | (simp [frS, tm]; ac_rfl))
    (show frS [c0, c1, c2, c3] [w0, w1] 0 1 1 = _ by first | (simp [frS, tm]; done) | (simp [frS, tm]; ac_rfl))
    (show frS [c0, c1, c2, c3] [w0, w1] 0 2 2 = _ by first | (simp [frS, tm]; done) | (simp [frS, tm]; ac_rfl))
    (show frS [c0, c1, c2, c3] [w0, w1] 0 3 3 = _ by first | (simp [frS, tm]; done) | (simp [frS, tm]; ac_rfl))
    (show frS [c0, c1, c2, c3] [w0, w1] 0 4 4 = _ by first | (simp [frS, tm]; done) | (simp [frS, tm]; ac_rfl))
    (show frS [c0, c1, c2, c3] [w0, w1] 1 1 0 = _ by first | (simp [frS, tm]; done) | (simp [frS, tm]; ac_rfl))
    (show frS [c0, c1, c2, c3] [w0, w1] 1 2 1 = _ by first | (simp [frS, tm]; done) | (simp [frS, tm]; ac_rfl))
    (show frS [c0, c1, c2, c3] [w0, w1] 1 3 2 = _ by first | (simp [frS, tm]; done) | (simp [frS, tm]; ac_rfl))
    (show frS [c0, c1, c2, c3] [w0, w1] 1 4 3 = _ by first | (simp [frS, tm]; done) | (simp [frS, tm]; ac_rfl))
    (show frS [c0, c1, c2, c3] [w0, w1] 2 2 0 = _ by first | (simp [frS, tm]; done) | (simp [frS, tm]; ac_rfl))
    (show frS [c0, c1, c2, c3] [w0, w1] 2 3 1 = _ by first | (simp [frS, tm]; done) | (simp [frS, tm]; ac_rfl))
    (show frS [c0, c1, c2, c3] [w0, w1] 2 4 2 = _ by first | (simp [frS, tm]; done) | (simp [frS, tm]; ac_rfl))
    (show frS [c0, c1, c2, c3] [w0, w1] 3 3 0 = _ by first | (simp [frS, tm]; done) | (simp [frS, tm]; ac_rfl))
    (show frS [c0, c1, c2, c3] [w0, w1] 3 4 1 = _ by first | (simp [frS, tm]; done) | (simp [frS, tm]; ac_rfl))
    (show frS [c0, c1, c2, c3] [w0, w1] 4 4 0 = _ by first | (simp [frS, tm]; done) | (simp [frS, tm]; ac_rfl))
theorem own_fin3 (c0 c1 c2 c3 w0 w1 w2 s e : Int32) (sN eN : Nat) (hs : s.toInt = (sN : Int)) (he : e.toInt = (eN : Int)) (h1 : sN ≤ eN) (h2 : eN ≤ 4) :
    frS [c0, c1, c2, c3] [w0, w1, w2] sN eN (eN - sN) = (((tm c0 0 s e 3 w0 w1 w2) + (tm c1 1 s e 3 w0 w1 w2)) + (tm c2 2 s e 3 w0 w1 w2)) + (tm c3 3 s e 3 w0 w1 w2) := by
  refine own_cases s e sN eN hs he h1 h2 (P := fun s e sN eN => frS [c0, c1, c2, c3] [w0, w1, w2] sN eN (eN - sN) = (((tm c0 0 s e 3 w0 w1 w2) + (tm c1 1 s e 3 w0 w1 w2)) + (tm c2 2 s e 3 w0 w1 w2)) + (tm c3 3 s e 3 w0 w1 w2))
    (show frS [c0, c1, c2, c3] [w0, w1, w2] 0 0 0 = _ by first | (simp [frS, tm]; done) | (simp [frS, tm]; ac_rfl))
    (show frS [c0, c1, c2, c3] [w0, w1, w2] 0 1 1 = _ by first | (simp [frS, tm]; done) | (simp [frS, tm]; ac_rfl))
    (show frS [c0, c1, c2, c3] [w0, w1, w2] 0 2 2 = _ by first | (simp [frS, tm]; done) | (simp [frS, tm]; ac_rfl))
    (show frS [c0, c1, c2, c3] [w0, w1, w2] 0 3 3 = _ by first | (simp [frS, tm]; done) | (simp [frS, tm]; ac_rfl))
    (show frS [c0, c1, c2, c3] [w0, w1, w2] 0 4 4 = _ by first | (simp [frS, tm]; done) | (simp [frS, tm]; ac_rfl))
    (show frS [c0, c1, c2, c3] [w0, w1, w2] 1 1 0 = _ by first | (simp [frS, tm]; done) | (simp [frS, tm]; ac_rfl))
    (show frS [c0, c1, c2, c3] [w0, w1, w2] 1 2 1 = _ by first | (simp [frS, tm]; done) | (simp [frS, tm]; ac_rfl))
    (show frS [c0, c1, c2, c3] [w0, w1, w2] 1 3 2 = _ by first | (simp [frS, tm]; done) | (simp [frS, tm]; ac_rfl))
    (show frS [c0, c1, c2, c3] [w0, w1, w2] 1 4 3 = _ by first | (simp [frS, tm]; done) | (simp [frS, tm]; ac_rfl))
    (show frS [c0, c1, c2, c3] [w0, w1, w2] 2 2 0 = _ by first | (simp [frS, tm]; done) | (simp [frS, tm]; ac_rfl))
    (show frS [c0, c1, c2, c3] [w0, w1, w2] 2 3 1 = _ by first | (simp [frS, tm]; done) | (simp [frS, tm]; ac_rfl))
    (show frS [c0, c1, c2, c3] [w0, w1, w2] 2 4 2 = _ by first | (simp [frS, tm]; done) | (simp [frS, tm]; ac_rfl))
    (show frS [c0, c1, c2, c3] [w0, w1, w2] 3 3 0 = _ by first | (simp [frS, tm]; done) | (simp [frS, tm]; ac_rfl))
    (show frS [c0, c1, c2, c3] [w0, w1, w2] 3 4 1 = _ by first | (simp [frS, tm]; done) | (simp [frS, tm]; ac_rfl))
    (show frS [c0, c1, c2, c3] [w0, w1, w2] 4 4 0 = _ by first | (simp [frS, tm]; done) | (simp [frS, tm]; ac_rfl))
theorem pd_0 : parseMethodDescriptor "(I)C" = some ⟨[.int], some .char⟩ := by decide +kernel
theorem pn_0 : plainName "com/example/kontoform/kontoform/WeightedSums" = true := by first | (simp [plainName, overriddenIn]; done) | decide +kernel
theorem pn_1 : plainName "com/example/kontoform/kontoform/WeightedSumsFromRightPinLaw" = true := by first | (simp [plainName, overriddenIn]; done) | decide +kernel
theorem pd_1 : parseMethodDescriptor "([C)V" = some ⟨[(.array .char)], none⟩ := by decide +kernel
theorem pd_2 : parseMethodDescriptor "(Ljava/lang/String;II[I)I" = some ⟨[(.object "java/lang/String"), .int, .int, (.array .int)], some .int⟩ := by decide +kernel
theorem pd_3 : parseMethodDescriptor "(CIIIIIII)I" = some ⟨[.char, .int, .int, .int, .int, .int, .int, .int], some .int⟩ := by decide +kernel
theorem d7_0 : decode prog_35_method_3_code 0 = .ok (.iconst 0, 1) := by decide +kernel
theorem d7_1 : decode prog_35_method_3_code 1 = .ok (.istore 4, 2) := by decide +kernel
theorem d7_3 : decode prog_35_method_3_code 3 = .ok (.iload_n 2, 1) := by decide +kernel
theorem d7_4 : decode prog_35_method_3_code 4 = .ok (.iconst 1, 1) := by decide +kernel
theorem d7_5 : decode prog_35_method_3_code 5 = .ok (.isub, 1) := by decide +kernel
theorem d7_6 : decode prog_35_method_3_code 6 = .ok (.istore 5, 2) := by decide +kernel
theorem d7_8 : decode prog_35_method_3_code 8 = .ok (.iload 5, 2) := by decide +kernel
theorem d7_10 : decode prog_35_method_3_code 10 = .ok (.iload_n 1, 1) := by decide +kernel
theorem d7_11 : decode prog_35_method_3_code 11 = .ok (.if_icmp .lt 35, 3) := by decide +kernel
theorem d7_14 : decode prog_35_method_3_code 14 = .ok (.iload 4, 2) := by decide +kernel
theorem d7_16 : decode prog_35_method_3_code 16 = .ok (.aload_n 3, 1) := by decide +kernel
theorem d7_17 : decode prog_35_method_3_code 17 = .ok (.iload_n 2, 1) := by decide +kernel
theorem d7_18 : decode prog_35_method_3_code 18 = .ok (.iconst 1, 1) := by decide +kernel
theorem d7_19 : decode prog_35_method_3_code 19 = .ok (.isub, 1) := by decide +kernel
theorem d7_20 : decode prog_35_method_3_code 20 = .ok (.iload 5, 2) := by decide +kernel
theorem d7_22 : decode prog_35_method_3_code 22 = .ok (.isub, 1) := by decide +kernel
theorem d7_23 : decode prog_35_method_3_code 23 = .ok (.aload_n 3, 1) := by decide +kernel
theorem d7_24 : decode prog_35_method_3_code 24 = .ok (.arraylength, 1) := by decide +kernel
theorem d7_25 : decode prog_35_method_3_code 25 = .ok (.irem, 1) := by decide +kernel
theorem d7_26 : decode prog_35_method_3_code 26 = .ok (.iaload, 1) := by decide +kernel
theorem d7_27 : decode prog_35_method_3_code 27 = .ok (.aload_n 0, 1) := by decide +kernel
theorem d7_28 : decode prog_35_method_3_code 28 = .ok (.iload 5, 2) := by decide +kernel
theorem d7_30 : decode prog_35_method_3_code 30 = .ok (.invokevirtual 7, 3) := by decide +kernel
theorem d7_33 : decode prog_35_method_3_code 33 = .ok (.bipush 48, 2) := by decide +kernel
theorem d7_35 : decode prog_35_method_3_code 35 = .ok (.isub, 1) := by decide +kernel
theorem d7_36 : decode prog_35_method_3_code 36 = .ok (.imul, 1) := by decide +kernel
theorem d7_37 : decode prog_35_method_3_code 37 = .ok (.iadd, 1) := by decide +kernel
theorem d7_38 : decode prog_35_method_3_code 38 = .ok (.istore 4, 2) := by decide +kernel
theorem d7_40 : decode prog_35_method_3_code 40 = .ok (.iinc 5 (-1), 3) := by decide +kernel
theorem d7_43 : decode prog_35_method_3_code 43 = .ok (.goto (-35), 3) := by decide +kernel
theorem d7_46 : decode prog_35_method_3_code 46 = .ok (.iload 4, 2) := by decide +kernel
theorem d7_48 : decode prog_35_method_3_code 48 = .ok (.ireturn, 1) := by decide +kernel
theorem ef_fr (m : MethodId) (x0 : Addr) (x1 : Int32) (x2 : Int32) (x3 : Addr) : entryFrame m #[(.ref x0), (.int x1), (.int x2), (.ref x3)] 6 = mkF m 0 #[.val (.ref x0), .val (.int x1), .val (.int x2), .val (.ref x3), .unset, .unset] [] := by first | (simp [entryFrame, mkF, argsToLocals, Value.category]; done) | rfl
def Q_fr (Z : State) (zC : Int32) (fmV : Value) (a0s : Addr) (p1 : Int32) (p2 : Int32) (a3 : Addr) (t : Addr) (kb : ClassId) (kW : ClassId) (nW : Int32) (c0 : Int32) (c1 : Int32) (c2 : Int32) (c3 : Int32) (wts : List Int32) (sN : Nat) (eN : Nat) (h0 : Heap) (n0 : Nat) (v : Option Value) (h : Heap) (L : List Loc) : Prop := v = some (.int (frS ([c0, c1, c2, c3] : List Int32) wts sN eN (eN - sN))) ∧ Fr n0 L ∧ h = h0
set_option maxRecDepth 65536 in
set_option maxHeartbeats 40000000 in
theorem rm_fr (l : Launch) (Z : State) (a0 : Array Value) (hw : ∀ d ∈ tables_1, d.before a0 Z = true) (ws : List Jvm.Cond) (zC : Int32) (fmV : Value) (hG : Glob Z zC fmV) (a0s : Addr) (p1 : Int32) (p2 : Int32) (a3 : Addr) (t : Addr) (kb : ClassId) (kW : ClassId) (nW : Int32) (c0 : Int32) (c1 : Int32) (c2 : Int32) (c3 : Int32) (wts : List Int32) (sN : Nat) (eN : Nat) (h0 : Heap) (n0 : Nat) (Z0 : n0 ≤ h0.size) (O0 : Old Z n0 h0) (P0 : Exa Z h0 a0s "java/lang/String") (P1 : Fld Z h0 a0s "java/lang/String" "value" "[B" (.ref t)) (P2 : Fld Z h0 a0s "java/lang/String" "coder" "B" (.int (0 : Int32))) (P3 : Arv Z h0 t kb .byte (4 : Int32) ((([c0, c1, c2, c3] : List Int32).map (fun c => c.toInt8.toInt32)).map Value.int) (.int (0 : Int32))) (P4 : Arv Z h0 a3 kW .int nW (wts.map Value.int) (.int (0 : Int32))) (hp : ∀ c ∈ ([c0, c1, c2, c3] : List Int32), ¬ c < 0 ∧ ¬ (255 : Int32) < c) (hs : p1.toInt = (sN : Int)) (he : p2.toInt = (eN : Int)) (h1 : sN ≤ eN) (h2 : eN ≤ 4) (hn : nW.toInt = (wts.length : Int)) (hn0 : 0 < wts.length) :
    MetFree l (⟨"com/example/kontoform/kontoform/WeightedSums", "fromRight", "(Ljava/lang/String;II[I)I"⟩ : MethodName) (head1 (Jvm.Cond.code (⟨"com/example/kontoform/kontoform/WeightedSums", "fromRight", "(Ljava/lang/String;II[I)I"⟩ : MethodName) prog_35_method_3_code 6 (some .int) :: ws) ({ frames := 4, cells := 0, slots := 0, locals := 55 } : Room)) (fun a U => a = #[(.ref a0s), (.int p1), (.int p2), (.ref a3)] ∧ Z.Warmed39 U.vm ∧ U.heap = h0) (fun _ _ _ _ _ => True) (fun _ U o U' => ∃ v L, o = .returned v ∧ Q_fr Z zC fmV a0s p1 p2 a3 t kb kW nW c0 c1 c2 c3 wts sN eN h0 n0 v U'.heap L ∧ FrameEnd U o U' L ({ frames := 4, cells := 0, slots := 0, locals := 55 } : Room).cells ({ frames := 4, cells := 0, slots := 0, locals := 55 } : Room).slots) := by
  refine MetFree.of_bodySF (plainFor_of_name pn_0) hisR ?_
  intro p e s m args below meth c s₁ Bd hml0 hP hK
  obtain ⟨rfl, hZ, hh⟩ := hP
  have hx := Bd.exec
  have hby := Bd.bytes
  have hml : c.maxLocals = 6 := hml0
  have hown : s.vm.findClass "com/example/kontoform/kontoform/WeightedSums" = some m.cls := findClass_of_methodNamed Bd.named
  have hnm := (name_of_methodNamed Bd.named Bd.method).1
  have hlk : meth.locks = false := BodyLoose.notSynchronized Bd
  have X0 : Stand p l e ({ frames := 4, cells := 0, slots := 0, locals := 55 } : Room) s m #[(.ref a0s), (.int p1), (.int p2), (.ref a3)] below meth c s₁ [] 0 0 := Stand.of_body Bd
  have e0 : s₁.heap = h0 := by rw [← hh, Bd.state]; rfl
  have N0 := Fr.nil n0
  obtain ⟨G0, G1, own_cs, own_fm⟩ := id hG
  show Go p e below (End s (Q_fr Z zC fmV a0s p1 p2 a3 t kb kW nW c0 c1 c2 c3 wts sN eN h0 n0) ({ frames := 4, cells := 0, slots := 0, locals := 55 } : Room).cells ({ frames := 4, cells := 0, slots := 0, locals := 55 } : Room).slots) (s₁.setTop (entryFrame m #[(.ref a0s), (.int p1), (.int p2), (.ref a3)] 6))
  rw [ef_fr]
  generalize hP : End s (Q_fr Z zC fmV a0s p1 p2 a3 t kb kW nW c0 c1 c2 c3 wts sN eN h0 n0) ({ frames := 4, cells := 0, slots := 0, locals := 55 } : Room).cells ({ frames := 4, cells := 0, slots := 0, locals := 55 } : Room).slots = P
  show Go p e below P (s₁.setTop (mkF m 0 #[.val (.ref a0s), .val (.int p1), .val (.int p2), .val (.ref a3), .unset, .unset] []))
  refine Go.by (fun _ => XS.iconst X0.here hx rfl (hb hby d7_0)) ?_
  show Go p e below P (s₁.setTop (mkF m 1 #[.val (.ref a0s), .val (.int p1), .val (.int p2), .val (.ref a3), .unset, .unset] [(.int (0 : Int32))]))
  refine Go.by (fun _ => XS.istore X0.here hx rfl (hb hby d7_1) rfl (l' := #[.val (.ref a0s), .val (.int p1), .val (.int p2), .val (.ref a3), .val (.int (0 : Int32)), .unset]) rfl) ?_
  show Go p e below P (s₁.setTop (mkF m 3 #[.val (.ref a0s), .val (.int p1), .val (.int p2), .val (.ref a3), .val (.int (0 : Int32)), .unset] []))
  refine Go.by (fun _ => XS.iloadN X0.here hx rfl (hb hby d7_3) rfl) ?_
  show Go p e below P (s₁.setTop (mkF m 4 #[.val (.ref a0s), .val (.int p1), .val (.int p2), .val (.ref a3), .val (.int (0 : Int32)), .unset] [(.int p2)]))
  refine Go.by (fun _ => XS.iconst X0.here hx rfl (hb hby d7_4)) ?_
  show Go p e below P (s₁.setTop (mkF m 5 #[.val (.ref a0s), .val (.int p1), .val (.int p2), .val (.ref a3), .val (.int (0 : Int32)), .unset] [(.int (1 : Int32)), (.int p2)]))
  refine Go.by (fun _ => XS.isub X0.here hx rfl (hb hby d7_5) rfl) ?_
  show Go p e below P (s₁.setTop (mkF m 6 #[.val (.ref a0s), .val (.int p1), .val (.int p2), .val (.ref a3), .val (.int (0 : Int32)), .unset] [(.int (p2 - (1 : Int32)))]))
  refine Go.by (fun _ => XS.istore X0.here hx rfl (hb hby d7_6) rfl (l' := #[.val (.ref a0s), .val (.int p1), .val (.int p2), .val (.ref a3), .val (.int (0 : Int32)), .val (.int (p2 - (1 : Int32)))]) rfl) ?_
  show Go p e below P (s₁.setTop (mkF m 8 #[.val (.ref a0s), .val (.int p1), .val (.int p2), .val (.ref a3), .val (.int (0 : Int32)), .val (.int (p2 - (1 : Int32)))] []))
  have hcd : StrChars.Road.CodA ([c0, c1, c2, c3] : List Int32) 0 (4 : Int32) ((([c0, c1, c2, c3] : List Int32).map (fun c => c.toInt8.toInt32)).map Value.int) := StrChars.Road.codOf (n := 4) rfl (fun x hx => (hp x hx).2)
  have hbd := own_up _ hp
  have L8 : ∀ (k : Nat) (TL8 : State) (lcL8 : List Loc) (XL8 : Stand p l e ({ frames := 4, cells := 0, slots := 0, locals := 55 } : Room) s m #[(.ref a0s), (.int p1), (.int p2), (.ref a3)] below meth c TL8 lcL8 0 0) (eL8 : TL8.heap = h0) (NL8 : Fr n0 lcL8) (sm : Int32) (i : Int32) (hi : i.toInt = (sN : Int) + (k : Int) - 1) (hk : sN + k ≤ eN) (hS : sm + frS ([c0, c1, c2, c3] : List Int32) wts sN eN k = (frS ([c0, c1, c2, c3] : List Int32) wts sN eN (eN - sN))), Go p e below P (TL8.setTop (mkF m 8 #[.val (.ref a0s), .val (.int p1), .val (.int p2), .val (.ref a3), .val (.int sm), .val (.int i)] [])) := by
    intro k
    induction k with
    | zero =>
      intro TL8 lcL8 XL8 eL8 NL8 sm i hi hk hS
      show Go p e below P (TL8.setTop (mkF m 8 #[.val (.ref a0s), .val (.int p1), .val (.int p2), .val (.ref a3), .val (.int sm), .val (.int i)] []))
      refine Go.by (fun _ => XS.iload XL8.here hx rfl (hb hby d7_8) rfl) ?_
      show Go p e below P (TL8.setTop (mkF m 10 #[.val (.ref a0s), .val (.int p1), .val (.int p2), .val (.ref a3), .val (.int sm), .val (.int i)] [(.int i)]))
      refine Go.by (fun _ => XS.iloadN XL8.here hx rfl (hb hby d7_10) rfl) ?_
      show Go p e below P (TL8.setTop (mkF m 11 #[.val (.ref a0s), .val (.int p1), .val (.int p2), .val (.ref a3), .val (.int sm), .val (.int i)] [(.int p1), (.int i)]))
      have hc11 : i < p1 := (by rw [Int32.lt_iff_toInt_lt]; omega)
      refine Go.by (fun _ => XS.icmpYes XL8.here hx rfl (pc0 := 11) (pc' := 46) rfl (hb hby d7_11) rfl (tlt hc11).1 (by decide) (by decide)) ?_
      show Go p e below P (TL8.setTop (mkF m 46 #[.val (.ref a0s), .val (.int p1), .val (.int p2), .val (.ref a3), .val (.int sm), .val (.int i)] []))
      refine Go.by (fun _ => XS.iload XL8.here hx rfl (hb hby d7_46) rfl) ?_
      show Go p e below P (TL8.setTop (mkF m 48 #[.val (.ref a0s), .val (.int p1), .val (.int p2), .val (.ref a3), .val (.int sm), .val (.int i)] [(.int sm)]))
      subst hP
      refine Go.retI XL8 hx Bd.returns hlk (hb hby d7_48) (Nat.le_of_ble_eq_true rfl) (Nat.le_of_ble_eq_true rfl) ?_
      rw [eL8]
      exact ⟨by rw [← hS]; simp [frS], NL8, rfl⟩
    | succ k ih =>
      intro TL8 lcL8 XL8 eL8 NL8 sm i hi hk hS
      show Go p e below P (TL8.setTop (mkF m 8 #[.val (.ref a0s), .val (.int p1), .val (.int p2), .val (.ref a3), .val (.int sm), .val (.int i)] []))
      refine Go.by (fun _ => XS.iload XL8.here hx rfl (hb hby d7_8) rfl) ?_
      show Go p e below P (TL8.setTop (mkF m 10 #[.val (.ref a0s), .val (.int p1), .val (.int p2), .val (.ref a3), .val (.int sm), .val (.int i)] [(.int i)]))
      refine Go.by (fun _ => XS.iloadN XL8.here hx rfl (hb hby d7_10) rfl) ?_
      show Go p e below P (TL8.setTop (mkF m 11 #[.val (.ref a0s), .val (.int p1), .val (.int p2), .val (.ref a3), .val (.int sm), .val (.int i)] [(.int p1), (.int i)]))
      have hc11 : ¬ (i < p1) := (fun q => by rw [Int32.lt_iff_toInt_lt] at q; omega)
      refine Go.by (fun _ => XS.icmpNo XL8.here hx rfl (hb hby d7_11) rfl (flt hc11).1) ?_
      show Go p e below P (TL8.setTop (mkF m 14 #[.val (.ref a0s), .val (.int p1), .val (.int p2), .val (.ref a3), .val (.int sm), .val (.int i)] []))
      refine Go.by (fun _ => XS.iload XL8.here hx rfl (hb hby d7_14) rfl) ?_
      show Go p e below P (TL8.setTop (mkF m 16 #[.val (.ref a0s), .val (.int p1), .val (.int p2), .val (.ref a3), .val (.int sm), .val (.int i)] [(.int sm)]))
      refine Go.by (fun _ => XS.aloadN XL8.here hx rfl (hb hby d7_16) rfl rfl) ?_
      show Go p e below P (TL8.setTop (mkF m 17 #[.val (.ref a0s), .val (.int p1), .val (.int p2), .val (.ref a3), .val (.int sm), .val (.int i)] [(.ref a3), (.int sm)]))
      refine Go.by (fun _ => XS.iloadN XL8.here hx rfl (hb hby d7_17) rfl) ?_
      show Go p e below P (TL8.setTop (mkF m 18 #[.val (.ref a0s), .val (.int p1), .val (.int p2), .val (.ref a3), .val (.int sm), .val (.int i)] [(.int p2), (.ref a3), (.int sm)]))
      refine Go.by (fun _ => XS.iconst XL8.here hx rfl (hb hby d7_18)) ?_
      show Go p e below P (TL8.setTop (mkF m 19 #[.val (.ref a0s), .val (.int p1), .val (.int p2), .val (.ref a3), .val (.int sm), .val (.int i)] [(.int (1 : Int32)), (.int p2), (.ref a3), (.int sm)]))
      refine Go.by (fun _ => XS.isub XL8.here hx rfl (hb hby d7_19) rfl) ?_
      show Go p e below P (TL8.setTop (mkF m 20 #[.val (.ref a0s), .val (.int p1), .val (.int p2), .val (.ref a3), .val (.int sm), .val (.int i)] [(.int (p2 - (1 : Int32))), (.ref a3), (.int sm)]))
      refine Go.by (fun _ => XS.iload XL8.here hx rfl (hb hby d7_20) rfl) ?_
      show Go p e below P (TL8.setTop (mkF m 22 #[.val (.ref a0s), .val (.int p1), .val (.int p2), .val (.ref a3), .val (.int sm), .val (.int i)] [(.int i), (.int (p2 - (1 : Int32))), (.ref a3), (.int sm)]))
      refine Go.by (fun _ => XS.isub XL8.here hx rfl (hb hby d7_22) rfl) ?_
      show Go p e below P (TL8.setTop (mkF m 23 #[.val (.ref a0s), .val (.int p1), .val (.int p2), .val (.ref a3), .val (.int sm), .val (.int i)] [(.int ((p2 - (1 : Int32)) - i)), (.ref a3), (.int sm)]))
      refine Go.by (fun _ => XS.aloadN XL8.here hx rfl (hb hby d7_23) rfl rfl) ?_
      show Go p e below P (TL8.setTop (mkF m 24 #[.val (.ref a0s), .val (.int p1), .val (.int p2), .val (.ref a3), .val (.int sm), .val (.int i)] [(.ref a3), (.int ((p2 - (1 : Int32)) - i)), (.ref a3), (.int sm)]))
      obtain ⟨cl1, Ar1, -, Sz1, Ng1, -, -⟩ := id (P4)
      refine Go.by (fun _ => XL8.arraylength hx (by rw [eL8]; exact Ar1.1) (State.isArrayOf_alike hZ.alike Ar1.2.1) (g := (mkF m 24 #[.val (.ref a0s), .val (.int p1), .val (.int p2), .val (.ref a3), .val (.int sm), .val (.int i)] [(.ref a3), (.int ((p2 - (1 : Int32)) - i)), (.ref a3), (.int sm)])) rfl rfl (hb hby d7_24) _) ?_
      rw [len_of Sz1 Ng1]
      show Go p e below P (TL8.setTop (mkF m 25 #[.val (.ref a0s), .val (.int p1), .val (.int p2), .val (.ref a3), .val (.int sm), .val (.int i)] [(.int nW), (.int ((p2 - (1 : Int32)) - i)), (.ref a3), (.int sm)]))
      refine Go.by (fun _ => iremM XL8 hx rfl (hb hby d7_25) rfl (fun q => by have q2 := congrArg Int32.toInt q; have l0 : (0 : Int32).toInt = 0 := rfl; omega)) ?_
      show Go p e below P (TL8.setTop (mkF m 26 #[.val (.ref a0s), .val (.int p1), .val (.int p2), .val (.ref a3), .val (.int sm), .val (.int i)] [(.int (((p2 - (1 : Int32)) - i) % nW)), (.ref a3), (.int sm)]))
      generalize hv_j : (((p2 - (1 : Int32)) - i) % nW) = j
      have hj : j.toInt = (((eN - 1 - (sN + k)) % wts.length : Nat) : Int) := by rw [← hv_j]; exact own_idx p2 i nW eN (sN + k) wts.length he (by omega) (by omega) (by omega) hn hn0
      have hjl : (eN - 1 - (sN + k)) % wts.length < wts.length := Nat.mod_lt _ hn0
      have hjn : j.toNatClampNeg = (eN - 1 - (sN + k)) % wts.length := by have q := nat_of (j := j) (fun q => by rw [Int32.lt_iff_toInt_lt] at q; have l0 : (0 : Int32).toInt = 0 := rfl; omega); omega
      obtain ⟨cl2, Ar2, qc2, Sz2, Ng2, Hs2, Gf2⟩ := id (P4)
      have hin2 : ¬ (j < 0 ∨ cl2.slots.size ≤ (j).toNatClampNeg) := inb_of Sz2 ⟨fun q => by rw [Int32.lt_iff_toInt_lt] at q; have l0 : (0 : Int32).toInt = 0 := rfl; omega, by rw [Int32.lt_iff_toInt_lt]; omega⟩
      refine Go.by (fun _ => XL8.iaload hx (j := j) (v := (.int (wts.getD ((eN - 1 - (sN + k)) % wts.length) 0))) (by rw [eL8]; exact Ar2.1) (State.isArrayOf_alike hZ.alike Ar2.2.1) Ar2.2.2 hin2 (Has.at Hs2 hin2 (by rw [hjn]; exact own_get wts _)) (g := (mkF m 26 #[.val (.ref a0s), .val (.int p1), .val (.int p2), .val (.ref a3), .val (.int sm), .val (.int i)] [(.int j), (.ref a3), (.int sm)])) rfl rfl (hb hby d7_26) _) ?_
      show Go p e below P (TL8.setTop (mkF m 27 #[.val (.ref a0s), .val (.int p1), .val (.int p2), .val (.ref a3), .val (.int sm), .val (.int i)] [(.int (wts.getD ((eN - 1 - (sN + k)) % wts.length) 0)), (.int sm)]))
      refine Go.by (fun _ => XS.aloadN XL8.here hx rfl (hb hby d7_27) rfl rfl) ?_
      show Go p e below P (TL8.setTop (mkF m 28 #[.val (.ref a0s), .val (.int p1), .val (.int p2), .val (.ref a3), .val (.int sm), .val (.int i)] [(.ref a0s), (.int (wts.getD ((eN - 1 - (sN + k)) % wts.length) 0)), (.int sm)]))
      refine Go.by (fun _ => XS.iload XL8.here hx rfl (hb hby d7_28) rfl) ?_
      show Go p e below P (TL8.setTop (mkF m 30 #[.val (.ref a0s), .val (.int p1), .val (.int p2), .val (.ref a3), .val (.int sm), .val (.int i)] [(.int i), (.ref a0s), (.int (wts.getD ((eN - 1 - (sN + k)) % wts.length) 0)), (.int sm)]))
      obtain ⟨cq3, kq3, qa3, qb3, qc3⟩ := isOf hZ eL8 P0
      obtain ⟨_, _, ⟨T3, L3, k3, n3⟩, -, X3, ⟨Lc3, hQ3, l3, y3, z3⟩, st3⟩ := XL8.virtualBack hx (y := (⟨"java/lang/String", "charAt", "(I)C"⟩ : MethodName)) (z := (⟨"java/lang/String", "charAt", "(I)C"⟩ : MethodName)) hown (mvT hZ (hw _ (List.mem_of_getElem? (i := 39) rfl))) (mvT hZ (hw _ (List.mem_of_getElem? (i := 40) rfl))) (notFace_of_selects (args := #[]) (mvT hZ (hw _ (List.mem_of_getElem? (i := 42) rfl)))) (mvT hZ (hw _ (List.mem_of_getElem? (i := 42) rfl))) (mvT hZ (hw _ (List.mem_of_getElem? (i := 41) rfl))) (by decide) (StrChars.Road.chN (W := 2) hZ (own_wordsCh hw) (kI := 4) (hw _ (List.mem_of_getElem? (i := 2) rfl)) P0 P1 P2 P3 hcd hbd (G0.ext O0.2) own_cs (G1.ext O0.2) own_fm (Nat.le_of_ble_eq_true rfl) (i := sN + k) (show sN + k < 4 by omega) (by apply Int32.toInt_inj.mp; rw [Int32.toInt_ofNat_of_lt (by omega)]; omega) (Nat.le_of_ble_eq_true rfl) (Nat.le_of_ble_eq_true rfl)) qa3 qc3 (g := (mkF m 30 #[.val (.ref a0s), .val (.int p1), .val (.int p2), .val (.ref a3), .val (.int sm), .val (.int i)] [(.int i), (.ref a0s), (.int (wts.getD ((eN - 1 - (sN + k)) % wts.length) 0)), (.int sm)])) rfl (by rw [hml]; rfl) (Steps.refl _) (argsL := [(.int i)]) (rest := [(.int (wts.getD ((eN - 1 - (sN + k)) % wts.length) 0)), (.int sm)]) (lenOf pd_0 rfl) rfl (by show 2 * 0 + _ ≤ _; exact Nat.le_of_eq rfl) (hb hby d7_30) (fun _ _ => ⟨rfl, eL8, (Nat.le_of_ble_eq_true rfl : 0 + 0 ≤ _), (Nat.le_of_ble_eq_true rfl : 0 + 0 ≤ _)⟩)
      dsimp only [Pt.U, Pt.locs, Pt.cells, Pt.slots] at X3 l3 y3 z3 st3 hQ3
      subst l3 y3 z3
      obtain ⟨rfl, rfl, eq3⟩ := hQ3
      have N3 := Fr.app NL8 (Fr.nil n0)
      refine Go.by (fun _ k => st3.trans k) ?_
      show Go p e below P (T3.setTop (mkF m 33 #[.val (.ref a0s), .val (.int p1), .val (.int p2), .val (.ref a3), .val (.int sm), .val (.int i)] [(.int ((([c0, c1, c2, c3] : List Int32)).getD (sN + k) 0)), (.int (wts.getD ((eN - 1 - (sN + k)) % wts.length) 0)), (.int sm)]))
      refine Go.by (fun _ => XS.bipush X3.here hx rfl (hb hby d7_33)) ?_
      show Go p e below P (T3.setTop (mkF m 35 #[.val (.ref a0s), .val (.int p1), .val (.int p2), .val (.ref a3), .val (.int sm), .val (.int i)] [(.int (48 : Int32)), (.int ((([c0, c1, c2, c3] : List Int32)).getD (sN + k) 0)), (.int (wts.getD ((eN - 1 - (sN + k)) % wts.length) 0)), (.int sm)]))
      refine Go.by (fun _ => XS.isub X3.here hx rfl (hb hby d7_35) rfl) ?_
      show Go p e below P (T3.setTop (mkF m 36 #[.val (.ref a0s), .val (.int p1), .val (.int p2), .val (.ref a3), .val (.int sm), .val (.int i)] [(.int (((([c0, c1, c2, c3] : List Int32)).getD (sN + k) 0) - (48 : Int32))), (.int (wts.getD ((eN - 1 - (sN + k)) % wts.length) 0)), (.int sm)]))
      refine Go.by (fun _ => XS.imul X3.here hx rfl (hb hby d7_36) rfl) ?_
      show Go p e below P (T3.setTop (mkF m 37 #[.val (.ref a0s), .val (.int p1), .val (.int p2), .val (.ref a3), .val (.int sm), .val (.int i)] [(.int ((wts.getD ((eN - 1 - (sN + k)) % wts.length) 0) * (((([c0, c1, c2, c3] : List Int32)).getD (sN + k) 0) - (48 : Int32)))), (.int sm)]))
      refine Go.by (fun _ => XS.iadd X3.here hx rfl (hb hby d7_37) rfl) ?_
      show Go p e below P (T3.setTop (mkF m 38 #[.val (.ref a0s), .val (.int p1), .val (.int p2), .val (.ref a3), .val (.int sm), .val (.int i)] [(.int (sm + ((wts.getD ((eN - 1 - (sN + k)) % wts.length) 0) * (((([c0, c1, c2, c3] : List Int32)).getD (sN + k) 0) - (48 : Int32)))))]))
      refine Go.by (fun _ => XS.istore X3.here hx rfl (hb hby d7_38) rfl (l' := #[.val (.ref a0s), .val (.int p1), .val (.int p2), .val (.ref a3), .val (.int (sm + ((wts.getD ((eN - 1 - (sN + k)) % wts.length) 0) * (((([c0, c1, c2, c3] : List Int32)).getD (sN + k) 0) - (48 : Int32))))), .val (.int i)]) rfl) ?_
      show Go p e below P (T3.setTop (mkF m 40 #[.val (.ref a0s), .val (.int p1), .val (.int p2), .val (.ref a3), .val (.int (sm + ((wts.getD ((eN - 1 - (sN + k)) % wts.length) 0) * (((([c0, c1, c2, c3] : List Int32)).getD (sN + k) 0) - (48 : Int32))))), .val (.int i)] []))
      refine Go.by (fun _ => own_iinc X3.here hx rfl (hb hby d7_40) rfl (z := (-1 : Int32)) (by decide) (l' := #[.val (.ref a0s), .val (.int p1), .val (.int p2), .val (.ref a3), .val (.int (sm + ((wts.getD ((eN - 1 - (sN + k)) % wts.length) 0) * (((([c0, c1, c2, c3] : List Int32)).getD (sN + k) 0) - (48 : Int32))))), .val (.int (i + (-1 : Int32)))]) rfl) ?_
      show Go p e below P (T3.setTop (mkF m 43 #[.val (.ref a0s), .val (.int p1), .val (.int p2), .val (.ref a3), .val (.int (sm + ((wts.getD ((eN - 1 - (sN + k)) % wts.length) 0) * (((([c0, c1, c2, c3] : List Int32)).getD (sN + k) 0) - (48 : Int32))))), .val (.int (i + (-1 : Int32)))] []))
      refine Go.by (fun _ => XS.goto X3.here hx rfl (pc0 := 43) (pc' := 8) rfl (hb hby d7_43) (by decide) (by decide)) ?_
      show Go p e below P (T3.setTop (mkF m 8 #[.val (.ref a0s), .val (.int p1), .val (.int p2), .val (.ref a3), .val (.int (sm + ((wts.getD ((eN - 1 - (sN + k)) % wts.length) 0) * (((([c0, c1, c2, c3] : List Int32)).getD (sN + k) 0) - (48 : Int32))))), .val (.int (i + (-1 : Int32)))] []))
      exact ih T3 _ X3 eq3 N3 (sm + ((wts.getD ((eN - 1 - (sN + k)) % wts.length) 0) * (((([c0, c1, c2, c3] : List Int32)).getD (sN + k) 0) - (48 : Int32)))) (i + (-1 : Int32)) (own_dec i sN k eN h2 hi hk) (by omega) (by rw [← hS, frS, Int32.add_assoc])
  exact L8 (eN - sN) s₁ _ X0 e0 N0 (0 : Int32) (p2 - (1 : Int32)) (by have q := c_isub p2 1; have q1 := rng32 (p2 - 1); have l1 : (1 : Int32).toInt = 1 := rfl; omega) (by omega) (by simp)
theorem d8_0 : decode method_3_code 0 = .ok (.iload_n 1, 1) := by decide +kernel
theorem d8_1 : decode method_3_code 1 = .ok (.iload_n 2, 1) := by decide +kernel
theorem d8_2 : decode method_3_code 2 = .ok (.if_icmp .lt 8, 3) := by decide +kernel
theorem d8_5 : decode method_3_code 5 = .ok (.iload_n 1, 1) := by decide +kernel
theorem d8_6 : decode method_3_code 6 = .ok (.iload_n 3, 1) := by decide +kernel
theorem d8_7 : decode method_3_code 7 = .ok (.if_icmp .lt 5, 3) := by decide +kernel
theorem d8_10 : decode method_3_code 10 = .ok (.iconst 0, 1) := by decide +kernel
theorem d8_11 : decode method_3_code 11 = .ok (.ireturn, 1) := by decide +kernel
theorem d8_12 : decode method_3_code 12 = .ok (.iload_n 3, 1) := by decide +kernel
theorem d8_13 : decode method_3_code 13 = .ok (.iconst 1, 1) := by decide +kernel
theorem d8_14 : decode method_3_code 14 = .ok (.isub, 1) := by decide +kernel
theorem d8_15 : decode method_3_code 15 = .ok (.iload_n 1, 1) := by decide +kernel
theorem d8_16 : decode method_3_code 16 = .ok (.isub, 1) := by decide +kernel
theorem d8_17 : decode method_3_code 17 = .ok (.istore 8, 2) := by decide +kernel
theorem d8_19 : decode method_3_code 19 = .ok (.iload 4, 2) := by decide +kernel
theorem d8_21 : decode method_3_code 21 = .ok (.iconst 1, 1) := by decide +kernel
theorem d8_22 : decode method_3_code 22 = .ok (.if_icmp .ne 10, 3) := by decide +kernel
theorem d8_25 : decode method_3_code 25 = .ok (.iload 5, 2) := by decide +kernel
theorem d8_27 : decode method_3_code 27 = .ok (.istore 9, 2) := by decide +kernel
theorem d8_29 : decode method_3_code 29 = .ok (.goto 63, 3) := by decide +kernel
theorem d8_32 : decode method_3_code 32 = .ok (.iload 4, 2) := by decide +kernel
theorem d8_34 : decode method_3_code 34 = .ok (.iconst 2, 1) := by decide +kernel
theorem d8_35 : decode method_3_code 35 = .ok (.if_icmp .ne 26, 3) := by decide +kernel
theorem d8_38 : decode method_3_code 38 = .ok (.iload 8, 2) := by decide +kernel
theorem d8_40 : decode method_3_code 40 = .ok (.ifCond .eq 9, 3) := by decide +kernel
theorem d8_43 : decode method_3_code 43 = .ok (.iload 8, 2) := by decide +kernel
theorem d8_45 : decode method_3_code 45 = .ok (.iconst 2, 1) := by decide +kernel
theorem d8_46 : decode method_3_code 46 = .ok (.if_icmp .ne 8, 3) := by decide +kernel
theorem d8_49 : decode method_3_code 49 = .ok (.iload 5, 2) := by decide +kernel
theorem d8_51 : decode method_3_code 51 = .ok (.goto 5, 3) := by decide +kernel
theorem d8_54 : decode method_3_code 54 = .ok (.iload 6, 2) := by decide +kernel
theorem d8_56 : decode method_3_code 56 = .ok (.istore 9, 2) := by decide +kernel
theorem d8_58 : decode method_3_code 58 = .ok (.goto 34, 3) := by decide +kernel
theorem d8_61 : decode method_3_code 61 = .ok (.iload 8, 2) := by decide +kernel
theorem d8_63 : decode method_3_code 63 = .ok (.ifCond .eq 9, 3) := by decide +kernel
theorem d8_66 : decode method_3_code 66 = .ok (.iload 8, 2) := by decide +kernel
theorem d8_68 : decode method_3_code 68 = .ok (.iconst 3, 1) := by decide +kernel
theorem d8_69 : decode method_3_code 69 = .ok (.if_icmp .ne 8, 3) := by decide +kernel
theorem d8_72 : decode method_3_code 72 = .ok (.iload 5, 2) := by decide +kernel
theorem d8_74 : decode method_3_code 74 = .ok (.goto 16, 3) := by decide +kernel
theorem d8_77 : decode method_3_code 77 = .ok (.iload 8, 2) := by decide +kernel
theorem d8_79 : decode method_3_code 79 = .ok (.iconst 1, 1) := by decide +kernel
theorem d8_80 : decode method_3_code 80 = .ok (.if_icmp .ne 8, 3) := by decide +kernel
theorem d8_83 : decode method_3_code 83 = .ok (.iload 6, 2) := by decide +kernel
theorem d8_85 : decode method_3_code 85 = .ok (.goto 5, 3) := by decide +kernel
theorem d8_88 : decode method_3_code 88 = .ok (.iload 7, 2) := by decide +kernel
theorem d8_90 : decode method_3_code 90 = .ok (.istore 9, 2) := by decide +kernel
theorem d8_92 : decode method_3_code 92 = .ok (.iload 9, 2) := by decide +kernel
theorem d8_94 : decode method_3_code 94 = .ok (.iload_n 0, 1) := by decide +kernel
theorem d8_95 : decode method_3_code 95 = .ok (.bipush 48, 2) := by decide +kernel
theorem d8_97 : decode method_3_code 97 = .ok (.isub, 1) := by decide +kernel
theorem d8_98 : decode method_3_code 98 = .ok (.imul, 1) := by decide +kernel
theorem d8_99 : decode method_3_code 99 = .ok (.ireturn, 1) := by decide +kernel
theorem ef_tm (m : MethodId) (x0 : Int32) (x1 : Int32) (x2 : Int32) (x3 : Int32) (x4 : Int32) (x5 : Int32) (x6 : Int32) (x7 : Int32) : entryFrame m #[(.int x0), (.int x1), (.int x2), (.int x3), (.int x4), (.int x5), (.int x6), (.int x7)] 10 = mkF m 0 #[.val (.int x0), .val (.int x1), .val (.int x2), .val (.int x3), .val (.int x4), .val (.int x5), .val (.int x6), .val (.int x7), .unset, .unset] [] := by first | (simp [entryFrame, mkF, argsToLocals, Value.category]; done) | rfl
def Q_tm (Z : State) (zC : Int32) (fmV : Value) (p0 : Int32) (p1 : Int32) (p2 : Int32) (p3 : Int32) (p4 : Int32) (p5 : Int32) (p6 : Int32) (p7 : Int32) (h0 : Heap) (n0 : Nat) (v : Option Value) (h : Heap) (L : List Loc) : Prop := v = some (.int (tm p0 p1 p2 p3 p4 p5 p6 p7)) ∧ Fr n0 L ∧ h = h0
set_option maxRecDepth 65536 in
set_option maxHeartbeats 40000000 in
theorem rm_tm (l : Launch) (Z : State) (a0 : Array Value) (hw : ∀ d ∈ tables_1, d.before a0 Z = true) (ws : List Jvm.Cond) (zC : Int32) (fmV : Value) (hG : Glob Z zC fmV) (p0 : Int32) (p1 : Int32) (p2 : Int32) (p3 : Int32) (p4 : Int32) (p5 : Int32) (p6 : Int32) (p7 : Int32) (h0 : Heap) (n0 : Nat) (Z0 : n0 ≤ h0.size) (O0 : Old Z n0 h0) :
    MetFree l (⟨"com/example/kontoform/kontoform/WeightedSumsFromRightPinLaw", "term", "(CIIIIIII)I"⟩ : MethodName) (head1 (Jvm.Cond.code (⟨"com/example/kontoform/kontoform/WeightedSumsFromRightPinLaw", "term", "(CIIIIIII)I"⟩ : MethodName) method_3_code 10 (some .int) :: ws) ({ frames := 0, cells := 0, slots := 0, locals := 0 } : Room)) (fun a U => a = #[(.int p0), (.int p1), (.int p2), (.int p3), (.int p4), (.int p5), (.int p6), (.int p7)] ∧ Z.Warmed39 U.vm ∧ U.heap = h0) (fun _ _ _ _ _ => True) (fun _ U o U' => ∃ v L, o = .returned v ∧ Q_tm Z zC fmV p0 p1 p2 p3 p4 p5 p6 p7 h0 n0 v U'.heap L ∧ FrameEnd U o U' L ({ frames := 0, cells := 0, slots := 0, locals := 0 } : Room).cells ({ frames := 0, cells := 0, slots := 0, locals := 0 } : Room).slots) := by
  refine MetFree.of_bodySF (plainFor_of_name pn_1) hisR ?_
  intro p e s m args below meth c s₁ Bd hml0 hP hK
  obtain ⟨rfl, hZ, hh⟩ := hP
  have hx := Bd.exec
  have hby := Bd.bytes
  have hml : c.maxLocals = 10 := hml0
  have hown : s.vm.findClass "com/example/kontoform/kontoform/WeightedSumsFromRightPinLaw" = some m.cls := findClass_of_methodNamed Bd.named
  have hnm := (name_of_methodNamed Bd.named Bd.method).1
  have hlk : meth.locks = false := BodyLoose.notSynchronized Bd
  have X0 : Stand p l e ({ frames := 0, cells := 0, slots := 0, locals := 0 } : Room) s m #[(.int p0), (.int p1), (.int p2), (.int p3), (.int p4), (.int p5), (.int p6), (.int p7)] below meth c s₁ [] 0 0 := Stand.of_body Bd
  have e0 : s₁.heap = h0 := by rw [← hh, Bd.state]; rfl
  have N0 := Fr.nil n0
  obtain ⟨G0, G1, own_cs, own_fm⟩ := id hG
  show Go p e below (End s (Q_tm Z zC fmV p0 p1 p2 p3 p4 p5 p6 p7 h0 n0) ({ frames := 0, cells := 0, slots := 0, locals := 0 } : Room).cells ({ frames := 0, cells := 0, slots := 0, locals := 0 } : Room).slots) (s₁.setTop (entryFrame m #[(.int p0), (.int p1), (.int p2), (.int p3), (.int p4), (.int p5), (.int p6), (.int p7)] 10))
  rw [ef_tm]
  generalize hP : End s (Q_tm Z zC fmV p0 p1 p2 p3 p4 p5 p6 p7 h0 n0) ({ frames := 0, cells := 0, slots := 0, locals := 0 } : Room).cells ({ frames := 0, cells := 0, slots := 0, locals := 0 } : Room).slots = P
  show Go p e below P (s₁.setTop (mkF m 0 #[.val (.int p0), .val (.int p1), .val (.int p2), .val (.int p3), .val (.int p4), .val (.int p5), .val (.int p6), .val (.int p7), .unset, .unset] []))
  refine Go.by (fun _ => XS.iloadN X0.here hx rfl (hb hby d8_0) rfl) ?_
  show Go p e below P (s₁.setTop (mkF m 1 #[.val (.int p0), .val (.int p1), .val (.int p2), .val (.int p3), .val (.int p4), .val (.int p5), .val (.int p6), .val (.int p7), .unset, .unset] [(.int p1)]))
  refine Go.by (fun _ => XS.iloadN X0.here hx rfl (hb hby d8_1) rfl) ?_
  show Go p e below P (s₁.setTop (mkF m 2 #[.val (.int p0), .val (.int p1), .val (.int p2), .val (.int p3), .val (.int p4), .val (.int p5), .val (.int p6), .val (.int p7), .unset, .unset] [(.int p2), (.int p1)]))
  by_cases hc2 : p1 < p2
  · refine Go.by (fun _ => XS.icmpYes X0.here hx rfl (pc0 := 2) (pc' := 10) rfl (hb hby d8_2) rfl (tlt hc2).1 (by decide) (by decide)) ?_
    show Go p e below P (s₁.setTop (mkF m 10 #[.val (.int p0), .val (.int p1), .val (.int p2), .val (.int p3), .val (.int p4), .val (.int p5), .val (.int p6), .val (.int p7), .unset, .unset] []))
    refine Go.by (fun _ => XS.iconst X0.here hx rfl (hb hby d8_10)) ?_
    show Go p e below P (s₁.setTop (mkF m 11 #[.val (.int p0), .val (.int p1), .val (.int p2), .val (.int p3), .val (.int p4), .val (.int p5), .val (.int p6), .val (.int p7), .unset, .unset] [(.int (0 : Int32))]))
    subst hP
    refine Go.retI X0 hx Bd.returns hlk (hb hby d8_11) (Nat.le_of_ble_eq_true rfl) (Nat.le_of_ble_eq_true rfl) ?_
    rw [e0]
    exact ⟨by simp [tm, hc2], N0, rfl⟩
  · refine Go.by (fun _ => XS.icmpNo X0.here hx rfl (hb hby d8_2) rfl (flt hc2).1) ?_
    show Go p e below P (s₁.setTop (mkF m 5 #[.val (.int p0), .val (.int p1), .val (.int p2), .val (.int p3), .val (.int p4), .val (.int p5), .val (.int p6), .val (.int p7), .unset, .unset] []))
    refine Go.by (fun _ => XS.iloadN X0.here hx rfl (hb hby d8_5) rfl) ?_
    show Go p e below P (s₁.setTop (mkF m 6 #[.val (.int p0), .val (.int p1), .val (.int p2), .val (.int p3), .val (.int p4), .val (.int p5), .val (.int p6), .val (.int p7), .unset, .unset] [(.int p1)]))
    refine Go.by (fun _ => XS.iloadN X0.here hx rfl (hb hby d8_6) rfl) ?_
    show Go p e below P (s₁.setTop (mkF m 7 #[.val (.int p0), .val (.int p1), .val (.int p2), .val (.int p3), .val (.int p4), .val (.int p5), .val (.int p6), .val (.int p7), .unset, .unset] [(.int p3), (.int p1)]))
    by_cases hc7 : p1 < p3
    · refine Go.by (fun _ => XS.icmpYes X0.here hx rfl (pc0 := 7) (pc' := 12) rfl (hb hby d8_7) rfl (tlt hc7).1 (by decide) (by decide)) ?_
      show Go p e below P (s₁.setTop (mkF m 12 #[.val (.int p0), .val (.int p1), .val (.int p2), .val (.int p3), .val (.int p4), .val (.int p5), .val (.int p6), .val (.int p7), .unset, .unset] []))
      refine Go.by (fun _ => XS.iloadN X0.here hx rfl (hb hby d8_12) rfl) ?_
      show Go p e below P (s₁.setTop (mkF m 13 #[.val (.int p0), .val (.int p1), .val (.int p2), .val (.int p3), .val (.int p4), .val (.int p5), .val (.int p6), .val (.int p7), .unset, .unset] [(.int p3)]))
      refine Go.by (fun _ => XS.iconst X0.here hx rfl (hb hby d8_13)) ?_
      show Go p e below P (s₁.setTop (mkF m 14 #[.val (.int p0), .val (.int p1), .val (.int p2), .val (.int p3), .val (.int p4), .val (.int p5), .val (.int p6), .val (.int p7), .unset, .unset] [(.int (1 : Int32)), (.int p3)]))
      refine Go.by (fun _ => XS.isub X0.here hx rfl (hb hby d8_14) rfl) ?_
      show Go p e below P (s₁.setTop (mkF m 15 #[.val (.int p0), .val (.int p1), .val (.int p2), .val (.int p3), .val (.int p4), .val (.int p5), .val (.int p6), .val (.int p7), .unset, .unset] [(.int (p3 - (1 : Int32)))]))
      refine Go.by (fun _ => XS.iloadN X0.here hx rfl (hb hby d8_15) rfl) ?_
      show Go p e below P (s₁.setTop (mkF m 16 #[.val (.int p0), .val (.int p1), .val (.int p2), .val (.int p3), .val (.int p4), .val (.int p5), .val (.int p6), .val (.int p7), .unset, .unset] [(.int p1), (.int (p3 - (1 : Int32)))]))
      refine Go.by (fun _ => XS.isub X0.here hx rfl (hb hby d8_16) rfl) ?_
      show Go p e below P (s₁.setTop (mkF m 17 #[.val (.int p0), .val (.int p1), .val (.int p2), .val (.int p3), .val (.int p4), .val (.int p5), .val (.int p6), .val (.int p7), .unset, .unset] [(.int ((p3 - (1 : Int32)) - p1))]))
      refine Go.by (fun _ => XS.istore X0.here hx rfl (hb hby d8_17) rfl (l' := #[.val (.int p0), .val (.int p1), .val (.int p2), .val (.int p3), .val (.int p4), .val (.int p5), .val (.int p6), .val (.int p7), .val (.int ((p3 - (1 : Int32)) - p1)), .unset]) rfl) ?_
      show Go p e below P (s₁.setTop (mkF m 19 #[.val (.int p0), .val (.int p1), .val (.int p2), .val (.int p3), .val (.int p4), .val (.int p5), .val (.int p6), .val (.int p7), .val (.int ((p3 - (1 : Int32)) - p1)), .unset] []))
      refine Go.by (fun _ => XS.iload X0.here hx rfl (hb hby d8_19) rfl) ?_
      show Go p e below P (s₁.setTop (mkF m 21 #[.val (.int p0), .val (.int p1), .val (.int p2), .val (.int p3), .val (.int p4), .val (.int p5), .val (.int p6), .val (.int p7), .val (.int ((p3 - (1 : Int32)) - p1)), .unset] [(.int p4)]))
      refine Go.by (fun _ => XS.iconst X0.here hx rfl (hb hby d8_21)) ?_
      show Go p e below P (s₁.setTop (mkF m 22 #[.val (.int p0), .val (.int p1), .val (.int p2), .val (.int p3), .val (.int p4), .val (.int p5), .val (.int p6), .val (.int p7), .val (.int ((p3 - (1 : Int32)) - p1)), .unset] [(.int (1 : Int32)), (.int p4)]))
      by_cases hc22 : p4 = (1 : Int32)
      · refine Go.by (fun _ => XS.icmpNo X0.here hx rfl (hb hby d8_22) rfl (teq hc22).2) ?_
        show Go p e below P (s₁.setTop (mkF m 25 #[.val (.int p0), .val (.int p1), .val (.int p2), .val (.int p3), .val (.int p4), .val (.int p5), .val (.int p6), .val (.int p7), .val (.int ((p3 - (1 : Int32)) - p1)), .unset] []))
        refine Go.by (fun _ => XS.iload X0.here hx rfl (hb hby d8_25) rfl) ?_
        show Go p e below P (s₁.setTop (mkF m 27 #[.val (.int p0), .val (.int p1), .val (.int p2), .val (.int p3), .val (.int p4), .val (.int p5), .val (.int p6), .val (.int p7), .val (.int ((p3 - (1 : Int32)) - p1)), .unset] [(.int p5)]))
        refine Go.by (fun _ => XS.istore X0.here hx rfl (hb hby d8_27) rfl (l' := #[.val (.int p0), .val (.int p1), .val (.int p2), .val (.int p3), .val (.int p4), .val (.int p5), .val (.int p6), .val (.int p7), .val (.int ((p3 - (1 : Int32)) - p1)), .val (.int p5)]) rfl) ?_
        show Go p e below P (s₁.setTop (mkF m 29 #[.val (.int p0), .val (.int p1), .val (.int p2), .val (.int p3), .val (.int p4), .val (.int p5), .val (.int p6), .val (.int p7), .val (.int ((p3 - (1 : Int32)) - p1)), .val (.int p5)] []))
        refine Go.by (fun _ => XS.goto X0.here hx rfl (pc0 := 29) (pc' := 92) rfl (hb hby d8_29) (by decide) (by decide)) ?_
        show Go p e below P (s₁.setTop (mkF m 92 #[.val (.int p0), .val (.int p1), .val (.int p2), .val (.int p3), .val (.int p4), .val (.int p5), .val (.int p6), .val (.int p7), .val (.int ((p3 - (1 : Int32)) - p1)), .val (.int p5)] []))
        refine Go.by (fun _ => XS.iload X0.here hx rfl (hb hby d8_92) rfl) ?_
        show Go p e below P (s₁.setTop (mkF m 94 #[.val (.int p0), .val (.int p1), .val (.int p2), .val (.int p3), .val (.int p4), .val (.int p5), .val (.int p6), .val (.int p7), .val (.int ((p3 - (1 : Int32)) - p1)), .val (.int p5)] [(.int p5)]))
        refine Go.by (fun _ => XS.iloadN X0.here hx rfl (hb hby d8_94) rfl) ?_
        show Go p e below P (s₁.setTop (mkF m 95 #[.val (.int p0), .val (.int p1), .val (.int p2), .val (.int p3), .val (.int p4), .val (.int p5), .val (.int p6), .val (.int p7), .val (.int ((p3 - (1 : Int32)) - p1)), .val (.int p5)] [(.int p0), (.int p5)]))
        refine Go.by (fun _ => XS.bipush X0.here hx rfl (hb hby d8_95)) ?_
        show Go p e below P (s₁.setTop (mkF m 97 #[.val (.int p0), .val (.int p1), .val (.int p2), .val (.int p3), .val (.int p4), .val (.int p5), .val (.int p6), .val (.int p7), .val (.int ((p3 - (1 : Int32)) - p1)), .val (.int p5)] [(.int (48 : Int32)), (.int p0), (.int p5)]))
        refine Go.by (fun _ => XS.isub X0.here hx rfl (hb hby d8_97) rfl) ?_
        show Go p e below P (s₁.setTop (mkF m 98 #[.val (.int p0), .val (.int p1), .val (.int p2), .val (.int p3), .val (.int p4), .val (.int p5), .val (.int p6), .val (.int p7), .val (.int ((p3 - (1 : Int32)) - p1)), .val (.int p5)] [(.int (p0 - (48 : Int32))), (.int p5)]))
        refine Go.by (fun _ => XS.imul X0.here hx rfl (hb hby d8_98) rfl) ?_
        show Go p e below P (s₁.setTop (mkF m 99 #[.val (.int p0), .val (.int p1), .val (.int p2), .val (.int p3), .val (.int p4), .val (.int p5), .val (.int p6), .val (.int p7), .val (.int ((p3 - (1 : Int32)) - p1)), .val (.int p5)] [(.int (p5 * (p0 - (48 : Int32))))]))
        subst hP
        refine Go.retI X0 hx Bd.returns hlk (hb hby d8_99) (Nat.le_of_ble_eq_true rfl) (Nat.le_of_ble_eq_true rfl) ?_
        rw [e0]
        exact ⟨by simp [tm, hc2, hc7, hc22], N0, rfl⟩
      · refine Go.by (fun _ => XS.icmpYes X0.here hx rfl (pc0 := 22) (pc' := 32) rfl (hb hby d8_22) rfl (feq hc22).2 (by decide) (by decide)) ?_
        show Go p e below P (s₁.setTop (mkF m 32 #[.val (.int p0), .val (.int p1), .val (.int p2), .val (.int p3), .val (.int p4), .val (.int p5), .val (.int p6), .val (.int p7), .val (.int ((p3 - (1 : Int32)) - p1)), .unset] []))
        refine Go.by (fun _ => XS.iload X0.here hx rfl (hb hby d8_32) rfl) ?_
        show Go p e below P (s₁.setTop (mkF m 34 #[.val (.int p0), .val (.int p1), .val (.int p2), .val (.int p3), .val (.int p4), .val (.int p5), .val (.int p6), .val (.int p7), .val (.int ((p3 - (1 : Int32)) - p1)), .unset] [(.int p4)]))
        refine Go.by (fun _ => XS.iconst X0.here hx rfl (hb hby d8_34)) ?_
        show Go p e below P (s₁.setTop (mkF m 35 #[.val (.int p0), .val (.int p1), .val (.int p2), .val (.int p3), .val (.int p4), .val (.int p5), .val (.int p6), .val (.int p7), .val (.int ((p3 - (1 : Int32)) - p1)), .unset] [(.int (2 : Int32)), (.int p4)]))
        by_cases hc35 : p4 = (2 : Int32)
        · refine Go.by (fun _ => XS.icmpNo X0.here hx rfl (hb hby d8_35) rfl (teq hc35).2) ?_
          show Go p e below P (s₁.setTop (mkF m 38 #[.val (.int p0), .val (.int p1), .val (.int p2), .val (.int p3), .val (.int p4), .val (.int p5), .val (.int p6), .val (.int p7), .val (.int ((p3 - (1 : Int32)) - p1)), .unset] []))
          refine Go.by (fun _ => XS.iload X0.here hx rfl (hb hby d8_38) rfl) ?_
          show Go p e below P (s₁.setTop (mkF m 40 #[.val (.int p0), .val (.int p1), .val (.int p2), .val (.int p3), .val (.int p4), .val (.int p5), .val (.int p6), .val (.int p7), .val (.int ((p3 - (1 : Int32)) - p1)), .unset] [(.int ((p3 - (1 : Int32)) - p1))]))
          by_cases hc40 : ((p3 - (1 : Int32)) - p1) = (0 : Int32)
          · refine Go.by (fun _ => XS.ifYes X0.here hx rfl (pc0 := 40) (pc' := 49) rfl (hb hby d8_40) rfl ((if0 _ _).trans (teq hc40).1) (by decide) (by decide)) ?_
            show Go p e below P (s₁.setTop (mkF m 49 #[.val (.int p0), .val (.int p1), .val (.int p2), .val (.int p3), .val (.int p4), .val (.int p5), .val (.int p6), .val (.int p7), .val (.int ((p3 - (1 : Int32)) - p1)), .unset] []))
            refine Go.by (fun _ => XS.iload X0.here hx rfl (hb hby d8_49) rfl) ?_
            show Go p e below P (s₁.setTop (mkF m 51 #[.val (.int p0), .val (.int p1), .val (.int p2), .val (.int p3), .val (.int p4), .val (.int p5), .val (.int p6), .val (.int p7), .val (.int ((p3 - (1 : Int32)) - p1)), .unset] [(.int p5)]))
            refine Go.by (fun _ => XS.goto X0.here hx rfl (pc0 := 51) (pc' := 56) rfl (hb hby d8_51) (by decide) (by decide)) ?_
            show Go p e below P (s₁.setTop (mkF m 56 #[.val (.int p0), .val (.int p1), .val (.int p2), .val (.int p3), .val (.int p4), .val (.int p5), .val (.int p6), .val (.int p7), .val (.int ((p3 - (1 : Int32)) - p1)), .unset] [(.int p5)]))
            refine Go.by (fun _ => XS.istore X0.here hx rfl (hb hby d8_56) rfl (l' := #[.val (.int p0), .val (.int p1), .val (.int p2), .val (.int p3), .val (.int p4), .val (.int p5), .val (.int p6), .val (.int p7), .val (.int ((p3 - (1 : Int32)) - p1)), .val (.int p5)]) rfl) ?_
            show Go p e below P (s₁.setTop (mkF m 58 #[.val (.int p0), .val (.int p1), .val (.int p2), .val (.int p3), .val (.int p4), .val (.int p5), .val (.int p6), .val (.int p7), .val (.int ((p3 - (1 : Int32)) - p1)), .val (.int p5)] []))
            refine Go.by (fun _ => XS.goto X0.here hx rfl (pc0 := 58) (pc' := 92) rfl (hb hby d8_58) (by decide) (by decide)) ?_
            show Go p e below P (s₁.setTop (mkF m 92 #[.val (.int p0), .val (.int p1), .val (.int p2), .val (.int p3), .val (.int p4), .val (.int p5), .val (.int p6), .val (.int p7), .val (.int ((p3 - (1 : Int32)) - p1)), .val (.int p5)] []))
            refine Go.by (fun _ => XS.iload X0.here hx rfl (hb hby d8_92) rfl) ?_
            show Go p e below P (s₁.setTop (mkF m 94 #[.val (.int p0), .val (.int p1), .val (.int p2), .val (.int p3), .val (.int p4), .val (.int p5), .val (.int p6), .val (.int p7), .val (.int ((p3 - (1 : Int32)) - p1)), .val (.int p5)] [(.int p5)]))
            refine Go.by (fun _ => XS.iloadN X0.here hx rfl (hb hby d8_94) rfl) ?_
            show Go p e below P (s₁.setTop (mkF m 95 #[.val (.int p0), .val (.int p1), .val (.int p2), .val (.int p3), .val (.int p4), .val (.int p5), .val (.int p6), .val (.int p7), .val (.int ((p3 - (1 : Int32)) - p1)), .val (.int p5)] [(.int p0), (.int p5)]))
            refine Go.by (fun _ => XS.bipush X0.here hx rfl (hb hby d8_95)) ?_
            show Go p e below P (s₁.setTop (mkF m 97 #[.val (.int p0), .val (.int p1), .val (.int p2), .val (.int p3), .val (.int p4), .val (.int p5), .val (.int p6), .val (.int p7), .val (.int ((p3 - (1 : Int32)) - p1)), .val (.int p5)] [(.int (48 : Int32)), (.int p0), (.int p5)]))
            refine Go.by (fun _ => XS.isub X0.here hx rfl (hb hby d8_97) rfl) ?_
            show Go p e below P (s₁.setTop (mkF m 98 #[.val (.int p0), .val (.int p1), .val (.int p2), .val (.int p3), .val (.int p4), .val (.int p5), .val (.int p6), .val (.int p7), .val (.int ((p3 - (1 : Int32)) - p1)), .val (.int p5)] [(.int (p0 - (48 : Int32))), (.int p5)]))
            refine Go.by (fun _ => XS.imul X0.here hx rfl (hb hby d8_98) rfl) ?_
            show Go p e below P (s₁.setTop (mkF m 99 #[.val (.int p0), .val (.int p1), .val (.int p2), .val (.int p3), .val (.int p4), .val (.int p5), .val (.int p6), .val (.int p7), .val (.int ((p3 - (1 : Int32)) - p1)), .val (.int p5)] [(.int (p5 * (p0 - (48 : Int32))))]))
            subst hP
            refine Go.retI X0 hx Bd.returns hlk (hb hby d8_99) (Nat.le_of_ble_eq_true rfl) (Nat.le_of_ble_eq_true rfl) ?_
            rw [e0]
            exact ⟨by simp [tm, hc2, hc7, hc22, hc35, hc40], N0, rfl⟩
          · refine Go.by (fun _ => XS.ifNo X0.here hx rfl (hb hby d8_40) rfl ((if0 _ _).trans (feq hc40).1)) ?_
            show Go p e below P (s₁.setTop (mkF m 43 #[.val (.int p0), .val (.int p1), .val (.int p2), .val (.int p3), .val (.int p4), .val (.int p5), .val (.int p6), .val (.int p7), .val (.int ((p3 - (1 : Int32)) - p1)), .unset] []))
            refine Go.by (fun _ => XS.iload X0.here hx rfl (hb hby d8_43) rfl) ?_
            show Go p e below P (s₁.setTop (mkF m 45 #[.val (.int p0), .val (.int p1), .val (.int p2), .val (.int p3), .val (.int p4), .val (.int p5), .val (.int p6), .val (.int p7), .val (.int ((p3 - (1 : Int32)) - p1)), .unset] [(.int ((p3 - (1 : Int32)) - p1))]))
            refine Go.by (fun _ => XS.iconst X0.here hx rfl (hb hby d8_45)) ?_
            show Go p e below P (s₁.setTop (mkF m 46 #[.val (.int p0), .val (.int p1), .val (.int p2), .val (.int p3), .val (.int p4), .val (.int p5), .val (.int p6), .val (.int p7), .val (.int ((p3 - (1 : Int32)) - p1)), .unset] [(.int (2 : Int32)), (.int ((p3 - (1 : Int32)) - p1))]))
            by_cases hc46 : ((p3 - (1 : Int32)) - p1) = (2 : Int32)
            · refine Go.by (fun _ => XS.icmpNo X0.here hx rfl (hb hby d8_46) rfl (teq hc46).2) ?_
              show Go p e below P (s₁.setTop (mkF m 49 #[.val (.int p0), .val (.int p1), .val (.int p2), .val (.int p3), .val (.int p4), .val (.int p5), .val (.int p6), .val (.int p7), .val (.int ((p3 - (1 : Int32)) - p1)), .unset] []))
              refine Go.by (fun _ => XS.iload X0.here hx rfl (hb hby d8_49) rfl) ?_
              show Go p e below P (s₁.setTop (mkF m 51 #[.val (.int p0), .val (.int p1), .val (.int p2), .val (.int p3), .val (.int p4), .val (.int p5), .val (.int p6), .val (.int p7), .val (.int ((p3 - (1 : Int32)) - p1)), .unset] [(.int p5)]))
              refine Go.by (fun _ => XS.goto X0.here hx rfl (pc0 := 51) (pc' := 56) rfl (hb hby d8_51) (by decide) (by decide)) ?_
              show Go p e below P (s₁.setTop (mkF m 56 #[.val (.int p0), .val (.int p1), .val (.int p2), .val (.int p3), .val (.int p4), .val (.int p5), .val (.int p6), .val (.int p7), .val (.int ((p3 - (1 : Int32)) - p1)), .unset] [(.int p5)]))
              refine Go.by (fun _ => XS.istore X0.here hx rfl (hb hby d8_56) rfl (l' := #[.val (.int p0), .val (.int p1), .val (.int p2), .val (.int p3), .val (.int p4), .val (.int p5), .val (.int p6), .val (.int p7), .val (.int ((p3 - (1 : Int32)) - p1)), .val (.int p5)]) rfl) ?_
              show Go p e below P (s₁.setTop (mkF m 58 #[.val (.int p0), .val (.int p1), .val (.int p2), .val (.int p3), .val (.int p4), .val (.int p5), .val (.int p6), .val (.int p7), .val (.int ((p3 - (1 : Int32)) - p1)), .val (.int p5)] []))
              refine Go.by (fun _ => XS.goto X0.here hx rfl (pc0 := 58) (pc' := 92) rfl (hb hby d8_58) (by decide) (by decide)) ?_
              show Go p e below P (s₁.setTop (mkF m 92 #[.val (.int p0), .val (.int p1), .val (.int p2), .val (.int p3), .val (.int p4), .val (.int p5), .val (.int p6), .val (.int p7), .val (.int ((p3 - (1 : Int32)) - p1)), .val (.int p5)] []))
              refine Go.by (fun _ => XS.iload X0.here hx rfl (hb hby d8_92) rfl) ?_
              show Go p e below P (s₁.setTop (mkF m 94 #[.val (.int p0), .val (.int p1), .val (.int p2), .val (.int p3), .val (.int p4), .val (.int p5), .val (.int p6), .val (.int p7), .val (.int ((p3 - (1 : Int32)) - p1)), .val (.int p5)] [(.int p5)]))
              refine Go.by (fun _ => XS.iloadN X0.here hx rfl (hb hby d8_94) rfl) ?_
              show Go p e below P (s₁.setTop (mkF m 95 #[.val (.int p0), .val (.int p1), .val (.int p2), .val (.int p3), .val (.int p4), .val (.int p5), .val (.int p6), .val (.int p7), .val (.int ((p3 - (1 : Int32)) - p1)), .val (.int p5)] [(.int p0), (.int p5)]))
              refine Go.by (fun _ => XS.bipush X0.here hx rfl (hb hby d8_95)) ?_
              show Go p e below P (s₁.setTop (mkF m 97 #[.val (.int p0), .val (.int p1), .val (.int p2), .val (.int p3), .val (.int p4), .val (.int p5), .val (.int p6), .val (.int p7), .val (.int ((p3 - (1 : Int32)) - p1)), .val (.int p5)] [(.int (48 : Int32)), (.int p0), (.int p5)]))
              refine Go.by (fun _ => XS.isub X0.here hx rfl (hb hby d8_97) rfl) ?_
              show Go p e below P (s₁.setTop (mkF m 98 #[.val (.int p0), .val (.int p1), .val (.int p2), .val (.int p3), .val (.int p4), .val (.int p5), .val (.int p6), .val (.int p7), .val (.int ((p3 - (1 : Int32)) - p1)), .val (.int p5)] [(.int (p0 - (48 : Int32))), (.int p5)]))
              refine Go.by (fun _ => XS.imul X0.here hx rfl (hb hby d8_98) rfl) ?_
              show Go p e below P (s₁.setTop (mkF m 99 #[.val (.int p0), .val (.int p1), .val (.int p2), .val (.int p3), .val (.int p4), .val (.int p5), .val (.int p6), .val (.int p7), .val (.int ((p3 - (1 : Int32)) - p1)), .val (.int p5)] [(.int (p5 * (p0 - (48 : Int32))))]))
              subst hP
              refine Go.retI X0 hx Bd.returns hlk (hb hby d8_99) (Nat.le_of_ble_eq_true rfl) (Nat.le_of_ble_eq_true rfl) ?_
              rw [e0]
              exact ⟨by simp [tm, hc2, hc7, hc22, hc35, hc40, hc46], N0, rfl⟩
            · refine Go.by (fun _ => XS.icmpYes X0.here hx rfl (pc0 := 46) (pc' := 54) rfl (hb hby d8_46) rfl (feq hc46).2 (by decide) (by decide)) ?_
              show Go p e below P (s₁.setTop (mkF m 54 #[.val (.int p0), .val (.int p1), .val (.int p2), .val (.int p3), .val (.int p4), .val (.int p5), .val (.int p6), .val (.int p7), .val (.int ((p3 - (1 : Int32)) - p1)), .unset] []))
              refine Go.by (fun _ => XS.iload X0.here hx rfl (hb hby d8_54) rfl) ?_
              show Go p e below P (s₁.setTop (mkF m 56 #[.val (.int p0), .val (.int p1), .val (.int p2), .val (.int p3), .val (.int p4), .val (.int p5), .val (.int p6), .val (.int p7), .val (.int ((p3 - (1 : Int32)) - p1)), .unset] [(.int p6)]))
              refine Go.by (fun _ => XS.istore X0.here hx rfl (hb hby d8_56) rfl (l' := #[.val (.int p0), .val (.int p1), .val (.int p2), .val (.int p3), .val (.int p4), .val (.int p5), .val (.int p6), .val (.int p7), .val (.int ((p3 - (1 : Int32)) - p1)), .val (.int p6)]) rfl) ?_
              show Go p e below P (s₁.setTop (mkF m 58 #[.val (.int p0), .val (.int p1), .val (.int p2), .val (.int p3), .val (.int p4), .val (.int p5), .val (.int p6), .val (.int p7), .val (.int ((p3 - (1 : Int32)) - p1)), .val (.int p6)] []))
              refine Go.by (fun _ => XS.goto X0.here hx rfl (pc0 := 58) (pc' := 92) rfl (hb hby d8_58) (by decide) (by decide)) ?_
              show Go p e below P (s₁.setTop (mkF m 92 #[.val (.int p0), .val (.int p1), .val (.int p2), .val (.int p3), .val (.int p4), .val (.int p5), .val (.int p6), .val (.int p7), .val (.int ((p3 - (1 : Int32)) - p1)), .val (.int p6)] []))
              refine Go.by (fun _ => XS.iload X0.here hx rfl (hb hby d8_92) rfl) ?_
              show Go p e below P (s₁.setTop (mkF m 94 #[.val (.int p0), .val (.int p1), .val (.int p2), .val (.int p3), .val (.int p4), .val (.int p5), .val (.int p6), .val (.int p7), .val (.int ((p3 - (1 : Int32)) - p1)), .val (.int p6)] [(.int p6)]))
              refine Go.by (fun _ => XS.iloadN X0.here hx rfl (hb hby d8_94) rfl) ?_
              show Go p e below P (s₁.setTop (mkF m 95 #[.val (.int p0), .val (.int p1), .val (.int p2), .val (.int p3), .val (.int p4), .val (.int p5), .val (.int p6), .val (.int p7), .val (.int ((p3 - (1 : Int32)) - p1)), .val (.int p6)] [(.int p0), (.int p6)]))
              refine Go.by (fun _ => XS.bipush X0.here hx rfl (hb hby d8_95)) ?_
              show Go p e below P (s₁.setTop (mkF m 97 #[.val (.int p0), .val (.int p1), .val (.int p2), .val (.int p3), .val (.int p4), .val (.int p5), .val (.int p6), .val (.int p7), .val (.int ((p3 - (1 : Int32)) - p1)), .val (.int p6)] [(.int (48 : Int32)), (.int p0), (.int p6)]))
              refine Go.by (fun _ => XS.isub X0.here hx rfl (hb hby d8_97) rfl) ?_
              show Go p e below P (s₁.setTop (mkF m 98 #[.val (.int p0), .val (.int p1), .val (.int p2), .val (.int p3), .val (.int p4), .val (.int p5), .val (.int p6), .val (.int p7), .val (.int ((p3 - (1 : Int32)) - p1)), .val (.int p6)] [(.int (p0 - (48 : Int32))), (.int p6)]))
              refine Go.by (fun _ => XS.imul X0.here hx rfl (hb hby d8_98) rfl) ?_
              show Go p e below P (s₁.setTop (mkF m 99 #[.val (.int p0), .val (.int p1), .val (.int p2), .val (.int p3), .val (.int p4), .val (.int p5), .val (.int p6), .val (.int p7), .val (.int ((p3 - (1 : Int32)) - p1)), .val (.int p6)] [(.int (p6 * (p0 - (48 : Int32))))]))
              subst hP
              refine Go.retI X0 hx Bd.returns hlk (hb hby d8_99) (Nat.le_of_ble_eq_true rfl) (Nat.le_of_ble_eq_true rfl) ?_
              rw [e0]
              exact ⟨by simp [tm, hc2, hc7, hc22, hc35, hc40, hc46], N0, rfl⟩
        · refine Go.by (fun _ => XS.icmpYes X0.here hx rfl (pc0 := 35) (pc' := 61) rfl (hb hby d8_35) rfl (feq hc35).2 (by decide) (by decide)) ?_
          show Go p e below P (s₁.setTop (mkF m 61 #[.val (.int p0), .val (.int p1), .val (.int p2), .val (.int p3), .val (.int p4), .val (.int p5), .val (.int p6), .val (.int p7), .val (.int ((p3 - (1 : Int32)) - p1)), .unset] []))
          refine Go.by (fun _ => XS.iload X0.here hx rfl (hb hby d8_61) rfl) ?_
          show Go p e below P (s₁.setTop (mkF m 63 #[.val (.int p0), .val (.int p1), .val (.int p2), .val (.int p3), .val (.int p4), .val (.int p5), .val (.int p6), .val (.int p7), .val (.int ((p3 - (1 : Int32)) - p1)), .unset] [(.int ((p3 - (1 : Int32)) - p1))]))
          by_cases hc63 : ((p3 - (1 : Int32)) - p1) = (0 : Int32)
          · refine Go.by (fun _ => XS.ifYes X0.here hx rfl (pc0 := 63) (pc' := 72) rfl (hb hby d8_63) rfl ((if0 _ _).trans (teq hc63).1) (by decide) (by decide)) ?_
            show Go p e below P (s₁.setTop (mkF m 72 #[.val (.int p0), .val (.int p1), .val (.int p2), .val (.int p3), .val (.int p4), .val (.int p5), .val (.int p6), .val (.int p7), .val (.int ((p3 - (1 : Int32)) - p1)), .unset] []))
            refine Go.by (fun _ => XS.iload X0.here hx rfl (hb hby d8_72) rfl) ?_
            show Go p e below P (s₁.setTop (mkF m 74 #[.val (.int p0), .val (.int p1), .val (.int p2), .val (.int p3), .val (.int p4), .val (.int p5), .val (.int p6), .val (.int p7), .val (.int ((p3 - (1 : Int32)) - p1)), .unset] [(.int p5)]))
            refine Go.by (fun _ => XS.goto X0.here hx rfl (pc0 := 74) (pc' := 90) rfl (hb hby d8_74) (by decide) (by decide)) ?_
            show Go p e below P (s₁.setTop (mkF m 90 #[.val (.int p0), .val (.int p1), .val (.int p2), .val (.int p3), .val (.int p4), .val (.int p5), .val (.int p6), .val (.int p7), .val (.int ((p3 - (1 : Int32)) - p1)), .unset] [(.int p5)]))
            refine Go.by (fun _ => XS.istore X0.here hx rfl (hb hby d8_90) rfl (l' := #[.val (.int p0), .val (.int p1), .val (.int p2), .val (.int p3), .val (.int p4), .val (.int p5), .val (.int p6), .val (.int p7), .val (.int ((p3 - (1 : Int32)) - p1)), .val (.int p5)]) rfl) ?_
            show Go p e below P (s₁.setTop (mkF m 92 #[.val (.int p0), .val (.int p1), .val (.int p2), .val (.int p3), .val (.int p4), .val (.int p5), .val (.int p6), .val (.int p7), .val (.int ((p3 - (1 : Int32)) - p1)), .val (.int p5)] []))
            refine Go.by (fun _ => XS.iload X0.here hx rfl (hb hby d8_92) rfl) ?_
            show Go p e below P (s₁.setTop (mkF m 94 #[.val (.int p0), .val (.int p1), .val (.int p2), .val (.int p3), .val (.int p4), .val (.int p5), .val (.int p6), .val (.int p7), .val (.int ((p3 - (1 : Int32)) - p1)), .val (.int p5)] [(.int p5)]))
            refine Go.by (fun _ => XS.iloadN X0.here hx rfl (hb hby d8_94) rfl) ?_
            show Go p e below P (s₁.setTop (mkF m 95 #[.val (.int p0), .val (.int p1), .val (.int p2), .val (.int p3), .val (.int p4), .val (.int p5), .val (.int p6), .val (.int p7), .val (.int ((p3 - (1 : Int32)) - p1)), .val (.int p5)] [(.int p0), (.int p5)]))
            refine Go.by (fun _ => XS.bipush X0.here hx rfl (hb hby d8_95)) ?_
            show Go p e below P (s₁.setTop (mkF m 97 #[.val (.int p0), .val (.int p1), .val (.int p2), .val (.int p3), .val (.int p4), .val (.int p5), .val (.int p6), .val (.int p7), .val (.int ((p3 - (1 : Int32)) - p1)), .val (.int p5)] [(.int (48 : Int32)), (.int p0), (.int p5)]))
            refine Go.by (fun _ => XS.isub X0.here hx rfl (hb hby d8_97) rfl) ?_
            show Go p e below P (s₁.setTop (mkF m 98 #[.val (.int p0), .val (.int p1), .val (.int p2), .val (.int p3), .val (.int p4), .val (.int p5), .val (.int p6), .val (.int p7), .val (.int ((p3 - (1 : Int32)) - p1)), .val (.int p5)] [(.int (p0 - (48 : Int32))), (.int p5)]))
            refine Go.by (fun _ => XS.imul X0.here hx rfl (hb hby d8_98) rfl) ?_
            show Go p e below P (s₁.setTop (mkF m 99 #[.val (.int p0), .val (.int p1), .val (.int p2), .val (.int p3), .val (.int p4), .val (.int p5), .val (.int p6), .val (.int p7), .val (.int ((p3 - (1 : Int32)) - p1)), .val (.int p5)] [(.int (p5 * (p0 - (48 : Int32))))]))
            subst hP
            refine Go.retI X0 hx Bd.returns hlk (hb hby d8_99) (Nat.le_of_ble_eq_true rfl) (Nat.le_of_ble_eq_true rfl) ?_
            rw [e0]
            exact ⟨by simp [tm, hc2, hc7, hc22, hc35, hc63], N0, rfl⟩
          · refine Go.by (fun _ => XS.ifNo X0.here hx rfl (hb hby d8_63) rfl ((if0 _ _).trans (feq hc63).1)) ?_
            show Go p e below P (s₁.setTop (mkF m 66 #[.val (.int p0), .val (.int p1), .val (.int p2), .val (.int p3), .val (.int p4), .val (.int p5), .val (.int p6), .val (.int p7), .val (.int ((p3 - (1 : Int32)) - p1)), .unset] []))
            refine Go.by (fun _ => XS.iload X0.here hx rfl (hb hby d8_66) rfl) ?_
            show Go p e below P (s₁.setTop (mkF m 68 #[.val (.int p0), .val (.int p1), .val (.int p2), .val (.int p3), .val (.int p4), .val (.int p5), .val (.int p6), .val (.int p7), .val (.int ((p3 - (1 : Int32)) - p1)), .unset] [(.int ((p3 - (1 : Int32)) - p1))]))
            refine Go.by (fun _ => XS.iconst X0.here hx rfl (hb hby d8_68)) ?_
            show Go p e below P (s₁.setTop (mkF m 69 #[.val (.int p0), .val (.int p1), .val (.int p2), .val (.int p3), .val (.int p4), .val (.int p5), .val (.int p6), .val (.int p7), .val (.int ((p3 - (1 : Int32)) - p1)), .unset] [(.int (3 : Int32)), (.int ((p3 - (1 : Int32)) - p1))]))
            by_cases hc69 : ((p3 - (1 : Int32)) - p1) = (3 : Int32)
            · refine Go.by (fun _ => XS.icmpNo X0.here hx rfl (hb hby d8_69) rfl (teq hc69).2) ?_
              show Go p e below P (s₁.setTop (mkF m 72 #[.val (.int p0), .val (.int p1), .val (.int p2), .val (.int p3), .val (.int p4), .val (.int p5), .val (.int p6), .val (.int p7), .val (.int ((p3 - (1 : Int32)) - p1)), .unset] []))
              refine Go.by (fun _ => XS.iload X0.here hx rfl (hb hby d8_72) rfl) ?_
              show Go p e below P (s₁.setTop (mkF m 74 #[.val (.int p0), .val (.int p1), .val (.int p2), .val (.int p3), .val (.int p4), .val (.int p5), .val (.int p6), .val (.int p7), .val (.int ((p3 - (1 : Int32)) - p1)), .unset] [(.int p5)]))
              refine Go.by (fun _ => XS.goto X0.here hx rfl (pc0 := 74) (pc' := 90) rfl (hb hby d8_74) (by decide) (by decide)) ?_
              show Go p e below P (s₁.setTop (mkF m 90 #[.val (.int p0), .val (.int p1), .val (.int p2), .val (.int p3), .val (.int p4), .val (.int p5), .val (.int p6), .val (.int p7), .val (.int ((p3 - (1 : Int32)) - p1)), .unset] [(.int p5)]))
              refine Go.by (fun _ => XS.istore X0.here hx rfl (hb hby d8_90) rfl (l' := #[.val (.int p0), .val (.int p1), .val (.int p2), .val (.int p3), .val (.int p4), .val (.int p5), .val (.int p6), .val (.int p7), .val (.int ((p3 - (1 : Int32)) - p1)), .val (.int p5)]) rfl) ?_
              show Go p e below P (s₁.setTop (mkF m 92 #[.val (.int p0), .val (.int p1), .val (.int p2), .val (.int p3), .val (.int p4), .val (.int p5), .val (.int p6), .val (.int p7), .val (.int ((p3 - (1 : Int32)) - p1)), .val (.int p5)] []))
              refine Go.by (fun _ => XS.iload X0.here hx rfl (hb hby d8_92) rfl) ?_
              show Go p e below P (s₁.setTop (mkF m 94 #[.val (.int p0), .val (.int p1), .val (.int p2), .val (.int p3), .val (.int p4), .val (.int p5), .val (.int p6), .val (.int p7), .val (.int ((p3 - (1 : Int32)) - p1)), .val (.int p5)] [(.int p5)]))
              refine Go.by (fun _ => XS.iloadN X0.here hx rfl (hb hby d8_94) rfl) ?_
              show Go p e below P (s₁.setTop (mkF m 95 #[.val (.int p0), .val (.int p1), .val (.int p2), .val (.int p3), .val (.int p4), .val (.int p5), .val (.int p6), .val (.int p7), .val (.int ((p3 - (1 : Int32)) - p1)), .val (.int p5)] [(.int p0), (.int p5)]))
              refine Go.by (fun _ => XS.bipush X0.here hx rfl (hb hby d8_95)) ?_
              show Go p e below P (s₁.setTop (mkF m 97 #[.val (.int p0), .val (.int p1), .val (.int p2), .val (.int p3), .val (.int p4), .val (.int p5), .val (.int p6), .val (.int p7), .val (.int ((p3 - (1 : Int32)) - p1)), .val (.int p5)] [(.int (48 : Int32)), (.int p0), (.int p5)]))
              refine Go.by (fun _ => XS.isub X0.here hx rfl (hb hby d8_97) rfl) ?_
              show Go p e below P (s₁.setTop (mkF m 98 #[.val (.int p0), .val (.int p1), .val (.int p2), .val (.int p3), .val (.int p4), .val (.int p5), .val (.int p6), .val (.int p7), .val (.int ((p3 - (1 : Int32)) - p1)), .val (.int p5)] [(.int (p0 - (48 : Int32))), (.int p5)]))
              refine Go.by (fun _ => XS.imul X0.here hx rfl (hb hby d8_98) rfl) ?_
              show Go p e below P (s₁.setTop (mkF m 99 #[.val (.int p0), .val (.int p1), .val (.int p2), .val (.int p3), .val (.int p4), .val (.int p5), .val (.int p6), .val (.int p7), .val (.int ((p3 - (1 : Int32)) - p1)), .val (.int p5)] [(.int (p5 * (p0 - (48 : Int32))))]))
              subst hP
              refine Go.retI X0 hx Bd.returns hlk (hb hby d8_99) (Nat.le_of_ble_eq_true rfl) (Nat.le_of_ble_eq_true rfl) ?_
              rw [e0]
              exact ⟨by simp [tm, hc2, hc7, hc22, hc35, hc63, hc69], N0, rfl⟩
            · refine Go.by (fun _ => XS.icmpYes X0.here hx rfl (pc0 := 69) (pc' := 77) rfl (hb hby d8_69) rfl (feq hc69).2 (by decide) (by decide)) ?_
              show Go p e below P (s₁.setTop (mkF m 77 #[.val (.int p0), .val (.int p1), .val (.int p2), .val (.int p3), .val (.int p4), .val (.int p5), .val (.int p6), .val (.int p7), .val (.int ((p3 - (1 : Int32)) - p1)), .unset] []))
              refine Go.by (fun _ => XS.iload X0.here hx rfl (hb hby d8_77) rfl) ?_
              show Go p e below P (s₁.setTop (mkF m 79 #[.val (.int p0), .val (.int p1), .val (.int p2), .val (.int p3), .val (.int p4), .val (.int p5), .val (.int p6), .val (.int p7), .val (.int ((p3 - (1 : Int32)) - p1)), .unset] [(.int ((p3 - (1 : Int32)) - p1))]))
              refine Go.by (fun _ => XS.iconst X0.here hx rfl (hb hby d8_79)) ?_
              show Go p e below P (s₁.setTop (mkF m 80 #[.val (.int p0), .val (.int p1), .val (.int p2), .val (.int p3), .val (.int p4), .val (.int p5), .val (.int p6), .val (.int p7), .val (.int ((p3 - (1 : Int32)) - p1)), .unset] [(.int (1 : Int32)), (.int ((p3 - (1 : Int32)) - p1))]))
              by_cases hc80 : ((p3 - (1 : Int32)) - p1) = (1 : Int32)
              · refine Go.by (fun _ => XS.icmpNo X0.here hx rfl (hb hby d8_80) rfl (teq hc80).2) ?_
                show Go p e below P (s₁.setTop (mkF m 83 #[.val (.int p0), .val (.int p1), .val (.int p2), .val (.int p3), .val (.int p4), .val (.int p5), .val (.int p6), .val (.int p7), .val (.int ((p3 - (1 : Int32)) - p1)), .unset] []))
                refine Go.by (fun _ => XS.iload X0.here hx rfl (hb hby d8_83) rfl) ?_
                show Go p e below P (s₁.setTop (mkF m 85 #[.val (.int p0), .val (.int p1), .val (.int p2), .val (.int p3), .val (.int p4), .val (.int p5), .val (.int p6), .val (.int p7), .val (.int ((p3 - (1 : Int32)) - p1)), .unset] [(.int p6)]))
                refine Go.by (fun _ => XS.goto X0.here hx rfl (pc0 := 85) (pc' := 90) rfl (hb hby d8_85) (by decide) (by decide)) ?_
                show Go p e below P (s₁.setTop (mkF m 90 #[.val (.int p0), .val (.int p1), .val (.int p2), .val (.int p3), .val (.int p4), .val (.int p5), .val (.int p6), .val (.int p7), .val (.int ((p3 - (1 : Int32)) - p1)), .unset] [(.int p6)]))
                refine Go.by (fun _ => XS.istore X0.here hx rfl (hb hby d8_90) rfl (l' := #[.val (.int p0), .val (.int p1), .val (.int p2), .val (.int p3), .val (.int p4), .val (.int p5), .val (.int p6), .val (.int p7), .val (.int ((p3 - (1 : Int32)) - p1)), .val (.int p6)]) rfl) ?_
                show Go p e below P (s₁.setTop (mkF m 92 #[.val (.int p0), .val (.int p1), .val (.int p2), .val (.int p3), .val (.int p4), .val (.int p5), .val (.int p6), .val (.int p7), .val (.int ((p3 - (1 : Int32)) - p1)), .val (.int p6)] []))
                refine Go.by (fun _ => XS.iload X0.here hx rfl (hb hby d8_92) rfl) ?_
                show Go p e below P (s₁.setTop (mkF m 94 #[.val (.int p0), .val (.int p1), .val (.int p2), .val (.int p3), .val (.int p4), .val (.int p5), .val (.int p6), .val (.int p7), .val (.int ((p3 - (1 : Int32)) - p1)), .val (.int p6)] [(.int p6)]))
                refine Go.by (fun _ => XS.iloadN X0.here hx rfl (hb hby d8_94) rfl) ?_
                show Go p e below P (s₁.setTop (mkF m 95 #[.val (.int p0), .val (.int p1), .val (.int p2), .val (.int p3), .val (.int p4), .val (.int p5), .val (.int p6), .val (.int p7), .val (.int ((p3 - (1 : Int32)) - p1)), .val (.int p6)] [(.int p0), (.int p6)]))
                refine Go.by (fun _ => XS.bipush X0.here hx rfl (hb hby d8_95)) ?_
                show Go p e below P (s₁.setTop (mkF m 97 #[.val (.int p0), .val (.int p1), .val (.int p2), .val (.int p3), .val (.int p4), .val (.int p5), .val (.int p6), .val (.int p7), .val (.int ((p3 - (1 : Int32)) - p1)), .val (.int p6)] [(.int (48 : Int32)), (.int p0), (.int p6)]))
                refine Go.by (fun _ => XS.isub X0.here hx rfl (hb hby d8_97) rfl) ?_
                show Go p e below P (s₁.setTop (mkF m 98 #[.val (.int p0), .val (.int p1), .val (.int p2), .val (.int p3), .val (.int p4), .val (.int p5), .val (.int p6), .val (.int p7), .val (.int ((p3 - (1 : Int32)) - p1)), .val (.int p6)] [(.int (p0 - (48 : Int32))), (.int p6)]))
                refine Go.by (fun _ => XS.imul X0.here hx rfl (hb hby d8_98) rfl) ?_
                show Go p e below P (s₁.setTop (mkF m 99 #[.val (.int p0), .val (.int p1), .val (.int p2), .val (.int p3), .val (.int p4), .val (.int p5), .val (.int p6), .val (.int p7), .val (.int ((p3 - (1 : Int32)) - p1)), .val (.int p6)] [(.int (p6 * (p0 - (48 : Int32))))]))
                subst hP
                refine Go.retI X0 hx Bd.returns hlk (hb hby d8_99) (Nat.le_of_ble_eq_true rfl) (Nat.le_of_ble_eq_true rfl) ?_
                rw [e0]
                exact ⟨by simp [tm, hc2, hc7, hc22, hc35, hc63, hc69, hc80], N0, rfl⟩
              · refine Go.by (fun _ => XS.icmpYes X0.here hx rfl (pc0 := 80) (pc' := 88) rfl (hb hby d8_80) rfl (feq hc80).2 (by decide) (by decide)) ?_
                show Go p e below P (s₁.setTop (mkF m 88 #[.val (.int p0), .val (.int p1), .val (.int p2), .val (.int p3), .val (.int p4), .val (.int p5), .val (.int p6), .val (.int p7), .val (.int ((p3 - (1 : Int32)) - p1)), .unset] []))
                refine Go.by (fun _ => XS.iload X0.here hx rfl (hb hby d8_88) rfl) ?_
                show Go p e below P (s₁.setTop (mkF m 90 #[.val (.int p0), .val (.int p1), .val (.int p2), .val (.int p3), .val (.int p4), .val (.int p5), .val (.int p6), .val (.int p7), .val (.int ((p3 - (1 : Int32)) - p1)), .unset] [(.int p7)]))
                refine Go.by (fun _ => XS.istore X0.here hx rfl (hb hby d8_90) rfl (l' := #[.val (.int p0), .val (.int p1), .val (.int p2), .val (.int p3), .val (.int p4), .val (.int p5), .val (.int p6), .val (.int p7), .val (.int ((p3 - (1 : Int32)) - p1)), .val (.int p7)]) rfl) ?_
                show Go p e below P (s₁.setTop (mkF m 92 #[.val (.int p0), .val (.int p1), .val (.int p2), .val (.int p3), .val (.int p4), .val (.int p5), .val (.int p6), .val (.int p7), .val (.int ((p3 - (1 : Int32)) - p1)), .val (.int p7)] []))
                refine Go.by (fun _ => XS.iload X0.here hx rfl (hb hby d8_92) rfl) ?_
                show Go p e below P (s₁.setTop (mkF m 94 #[.val (.int p0), .val (.int p1), .val (.int p2), .val (.int p3), .val (.int p4), .val (.int p5), .val (.int p6), .val (.int p7), .val (.int ((p3 - (1 : Int32)) - p1)), .val (.int p7)] [(.int p7)]))
                refine Go.by (fun _ => XS.iloadN X0.here hx rfl (hb hby d8_94) rfl) ?_
                show Go p e below P (s₁.setTop (mkF m 95 #[.val (.int p0), .val (.int p1), .val (.int p2), .val (.int p3), .val (.int p4), .val (.int p5), .val (.int p6), .val (.int p7), .val (.int ((p3 - (1 : Int32)) - p1)), .val (.int p7)] [(.int p0), (.int p7)]))
                refine Go.by (fun _ => XS.bipush X0.here hx rfl (hb hby d8_95)) ?_
                show Go p e below P (s₁.setTop (mkF m 97 #[.val (.int p0), .val (.int p1), .val (.int p2), .val (.int p3), .val (.int p4), .val (.int p5), .val (.int p6), .val (.int p7), .val (.int ((p3 - (1 : Int32)) - p1)), .val (.int p7)] [(.int (48 : Int32)), (.int p0), (.int p7)]))
                refine Go.by (fun _ => XS.isub X0.here hx rfl (hb hby d8_97) rfl) ?_
                show Go p e below P (s₁.setTop (mkF m 98 #[.val (.int p0), .val (.int p1), .val (.int p2), .val (.int p3), .val (.int p4), .val (.int p5), .val (.int p6), .val (.int p7), .val (.int ((p3 - (1 : Int32)) - p1)), .val (.int p7)] [(.int (p0 - (48 : Int32))), (.int p7)]))
                refine Go.by (fun _ => XS.imul X0.here hx rfl (hb hby d8_98) rfl) ?_
                show Go p e below P (s₁.setTop (mkF m 99 #[.val (.int p0), .val (.int p1), .val (.int p2), .val (.int p3), .val (.int p4), .val (.int p5), .val (.int p6), .val (.int p7), .val (.int ((p3 - (1 : Int32)) - p1)), .val (.int p7)] [(.int (p7 * (p0 - (48 : Int32))))]))
                subst hP
                refine Go.retI X0 hx Bd.returns hlk (hb hby d8_99) (Nat.le_of_ble_eq_true rfl) (Nat.le_of_ble_eq_true rfl) ?_
                rw [e0]
                exact ⟨by simp [tm, hc2, hc7, hc22, hc35, hc63, hc69, hc80], N0, rfl⟩
    · refine Go.by (fun _ => XS.icmpNo X0.here hx rfl (hb hby d8_7) rfl (flt hc7).1) ?_
      show Go p e below P (s₁.setTop (mkF m 10 #[.val (.int p0), .val (.int p1), .val (.int p2), .val (.int p3), .val (.int p4), .val (.int p5), .val (.int p6), .val (.int p7), .unset, .unset] []))
      refine Go.by (fun _ => XS.iconst X0.here hx rfl (hb hby d8_10)) ?_
      show Go p e below P (s₁.setTop (mkF m 11 #[.val (.int p0), .val (.int p1), .val (.int p2), .val (.int p3), .val (.int p4), .val (.int p5), .val (.int p6), .val (.int p7), .unset, .unset] [(.int (0 : Int32))]))
      subst hP
      refine Go.retI X0 hx Bd.returns hlk (hb hby d8_11) (Nat.le_of_ble_eq_true rfl) (Nat.le_of_ble_eq_true rfl) ?_
      rw [e0]
      exact ⟨by simp [tm, hc2, hc7], N0, rfl⟩
theorem ef_law (m : MethodId) (x0 : Int32) (x1 : Int32) (x2 : Int32) (x3 : Int32) (x4 : Int32) : entryFrame m #[(.int x0), (.int x1), (.int x2), (.int x3), (.int x4)] maxLocals = mkF m 0 #[.val (.int x0), .val (.int x1), .val (.int x2), .val (.int x3), .val (.int x4), .unset, .unset, .unset, .unset, .unset, .unset, .unset, .unset] [] := by first | (simp [entryFrame, mkF, argsToLocals, Value.category, maxLocals]; done) | rfl
def Q_law (Z : State) (zC : Int32) (fmV : Value) (p0 : Int32) (p1 : Int32) (p2 : Int32) (p3 : Int32) (p4 : Int32) (h0 : Heap) (n0 : Nat) (v : Option Value) (h : Heap) (L : List Loc) : Prop := v = some (.int 1) ∧ Fr n0 L
set_option maxRecDepth 65536 in
set_option maxHeartbeats 40000000 in
theorem rm_law (l : Launch) (Z : State) (a0 : Array Value) (hw : ∀ d ∈ tables_1, d.before a0 Z = true) (ws : List Jvm.Cond) (zC : Int32) (fmV : Value) (hG : Glob Z zC fmV) (p0 : Int32) (p1 : Int32) (p2 : Int32) (p3 : Int32) (p4 : Int32) (h0 : Heap) (n0 : Nat) (Z0 : n0 ≤ h0.size) (O0 : Old Z n0 h0) :
    MetFree l x (head1 (Jvm.Cond.code x code maxLocals ret :: ws) room_1) (fun a U => a = #[(.int p0), (.int p1), (.int p2), (.int p3), (.int p4)] ∧ Z.Warmed39 U.vm ∧ U.heap = h0) (fun _ _ _ _ _ => True) (fun _ U o U' => ∃ v L, o = .returned v ∧ Q_law Z zC fmV p0 p1 p2 p3 p4 h0 n0 v U'.heap L ∧ FrameEnd U o U' L 4 15) := by
  refine MetFree.of_bodySF (plainFor_of_name pn_1) hisR ?_
  intro p e s m args below meth c s₁ Bd hml0 hP hK
  obtain ⟨rfl, hZ, hh⟩ := hP
  have hx := Bd.exec
  have hby := Bd.bytes
  have hml : c.maxLocals = 13 := hml0
  have hown : s.vm.findClass "com/example/kontoform/kontoform/WeightedSumsFromRightPinLaw" = some m.cls := findClass_of_methodNamed Bd.named
  have hnm := (name_of_methodNamed Bd.named Bd.method).1
  have hlk : meth.locks = false := BodyLoose.notSynchronized Bd
  have X0 : Stand p l e room_1 s m #[(.int p0), (.int p1), (.int p2), (.int p3), (.int p4)] below meth c s₁ [] 0 0 := Stand.of_body Bd
  have e0 : s₁.heap = h0 := by rw [← hh, Bd.state]; rfl
  have N0 := Fr.nil n0
  obtain ⟨G0, G1, own_cs, own_fm⟩ := id hG
  show Go p e below (End s (Q_law Z zC fmV p0 p1 p2 p3 p4 h0 n0) 4 15) (s₁.setTop (entryFrame m #[(.int p0), (.int p1), (.int p2), (.int p3), (.int p4)] maxLocals))
  rw [ef_law]
  generalize hP : End s (Q_law Z zC fmV p0 p1 p2 p3 p4 h0 n0) 4 15 = P
  show Go p e below P (s₁.setTop (mkF m 0 #[.val (.int p0), .val (.int p1), .val (.int p2), .val (.int p3), .val (.int p4), .unset, .unset, .unset, .unset, .unset, .unset, .unset, .unset] []))
  refine Go.by (fun _ => XS.iconst X0.here hx rfl (hb hby at_0)) ?_
  show Go p e below P (s₁.setTop (mkF m 1 #[.val (.int p0), .val (.int p1), .val (.int p2), .val (.int p3), .val (.int p4), .unset, .unset, .unset, .unset, .unset, .unset, .unset, .unset] [(.int (4 : Int32))]))
  obtain ⟨T1, h1, k1, X1, e1, E1, A1, st1⟩ := newP X0 hx hZ (hw _ (List.mem_of_getElem? (i := 0) rfl)) e0 (g := (mkF m 1 #[.val (.int p0), .val (.int p1), .val (.int p2), .val (.int p3), .val (.int p4), .unset, .unset, .unset, .unset, .unset, .unset, .unset, .unset] [(.int (4 : Int32))])) rfl (hb hby at_1) rfl (by decide) (cap := 4) (by decide) (Nat.le_of_ble_eq_true rfl) (Nat.le_of_ble_eq_true rfl) (Nat.le_of_ble_eq_true rfl)
  obtain ⟨b1, q1⟩ : ∃ z, z = h0.size := ⟨_, rfl⟩
  rw [← q1] at A1 st1
  refine Go.by (fun _ => st1 _) ?_
  have g_b1 : n0 ≤ b1 := Nat.le_trans Z0 (Nat.le_of_eq q1.symm)
  have O1 := O0.ext E1
  have Z1 : n0 ≤ h1.size := Nat.le_trans Z0 E1.1
  have F2 : Arv Z h1 b1 k1 .char (4 : Int32) [(.int (0 : Int32)), (.int (0 : Int32)), (.int (0 : Int32)), (.int (0 : Int32))] (.int (0 : Int32)) := (Arv.new A1 (by decide)).pad (pad_rep [] (.int (0 : Int32)) 4)
  show Go p e below P (T1.setTop (mkF m 3 #[.val (.int p0), .val (.int p1), .val (.int p2), .val (.int p3), .val (.int p4), .unset, .unset, .unset, .unset, .unset, .unset, .unset, .unset] [(.ref b1)]))
  refine Go.by (fun _ => XS.astore X1.here hx rfl (hb hby at_3) rfl rfl (l' := #[.val (.int p0), .val (.int p1), .val (.int p2), .val (.int p3), .val (.int p4), .val (.ref b1), .unset, .unset, .unset, .unset, .unset, .unset, .unset]) rfl) ?_
  show Go p e below P (T1.setTop (mkF m 5 #[.val (.int p0), .val (.int p1), .val (.int p2), .val (.int p3), .val (.int p4), .val (.ref b1), .unset, .unset, .unset, .unset, .unset, .unset, .unset] []))
  refine Go.by (fun _ => XS.aload X1.here hx rfl (hb hby at_5) rfl rfl) ?_
  show Go p e below P (T1.setTop (mkF m 7 #[.val (.int p0), .val (.int p1), .val (.int p2), .val (.int p3), .val (.int p4), .val (.ref b1), .unset, .unset, .unset, .unset, .unset, .unset, .unset] [(.ref b1)]))
  refine Go.by (fun _ => XS.iconst X1.here hx rfl (hb hby at_7)) ?_
  show Go p e below P (T1.setTop (mkF m 8 #[.val (.int p0), .val (.int p1), .val (.int p2), .val (.int p3), .val (.int p4), .val (.ref b1), .unset, .unset, .unset, .unset, .unset, .unset, .unset] [(.int (0 : Int32)), (.ref b1)]))
  refine Go.by (fun _ => XS.iloadN X1.here hx rfl (hb hby at_8) rfl) ?_
  show Go p e below P (T1.setTop (mkF m 9 #[.val (.int p0), .val (.int p1), .val (.int p2), .val (.int p3), .val (.int p4), .val (.ref b1), .unset, .unset, .unset, .unset, .unset, .unset, .unset] [(.int p0), (.int (0 : Int32)), (.ref b1)]))
  refine Go.by (fun _ => XS.sipush X1.here hx rfl (hb hby at_9)) ?_
  show Go p e below P (T1.setTop (mkF m 12 #[.val (.int p0), .val (.int p1), .val (.int p2), .val (.int p3), .val (.int p4), .val (.ref b1), .unset, .unset, .unset, .unset, .unset, .unset, .unset] [(.int (255 : Int32)), (.int p0), (.int (0 : Int32)), (.ref b1)]))
  refine Go.by (fun _ => XS.iand X1.here hx rfl (hb hby at_12) rfl) ?_
  show Go p e below P (T1.setTop (mkF m 13 #[.val (.int p0), .val (.int p1), .val (.int p2), .val (.int p3), .val (.int p4), .val (.ref b1), .unset, .unset, .unset, .unset, .unset, .unset, .unset] [(.int (p0 &&& (255 : Int32))), (.int (0 : Int32)), (.ref b1)]))
  refine Go.by (fun _ => XS.i2c X1.here hx rfl (hb hby at_13) rfl) ?_
  show Go p e below P (T1.setTop (mkF m 14 #[.val (.int p0), .val (.int p1), .val (.int p2), .val (.int p3), .val (.int p4), .val (.ref b1), .unset, .unset, .unset, .unset, .unset, .unset, .unset] [(.int (((p0 &&& (255 : Int32))).toUInt32.toUInt16.toUInt32.toInt32)), (.int (0 : Int32)), (.ref b1)]))
  generalize hv_c0 : (((p0 &&& (255 : Int32))).toUInt32.toUInt16.toUInt32.toInt32) = c0
  have hn_c0 : nar .char c0 = c0 := by rw [← hv_c0]; exact own_narc _
  have hr_c0 : ¬ c0 < 0 ∧ ¬ (255 : Int32) < c0 := by rw [← hv_c0]; exact own_chr _
  obtain ⟨cl3, Ar3, qc3, Sz3, Ng3, Hs3, Gf3⟩ := id (F2)
  have hin3 : ¬ ((0 : Int32) < 0 ∨ cl3.slots.size ≤ ((0 : Int32)).toNatClampNeg) := inb_of Sz3 ⟨by decide, by decide⟩
  obtain ⟨T3, h3, X3, e3, W3, st3⟩ := stC X1 hx hZ e1 Ar3 (j := (0 : Int32)) hin3 (g := (mkF m 14 #[.val (.int p0), .val (.int p1), .val (.int p2), .val (.int p3), .val (.int p4), .val (.ref b1), .unset, .unset, .unset, .unset, .unset, .unset, .unset] [(.int c0), (.int (0 : Int32)), (.ref b1)])) rfl rfl (hb hby at_14)
  refine Go.by (fun _ => st3 _) ?_
  have O3 := O1.wr W3 g_b1
  have Z3 : n0 ≤ h3.size := Nat.le_trans Z1 (Keep.of_wr W3).1
  have F4 : Arv Z h3 b1 k1 .char (4 : Int32) [(.int c0), (.int (0 : Int32)), (.int (0 : Int32)), (.int (0 : Int32))] (.int (0 : Int32)) := (by have q := Arv.set Ar3 qc3 Sz3 Ng3 Hs3 Gf3 (fits_nar_char _) W3 0 rfl (Nat.le_of_ble_eq_true rfl); rw [hn_c0] at q; exact q)
  have N3 := Fr.snoc X3 N0 g_b1
  show Go p e below P (T3.setTop (mkF m 15 #[.val (.int p0), .val (.int p1), .val (.int p2), .val (.int p3), .val (.int p4), .val (.ref b1), .unset, .unset, .unset, .unset, .unset, .unset, .unset] []))
  refine Go.by (fun _ => XS.aload X3.here hx rfl (hb hby at_15) rfl rfl) ?_
  show Go p e below P (T3.setTop (mkF m 17 #[.val (.int p0), .val (.int p1), .val (.int p2), .val (.int p3), .val (.int p4), .val (.ref b1), .unset, .unset, .unset, .unset, .unset, .unset, .unset] [(.ref b1)]))
  refine Go.by (fun _ => XS.iconst X3.here hx rfl (hb hby at_17)) ?_
  show Go p e below P (T3.setTop (mkF m 18 #[.val (.int p0), .val (.int p1), .val (.int p2), .val (.int p3), .val (.int p4), .val (.ref b1), .unset, .unset, .unset, .unset, .unset, .unset, .unset] [(.int (1 : Int32)), (.ref b1)]))
  refine Go.by (fun _ => XS.iloadN X3.here hx rfl (hb hby at_18) rfl) ?_
  show Go p e below P (T3.setTop (mkF m 19 #[.val (.int p0), .val (.int p1), .val (.int p2), .val (.int p3), .val (.int p4), .val (.ref b1), .unset, .unset, .unset, .unset, .unset, .unset, .unset] [(.int p0), (.int (1 : Int32)), (.ref b1)]))
  refine Go.by (fun _ => XS.bipush X3.here hx rfl (hb hby at_19)) ?_
  show Go p e below P (T3.setTop (mkF m 21 #[.val (.int p0), .val (.int p1), .val (.int p2), .val (.int p3), .val (.int p4), .val (.ref b1), .unset, .unset, .unset, .unset, .unset, .unset, .unset] [(.int (8 : Int32)), (.int p0), (.int (1 : Int32)), (.ref b1)]))
  refine Go.by (fun _ => XS.iushr X3.here hx rfl (hb hby at_21) rfl) ?_
  show Go p e below P (T3.setTop (mkF m 22 #[.val (.int p0), .val (.int p1), .val (.int p2), .val (.int p3), .val (.int p4), .val (.ref b1), .unset, .unset, .unset, .unset, .unset, .unset, .unset] [(.int (((p0).toUInt32 >>> ((8 : Int32) &&& 31).toUInt32).toInt32)), (.int (1 : Int32)), (.ref b1)]))
  refine Go.by (fun _ => XS.sipush X3.here hx rfl (hb hby at_22)) ?_
  show Go p e below P (T3.setTop (mkF m 25 #[.val (.int p0), .val (.int p1), .val (.int p2), .val (.int p3), .val (.int p4), .val (.ref b1), .unset, .unset, .unset, .unset, .unset, .unset, .unset] [(.int (255 : Int32)), (.int (((p0).toUInt32 >>> ((8 : Int32) &&& 31).toUInt32).toInt32)), (.int (1 : Int32)), (.ref b1)]))
  refine Go.by (fun _ => XS.iand X3.here hx rfl (hb hby at_25) rfl) ?_
  show Go p e below P (T3.setTop (mkF m 26 #[.val (.int p0), .val (.int p1), .val (.int p2), .val (.int p3), .val (.int p4), .val (.ref b1), .unset, .unset, .unset, .unset, .unset, .unset, .unset] [(.int ((((p0).toUInt32 >>> ((8 : Int32) &&& 31).toUInt32).toInt32) &&& (255 : Int32))), (.int (1 : Int32)), (.ref b1)]))
  refine Go.by (fun _ => XS.i2c X3.here hx rfl (hb hby at_26) rfl) ?_
  show Go p e below P (T3.setTop (mkF m 27 #[.val (.int p0), .val (.int p1), .val (.int p2), .val (.int p3), .val (.int p4), .val (.ref b1), .unset, .unset, .unset, .unset, .unset, .unset, .unset] [(.int ((((((p0).toUInt32 >>> ((8 : Int32) &&& 31).toUInt32).toInt32) &&& (255 : Int32))).toUInt32.toUInt16.toUInt32.toInt32)), (.int (1 : Int32)), (.ref b1)]))
  generalize hv_c1 : ((((((p0).toUInt32 >>> ((8 : Int32) &&& 31).toUInt32).toInt32) &&& (255 : Int32))).toUInt32.toUInt16.toUInt32.toInt32) = c1
  have hn_c1 : nar .char c1 = c1 := by rw [← hv_c1]; exact own_narc _
  have hr_c1 : ¬ c1 < 0 ∧ ¬ (255 : Int32) < c1 := by rw [← hv_c1]; exact own_chr _
  obtain ⟨cl5, Ar5, qc5, Sz5, Ng5, Hs5, Gf5⟩ := id (F4)
  have hin5 : ¬ ((1 : Int32) < 0 ∨ cl5.slots.size ≤ ((1 : Int32)).toNatClampNeg) := inb_of Sz5 ⟨by decide, by decide⟩
  obtain ⟨T5, h5, X5, e5, W5, st5⟩ := stC X3 hx hZ e3 Ar5 (j := (1 : Int32)) hin5 (g := (mkF m 27 #[.val (.int p0), .val (.int p1), .val (.int p2), .val (.int p3), .val (.int p4), .val (.ref b1), .unset, .unset, .unset, .unset, .unset, .unset, .unset] [(.int c1), (.int (1 : Int32)), (.ref b1)])) rfl rfl (hb hby at_27)
  refine Go.by (fun _ => st5 _) ?_
  have O5 := O3.wr W5 g_b1
  have Z5 : n0 ≤ h5.size := Nat.le_trans Z3 (Keep.of_wr W5).1
  have F6 : Arv Z h5 b1 k1 .char (4 : Int32) [(.int c0), (.int c1), (.int (0 : Int32)), (.int (0 : Int32))] (.int (0 : Int32)) := (by have q := Arv.set Ar5 qc5 Sz5 Ng5 Hs5 Gf5 (fits_nar_char _) W5 1 rfl (Nat.le_of_ble_eq_true rfl); rw [hn_c1] at q; exact q)
  have N5 := Fr.snoc X5 N3 g_b1
  show Go p e below P (T5.setTop (mkF m 28 #[.val (.int p0), .val (.int p1), .val (.int p2), .val (.int p3), .val (.int p4), .val (.ref b1), .unset, .unset, .unset, .unset, .unset, .unset, .unset] []))
  refine Go.by (fun _ => XS.aload X5.here hx rfl (hb hby at_28) rfl rfl) ?_
  show Go p e below P (T5.setTop (mkF m 30 #[.val (.int p0), .val (.int p1), .val (.int p2), .val (.int p3), .val (.int p4), .val (.ref b1), .unset, .unset, .unset, .unset, .unset, .unset, .unset] [(.ref b1)]))
  refine Go.by (fun _ => XS.iconst X5.here hx rfl (hb hby at_30)) ?_
  show Go p e below P (T5.setTop (mkF m 31 #[.val (.int p0), .val (.int p1), .val (.int p2), .val (.int p3), .val (.int p4), .val (.ref b1), .unset, .unset, .unset, .unset, .unset, .unset, .unset] [(.int (2 : Int32)), (.ref b1)]))
  refine Go.by (fun _ => XS.iloadN X5.here hx rfl (hb hby at_31) rfl) ?_
  show Go p e below P (T5.setTop (mkF m 32 #[.val (.int p0), .val (.int p1), .val (.int p2), .val (.int p3), .val (.int p4), .val (.ref b1), .unset, .unset, .unset, .unset, .unset, .unset, .unset] [(.int p0), (.int (2 : Int32)), (.ref b1)]))
  refine Go.by (fun _ => XS.bipush X5.here hx rfl (hb hby at_32)) ?_
  show Go p e below P (T5.setTop (mkF m 34 #[.val (.int p0), .val (.int p1), .val (.int p2), .val (.int p3), .val (.int p4), .val (.ref b1), .unset, .unset, .unset, .unset, .unset, .unset, .unset] [(.int (16 : Int32)), (.int p0), (.int (2 : Int32)), (.ref b1)]))
  refine Go.by (fun _ => XS.iushr X5.here hx rfl (hb hby at_34) rfl) ?_
  show Go p e below P (T5.setTop (mkF m 35 #[.val (.int p0), .val (.int p1), .val (.int p2), .val (.int p3), .val (.int p4), .val (.ref b1), .unset, .unset, .unset, .unset, .unset, .unset, .unset] [(.int (((p0).toUInt32 >>> ((16 : Int32) &&& 31).toUInt32).toInt32)), (.int (2 : Int32)), (.ref b1)]))
  refine Go.by (fun _ => XS.sipush X5.here hx rfl (hb hby at_35)) ?_
  show Go p e below P (T5.setTop (mkF m 38 #[.val (.int p0), .val (.int p1), .val (.int p2), .val (.int p3), .val (.int p4), .val (.ref b1), .unset, .unset, .unset, .unset, .unset, .unset, .unset] [(.int (255 : Int32)), (.int (((p0).toUInt32 >>> ((16 : Int32) &&& 31).toUInt32).toInt32)), (.int (2 : Int32)), (.ref b1)]))
  refine Go.by (fun _ => XS.iand X5.here hx rfl (hb hby at_38) rfl) ?_
  show Go p e below P (T5.setTop (mkF m 39 #[.val (.int p0), .val (.int p1), .val (.int p2), .val (.int p3), .val (.int p4), .val (.ref b1), .unset, .unset, .unset, .unset, .unset, .unset, .unset] [(.int ((((p0).toUInt32 >>> ((16 : Int32) &&& 31).toUInt32).toInt32) &&& (255 : Int32))), (.int (2 : Int32)), (.ref b1)]))
  refine Go.by (fun _ => XS.i2c X5.here hx rfl (hb hby at_39) rfl) ?_
  show Go p e below P (T5.setTop (mkF m 40 #[.val (.int p0), .val (.int p1), .val (.int p2), .val (.int p3), .val (.int p4), .val (.ref b1), .unset, .unset, .unset, .unset, .unset, .unset, .unset] [(.int ((((((p0).toUInt32 >>> ((16 : Int32) &&& 31).toUInt32).toInt32) &&& (255 : Int32))).toUInt32.toUInt16.toUInt32.toInt32)), (.int (2 : Int32)), (.ref b1)]))
  generalize hv_c2 : ((((((p0).toUInt32 >>> ((16 : Int32) &&& 31).toUInt32).toInt32) &&& (255 : Int32))).toUInt32.toUInt16.toUInt32.toInt32) = c2
  have hn_c2 : nar .char c2 = c2 := by rw [← hv_c2]; exact own_narc _
  have hr_c2 : ¬ c2 < 0 ∧ ¬ (255 : Int32) < c2 := by rw [← hv_c2]; exact own_chr _
  obtain ⟨cl7, Ar7, qc7, Sz7, Ng7, Hs7, Gf7⟩ := id (F6)
  have hin7 : ¬ ((2 : Int32) < 0 ∨ cl7.slots.size ≤ ((2 : Int32)).toNatClampNeg) := inb_of Sz7 ⟨by decide, by decide⟩
  obtain ⟨T7, h7, X7, e7, W7, st7⟩ := stC X5 hx hZ e5 Ar7 (j := (2 : Int32)) hin7 (g := (mkF m 40 #[.val (.int p0), .val (.int p1), .val (.int p2), .val (.int p3), .val (.int p4), .val (.ref b1), .unset, .unset, .unset, .unset, .unset, .unset, .unset] [(.int c2), (.int (2 : Int32)), (.ref b1)])) rfl rfl (hb hby at_40)
  refine Go.by (fun _ => st7 _) ?_
  have O7 := O5.wr W7 g_b1
  have Z7 : n0 ≤ h7.size := Nat.le_trans Z5 (Keep.of_wr W7).1
  have F8 : Arv Z h7 b1 k1 .char (4 : Int32) [(.int c0), (.int c1), (.int c2), (.int (0 : Int32))] (.int (0 : Int32)) := (by have q := Arv.set Ar7 qc7 Sz7 Ng7 Hs7 Gf7 (fits_nar_char _) W7 2 rfl (Nat.le_of_ble_eq_true rfl); rw [hn_c2] at q; exact q)
  have N7 := Fr.snoc X7 N5 g_b1
  show Go p e below P (T7.setTop (mkF m 41 #[.val (.int p0), .val (.int p1), .val (.int p2), .val (.int p3), .val (.int p4), .val (.ref b1), .unset, .unset, .unset, .unset, .unset, .unset, .unset] []))
  refine Go.by (fun _ => XS.aload X7.here hx rfl (hb hby at_41) rfl rfl) ?_
  show Go p e below P (T7.setTop (mkF m 43 #[.val (.int p0), .val (.int p1), .val (.int p2), .val (.int p3), .val (.int p4), .val (.ref b1), .unset, .unset, .unset, .unset, .unset, .unset, .unset] [(.ref b1)]))
  refine Go.by (fun _ => XS.iconst X7.here hx rfl (hb hby at_43)) ?_
  show Go p e below P (T7.setTop (mkF m 44 #[.val (.int p0), .val (.int p1), .val (.int p2), .val (.int p3), .val (.int p4), .val (.ref b1), .unset, .unset, .unset, .unset, .unset, .unset, .unset] [(.int (3 : Int32)), (.ref b1)]))
  refine Go.by (fun _ => XS.iloadN X7.here hx rfl (hb hby at_44) rfl) ?_
  show Go p e below P (T7.setTop (mkF m 45 #[.val (.int p0), .val (.int p1), .val (.int p2), .val (.int p3), .val (.int p4), .val (.ref b1), .unset, .unset, .unset, .unset, .unset, .unset, .unset] [(.int p0), (.int (3 : Int32)), (.ref b1)]))
  refine Go.by (fun _ => XS.bipush X7.here hx rfl (hb hby at_45)) ?_
  show Go p e below P (T7.setTop (mkF m 47 #[.val (.int p0), .val (.int p1), .val (.int p2), .val (.int p3), .val (.int p4), .val (.ref b1), .unset, .unset, .unset, .unset, .unset, .unset, .unset] [(.int (24 : Int32)), (.int p0), (.int (3 : Int32)), (.ref b1)]))
  refine Go.by (fun _ => XS.iushr X7.here hx rfl (hb hby at_47) rfl) ?_
  show Go p e below P (T7.setTop (mkF m 48 #[.val (.int p0), .val (.int p1), .val (.int p2), .val (.int p3), .val (.int p4), .val (.ref b1), .unset, .unset, .unset, .unset, .unset, .unset, .unset] [(.int (((p0).toUInt32 >>> ((24 : Int32) &&& 31).toUInt32).toInt32)), (.int (3 : Int32)), (.ref b1)]))
  refine Go.by (fun _ => XS.sipush X7.here hx rfl (hb hby at_48)) ?_
  show Go p e below P (T7.setTop (mkF m 51 #[.val (.int p0), .val (.int p1), .val (.int p2), .val (.int p3), .val (.int p4), .val (.ref b1), .unset, .unset, .unset, .unset, .unset, .unset, .unset] [(.int (255 : Int32)), (.int (((p0).toUInt32 >>> ((24 : Int32) &&& 31).toUInt32).toInt32)), (.int (3 : Int32)), (.ref b1)]))
  refine Go.by (fun _ => XS.iand X7.here hx rfl (hb hby at_51) rfl) ?_
  show Go p e below P (T7.setTop (mkF m 52 #[.val (.int p0), .val (.int p1), .val (.int p2), .val (.int p3), .val (.int p4), .val (.ref b1), .unset, .unset, .unset, .unset, .unset, .unset, .unset] [(.int ((((p0).toUInt32 >>> ((24 : Int32) &&& 31).toUInt32).toInt32) &&& (255 : Int32))), (.int (3 : Int32)), (.ref b1)]))
  refine Go.by (fun _ => XS.i2c X7.here hx rfl (hb hby at_52) rfl) ?_
  show Go p e below P (T7.setTop (mkF m 53 #[.val (.int p0), .val (.int p1), .val (.int p2), .val (.int p3), .val (.int p4), .val (.ref b1), .unset, .unset, .unset, .unset, .unset, .unset, .unset] [(.int ((((((p0).toUInt32 >>> ((24 : Int32) &&& 31).toUInt32).toInt32) &&& (255 : Int32))).toUInt32.toUInt16.toUInt32.toInt32)), (.int (3 : Int32)), (.ref b1)]))
  generalize hv_c3 : ((((((p0).toUInt32 >>> ((24 : Int32) &&& 31).toUInt32).toInt32) &&& (255 : Int32))).toUInt32.toUInt16.toUInt32.toInt32) = c3
  have hn_c3 : nar .char c3 = c3 := by rw [← hv_c3]; exact own_narc _
  have hr_c3 : ¬ c3 < 0 ∧ ¬ (255 : Int32) < c3 := by rw [← hv_c3]; exact own_chr _
  obtain ⟨cl9, Ar9, qc9, Sz9, Ng9, Hs9, Gf9⟩ := id (F8)
  have hin9 : ¬ ((3 : Int32) < 0 ∨ cl9.slots.size ≤ ((3 : Int32)).toNatClampNeg) := inb_of Sz9 ⟨by decide, by decide⟩
  obtain ⟨T9, h9, X9, e9, W9, st9⟩ := stC X7 hx hZ e7 Ar9 (j := (3 : Int32)) hin9 (g := (mkF m 53 #[.val (.int p0), .val (.int p1), .val (.int p2), .val (.int p3), .val (.int p4), .val (.ref b1), .unset, .unset, .unset, .unset, .unset, .unset, .unset] [(.int c3), (.int (3 : Int32)), (.ref b1)])) rfl rfl (hb hby at_53)
  refine Go.by (fun _ => st9 _) ?_
  have O9 := O7.wr W9 g_b1
  have Z9 : n0 ≤ h9.size := Nat.le_trans Z7 (Keep.of_wr W9).1
  have F10 : Arv Z h9 b1 k1 .char (4 : Int32) [(.int c0), (.int c1), (.int c2), (.int c3)] (.int (0 : Int32)) := (by have q := Arv.set Ar9 qc9 Sz9 Ng9 Hs9 Gf9 (fits_nar_char _) W9 3 rfl (Nat.le_of_ble_eq_true rfl); rw [hn_c3] at q; exact q)
  have N9 := Fr.snoc X9 N7 g_b1
  show Go p e below P (T9.setTop (mkF m 54 #[.val (.int p0), .val (.int p1), .val (.int p2), .val (.int p3), .val (.int p4), .val (.ref b1), .unset, .unset, .unset, .unset, .unset, .unset, .unset] []))
  have hp : ∀ c ∈ ([c0, c1, c2, c3] : List Int32), ¬ c < 0 ∧ ¬ (255 : Int32) < c := by
    intro c hc
    simp only [List.mem_cons, List.not_mem_nil, or_false] at hc
    rcases hc with rfl | rfl | rfl | rfl
    · exact hr_c0
    · exact hr_c1
    · exact hr_c2
    · exact hr_c3
  obtain ⟨T11, h11, X11, e11, E11, A11, D11, -, st11⟩ := newO X9 hx hZ hown (hw _ (List.mem_of_getElem? (i := 1) rfl)) (hw _ (List.mem_of_getElem? (i := 2) rfl)) (hw _ (List.mem_of_getElem? (i := 3) rfl)) e9 (g := (mkF m 54 #[.val (.int p0), .val (.int p1), .val (.int p2), .val (.int p3), .val (.int p4), .val (.ref b1), .unset, .unset, .unset, .unset, .unset, .unset, .unset] [])) rfl (hb hby at_54) (Nat.le_of_ble_eq_true rfl) (Nat.le_of_ble_eq_true rfl)
  obtain ⟨b11, q11⟩ : ∃ z, z = h9.size := ⟨_, rfl⟩
  rw [← q11] at A11 D11 st11
  refine Go.by (fun _ => st11 _) ?_
  have ne_b1_b11 : b1 ≠ b11 := Nat.ne_of_lt (Nat.lt_of_lt_of_le F10.lt (Nat.le_of_eq q11.symm))
  have g_b11 : n0 ≤ b11 := Nat.le_trans Z9 (Nat.le_of_eq q11.symm)
  have F12 : Arv Z h11 b1 k1 .char (4 : Int32) [(.int c0), (.int c1), (.int c2), (.int c3)] (.int (0 : Int32)) := F10.ext E11
  have O11 := O9.ext E11
  have Z11 : n0 ≤ h11.size := Nat.le_trans Z9 E11.1
  have F13 : Fld Z h11 b11 "java/lang/String" "coder" "B" (.int (0 : Int32)) := D11 (Or.inr (hw _ (List.mem_of_getElem? (i := 27) rfl))) (ty := .byte) (by decide)
  have F14 : Fld Z h11 b11 "java/lang/String" "value" "[B" .null := D11 (Or.inr (hw _ (List.mem_of_getElem? (i := 29) rfl))) (ty := (.array .byte)) (by decide)
  show Go p e below P (T11.setTop (mkF m 57 #[.val (.int p0), .val (.int p1), .val (.int p2), .val (.int p3), .val (.int p4), .val (.ref b1), .unset, .unset, .unset, .unset, .unset, .unset, .unset] [(.ref b11)]))
  refine Go.by (fun _ => XS.dup X11.here hx rfl (hb hby at_57) rfl rfl) ?_
  show Go p e below P (T11.setTop (mkF m 58 #[.val (.int p0), .val (.int p1), .val (.int p2), .val (.int p3), .val (.int p4), .val (.ref b1), .unset, .unset, .unset, .unset, .unset, .unset, .unset] [(.ref b11), (.ref b11)]))
  refine Go.by (fun _ => XS.aload X11.here hx rfl (hb hby at_58) rfl rfl) ?_
  show Go p e below P (T11.setTop (mkF m 60 #[.val (.int p0), .val (.int p1), .val (.int p2), .val (.int p3), .val (.int p4), .val (.ref b1), .unset, .unset, .unset, .unset, .unset, .unset, .unset] [(.ref b1), (.ref b11), (.ref b11)]))
  obtain ⟨_, _, ⟨T15, L15, k15, n15⟩, -, X15, ⟨Lc15, hQ15, l15, y15, z15⟩, st15⟩ := X11.specialBack hx (y := (⟨"java/lang/String", "<init>", "([C)V"⟩ : MethodName)) rfl hown (mvT hZ (hw _ (List.mem_of_getElem? (i := 4) rfl))) (mvT hZ (hw _ (List.mem_of_getElem? (i := 5) rfl))) (mvT hZ (hw _ (List.mem_of_getElem? (i := 6) rfl))) (by decide) (StrChars.Road.backV (W := 1) hZ (own_words hw) (kI := 4) (hw _ (List.mem_of_getElem? (i := 2) rfl)) (cs := ([c0, c1, c2, c3] : List Int32)) (bs := ((([c0, c1, c2, c3] : List Int32)).map (fun c => c.toInt8.toInt32))) (n := 4) g_b11 Z11 A11 F14 F13 F12 (G0.ext O11.2) own_cs rfl rfl (Nat.le_of_ble_eq_true rfl) (Nat.le_of_ble_eq_true rfl) hp rfl (Nat.le_of_ble_eq_true rfl) (Nat.le_of_ble_eq_true rfl)) (g := (mkF m 60 #[.val (.int p0), .val (.int p1), .val (.int p2), .val (.int p3), .val (.int p4), .val (.ref b1), .unset, .unset, .unset, .unset, .unset, .unset, .unset] [(.ref b1), (.ref b11), (.ref b11)])) rfl (by rw [hml]; rfl) (Steps.refl _) (a := b11) (argsL := [(.ref b1)]) (rest := [(.ref b11)]) (lenOf pd_1 rfl) rfl (by show 2 * 0 + _ ≤ _; exact Nat.le_of_eq rfl) (hb hby at_60) (fun _ _ => ⟨rfl, e11, (Nat.le_of_ble_eq_true rfl : 2 + 1 ≤ _), (Nat.le_of_ble_eq_true rfl : 8 + 4 ≤ _)⟩)
  dsimp only [Pt.U, Pt.locs, Pt.cells, Pt.slots] at X15 l15 y15 z15 st15 hQ15
  subst l15 y15 z15
  obtain ⟨rfl, Nq15, Kc15, FE15, FC15, t15, kb15, hn15, hs15, hne15, FV15, FA15⟩ := hQ15
  have N15 := Fr.app N9 Nq15
  refine Go.by (fun _ k => st15.trans k) ?_
  have ne_b1_t15 : b1 ≠ t15 := Nat.ne_of_lt (Nat.lt_of_lt_of_le F12.lt hs15)
  have ne_b11_t15 : b11 ≠ t15 := Nat.ne_of_lt (Nat.lt_of_lt_of_le A11.lt hs15)
  have g_t15 : n0 ≤ t15 := Nat.le_trans Z11 hs15
  have F16 : Arv Z T15.heap b1 k1 .char (4 : Int32) [(.int c0), (.int c1), (.int c2), (.int c3)] (.int (0 : Int32)) := F12.keep Kc15 (ninS ne_b1_b11 nin0)
  have F17 : Exa Z T15.heap b11 "java/lang/String" := A11.keep Kc15
  have O15 := O11.keep Kc15 (allS g_b11 all0)
  have Z15 : n0 ≤ T15.heap.size := Nat.le_trans Z11 Kc15.1
  show Go p e below P (T15.setTop (mkF m 63 #[.val (.int p0), .val (.int p1), .val (.int p2), .val (.int p3), .val (.int p4), .val (.ref b1), .unset, .unset, .unset, .unset, .unset, .unset, .unset] [(.ref b11)]))
  refine Go.by (fun _ => XS.astore X15.here hx rfl (hb hby at_63) rfl rfl (l' := #[.val (.int p0), .val (.int p1), .val (.int p2), .val (.int p3), .val (.int p4), .val (.ref b1), .val (.ref b11), .unset, .unset, .unset, .unset, .unset, .unset]) rfl) ?_
  show Go p e below P (T15.setTop (mkF m 65 #[.val (.int p0), .val (.int p1), .val (.int p2), .val (.int p3), .val (.int p4), .val (.ref b1), .val (.ref b11), .unset, .unset, .unset, .unset, .unset, .unset] []))
  refine Go.by (fun _ => XS.iloadN X15.here hx rfl (hb hby at_65) rfl) ?_
  show Go p e below P (T15.setTop (mkF m 66 #[.val (.int p0), .val (.int p1), .val (.int p2), .val (.int p3), .val (.int p4), .val (.ref b1), .val (.ref b11), .unset, .unset, .unset, .unset, .unset, .unset] [(.int p1)]))
  refine Go.by (fun _ => XS.bipush X15.here hx rfl (hb hby at_66)) ?_
  show Go p e below P (T15.setTop (mkF m 68 #[.val (.int p0), .val (.int p1), .val (.int p2), .val (.int p3), .val (.int p4), .val (.ref b1), .val (.ref b11), .unset, .unset, .unset, .unset, .unset, .unset] [(.int (7 : Int32)), (.int p1)]))
  refine Go.by (fun _ => XS.iand X15.here hx rfl (hb hby at_68) rfl) ?_
  show Go p e below P (T15.setTop (mkF m 69 #[.val (.int p0), .val (.int p1), .val (.int p2), .val (.int p3), .val (.int p4), .val (.ref b1), .val (.ref b11), .unset, .unset, .unset, .unset, .unset, .unset] [(.int (p1 &&& (7 : Int32)))]))
  refine Go.by (fun _ => XS.iconst X15.here hx rfl (hb hby at_69)) ?_
  show Go p e below P (T15.setTop (mkF m 70 #[.val (.int p0), .val (.int p1), .val (.int p2), .val (.int p3), .val (.int p4), .val (.ref b1), .val (.ref b11), .unset, .unset, .unset, .unset, .unset, .unset] [(.int (5 : Int32)), (.int (p1 &&& (7 : Int32)))]))
  refine Go.by (fun _ => iremM X15 hx rfl (hb hby at_70) rfl (by decide)) ?_
  show Go p e below P (T15.setTop (mkF m 71 #[.val (.int p0), .val (.int p1), .val (.int p2), .val (.int p3), .val (.int p4), .val (.ref b1), .val (.ref b11), .unset, .unset, .unset, .unset, .unset, .unset] [(.int ((p1 &&& (7 : Int32)) % (5 : Int32)))]))
  generalize hv_s7 : ((p1 &&& (7 : Int32)) % (5 : Int32)) = s7
  refine Go.by (fun _ => XS.istore X15.here hx rfl (hb hby at_71) rfl (l' := #[.val (.int p0), .val (.int p1), .val (.int p2), .val (.int p3), .val (.int p4), .val (.ref b1), .val (.ref b11), .val (.int s7), .unset, .unset, .unset, .unset, .unset]) rfl) ?_
  show Go p e below P (T15.setTop (mkF m 73 #[.val (.int p0), .val (.int p1), .val (.int p2), .val (.int p3), .val (.int p4), .val (.ref b1), .val (.ref b11), .val (.int s7), .unset, .unset, .unset, .unset, .unset] []))
  have hs7 : 0 ≤ s7.toInt ∧ s7.toInt ≤ 4 := by rw [← hv_s7]; exact own_s7 p1
  refine Go.by (fun _ => XS.iload X15.here hx rfl (hb hby at_73) rfl) ?_
  show Go p e below P (T15.setTop (mkF m 75 #[.val (.int p0), .val (.int p1), .val (.int p2), .val (.int p3), .val (.int p4), .val (.ref b1), .val (.ref b11), .val (.int s7), .unset, .unset, .unset, .unset, .unset] [(.int s7)]))
  refine Go.by (fun _ => XS.iloadN X15.here hx rfl (hb hby at_75) rfl) ?_
  show Go p e below P (T15.setTop (mkF m 76 #[.val (.int p0), .val (.int p1), .val (.int p2), .val (.int p3), .val (.int p4), .val (.ref b1), .val (.ref b11), .val (.int s7), .unset, .unset, .unset, .unset, .unset] [(.int p1), (.int s7)]))
  refine Go.by (fun _ => XS.iconst X15.here hx rfl (hb hby at_76)) ?_
  show Go p e below P (T15.setTop (mkF m 77 #[.val (.int p0), .val (.int p1), .val (.int p2), .val (.int p3), .val (.int p4), .val (.ref b1), .val (.ref b11), .val (.int s7), .unset, .unset, .unset, .unset, .unset] [(.int (3 : Int32)), (.int p1), (.int s7)]))
  refine Go.by (fun _ => XS.iushr X15.here hx rfl (hb hby at_77) rfl) ?_
  show Go p e below P (T15.setTop (mkF m 78 #[.val (.int p0), .val (.int p1), .val (.int p2), .val (.int p3), .val (.int p4), .val (.ref b1), .val (.ref b11), .val (.int s7), .unset, .unset, .unset, .unset, .unset] [(.int (((p1).toUInt32 >>> ((3 : Int32) &&& 31).toUInt32).toInt32)), (.int s7)]))
  refine Go.by (fun _ => XS.bipush X15.here hx rfl (hb hby at_78)) ?_
  show Go p e below P (T15.setTop (mkF m 80 #[.val (.int p0), .val (.int p1), .val (.int p2), .val (.int p3), .val (.int p4), .val (.ref b1), .val (.ref b11), .val (.int s7), .unset, .unset, .unset, .unset, .unset] [(.int (7 : Int32)), (.int (((p1).toUInt32 >>> ((3 : Int32) &&& 31).toUInt32).toInt32)), (.int s7)]))
  refine Go.by (fun _ => XS.iand X15.here hx rfl (hb hby at_80) rfl) ?_
  show Go p e below P (T15.setTop (mkF m 81 #[.val (.int p0), .val (.int p1), .val (.int p2), .val (.int p3), .val (.int p4), .val (.ref b1), .val (.ref b11), .val (.int s7), .unset, .unset, .unset, .unset, .unset] [(.int ((((p1).toUInt32 >>> ((3 : Int32) &&& 31).toUInt32).toInt32) &&& (7 : Int32))), (.int s7)]))
  refine Go.by (fun _ => XS.iconst X15.here hx rfl (hb hby at_81)) ?_
  show Go p e below P (T15.setTop (mkF m 82 #[.val (.int p0), .val (.int p1), .val (.int p2), .val (.int p3), .val (.int p4), .val (.ref b1), .val (.ref b11), .val (.int s7), .unset, .unset, .unset, .unset, .unset] [(.int (5 : Int32)), (.int ((((p1).toUInt32 >>> ((3 : Int32) &&& 31).toUInt32).toInt32) &&& (7 : Int32))), (.int s7)]))
  refine Go.by (fun _ => XS.iload X15.here hx rfl (hb hby at_82) rfl) ?_
  show Go p e below P (T15.setTop (mkF m 84 #[.val (.int p0), .val (.int p1), .val (.int p2), .val (.int p3), .val (.int p4), .val (.ref b1), .val (.ref b11), .val (.int s7), .unset, .unset, .unset, .unset, .unset] [(.int s7), (.int (5 : Int32)), (.int ((((p1).toUInt32 >>> ((3 : Int32) &&& 31).toUInt32).toInt32) &&& (7 : Int32))), (.int s7)]))
  refine Go.by (fun _ => XS.isub X15.here hx rfl (hb hby at_84) rfl) ?_
  show Go p e below P (T15.setTop (mkF m 85 #[.val (.int p0), .val (.int p1), .val (.int p2), .val (.int p3), .val (.int p4), .val (.ref b1), .val (.ref b11), .val (.int s7), .unset, .unset, .unset, .unset, .unset] [(.int ((5 : Int32) - s7)), (.int ((((p1).toUInt32 >>> ((3 : Int32) &&& 31).toUInt32).toInt32) &&& (7 : Int32))), (.int s7)]))
  refine Go.by (fun _ => iremM X15 hx rfl (hb hby at_85) rfl (fun q => by have q2 := congrArg Int32.toInt q; have q3 := c_isub 5 s7; have l5 : (5 : Int32).toInt = 5 := rfl; have l0 : (0 : Int32).toInt = 0 := rfl; omega)) ?_
  show Go p e below P (T15.setTop (mkF m 86 #[.val (.int p0), .val (.int p1), .val (.int p2), .val (.int p3), .val (.int p4), .val (.ref b1), .val (.ref b11), .val (.int s7), .unset, .unset, .unset, .unset, .unset] [(.int (((((p1).toUInt32 >>> ((3 : Int32) &&& 31).toUInt32).toInt32) &&& (7 : Int32)) % ((5 : Int32) - s7))), (.int s7)]))
  refine Go.by (fun _ => XS.iadd X15.here hx rfl (hb hby at_86) rfl) ?_
  show Go p e below P (T15.setTop (mkF m 87 #[.val (.int p0), .val (.int p1), .val (.int p2), .val (.int p3), .val (.int p4), .val (.ref b1), .val (.ref b11), .val (.int s7), .unset, .unset, .unset, .unset, .unset] [(.int (s7 + (((((p1).toUInt32 >>> ((3 : Int32) &&& 31).toUInt32).toInt32) &&& (7 : Int32)) % ((5 : Int32) - s7))))]))
  generalize hv_e8 : (s7 + (((((p1).toUInt32 >>> ((3 : Int32) &&& 31).toUInt32).toInt32) &&& (7 : Int32)) % ((5 : Int32) - s7))) = e8
  refine Go.by (fun _ => XS.istore X15.here hx rfl (hb hby at_87) rfl (l' := #[.val (.int p0), .val (.int p1), .val (.int p2), .val (.int p3), .val (.int p4), .val (.ref b1), .val (.ref b11), .val (.int s7), .val (.int e8), .unset, .unset, .unset, .unset]) rfl) ?_
  show Go p e below P (T15.setTop (mkF m 89 #[.val (.int p0), .val (.int p1), .val (.int p2), .val (.int p3), .val (.int p4), .val (.ref b1), .val (.ref b11), .val (.int s7), .val (.int e8), .unset, .unset, .unset, .unset] []))
  have he8 : s7.toInt ≤ e8.toInt ∧ e8.toInt ≤ 4 := by rw [← hv_e8]; exact own_e8 p1 s7 hs7
  refine Go.by (fun _ => XS.iconst X15.here hx rfl (hb hby at_89)) ?_
  show Go p e below P (T15.setTop (mkF m 90 #[.val (.int p0), .val (.int p1), .val (.int p2), .val (.int p3), .val (.int p4), .val (.ref b1), .val (.ref b11), .val (.int s7), .val (.int e8), .unset, .unset, .unset, .unset] [(.int (1 : Int32))]))
  refine Go.by (fun _ => XS.iloadN X15.here hx rfl (hb hby at_90) rfl) ?_
  show Go p e below P (T15.setTop (mkF m 91 #[.val (.int p0), .val (.int p1), .val (.int p2), .val (.int p3), .val (.int p4), .val (.ref b1), .val (.ref b11), .val (.int s7), .val (.int e8), .unset, .unset, .unset, .unset] [(.int p1), (.int (1 : Int32))]))
  refine Go.by (fun _ => XS.bipush X15.here hx rfl (hb hby at_91)) ?_
  show Go p e below P (T15.setTop (mkF m 93 #[.val (.int p0), .val (.int p1), .val (.int p2), .val (.int p3), .val (.int p4), .val (.ref b1), .val (.ref b11), .val (.int s7), .val (.int e8), .unset, .unset, .unset, .unset] [(.int (6 : Int32)), (.int p1), (.int (1 : Int32))]))
  refine Go.by (fun _ => XS.iushr X15.here hx rfl (hb hby at_93) rfl) ?_
  show Go p e below P (T15.setTop (mkF m 94 #[.val (.int p0), .val (.int p1), .val (.int p2), .val (.int p3), .val (.int p4), .val (.ref b1), .val (.ref b11), .val (.int s7), .val (.int e8), .unset, .unset, .unset, .unset] [(.int (((p1).toUInt32 >>> ((6 : Int32) &&& 31).toUInt32).toInt32)), (.int (1 : Int32))]))
  refine Go.by (fun _ => XS.iconst X15.here hx rfl (hb hby at_94)) ?_
  show Go p e below P (T15.setTop (mkF m 95 #[.val (.int p0), .val (.int p1), .val (.int p2), .val (.int p3), .val (.int p4), .val (.ref b1), .val (.ref b11), .val (.int s7), .val (.int e8), .unset, .unset, .unset, .unset] [(.int (3 : Int32)), (.int (((p1).toUInt32 >>> ((6 : Int32) &&& 31).toUInt32).toInt32)), (.int (1 : Int32))]))
  refine Go.by (fun _ => XS.iand X15.here hx rfl (hb hby at_95) rfl) ?_
  show Go p e below P (T15.setTop (mkF m 96 #[.val (.int p0), .val (.int p1), .val (.int p2), .val (.int p3), .val (.int p4), .val (.ref b1), .val (.ref b11), .val (.int s7), .val (.int e8), .unset, .unset, .unset, .unset] [(.int ((((p1).toUInt32 >>> ((6 : Int32) &&& 31).toUInt32).toInt32) &&& (3 : Int32))), (.int (1 : Int32))]))
  refine Go.by (fun _ => XS.iconst X15.here hx rfl (hb hby at_96)) ?_
  show Go p e below P (T15.setTop (mkF m 97 #[.val (.int p0), .val (.int p1), .val (.int p2), .val (.int p3), .val (.int p4), .val (.ref b1), .val (.ref b11), .val (.int s7), .val (.int e8), .unset, .unset, .unset, .unset] [(.int (3 : Int32)), (.int ((((p1).toUInt32 >>> ((6 : Int32) &&& 31).toUInt32).toInt32) &&& (3 : Int32))), (.int (1 : Int32))]))
  refine Go.by (fun _ => iremM X15 hx rfl (hb hby at_97) rfl (by decide)) ?_
  show Go p e below P (T15.setTop (mkF m 98 #[.val (.int p0), .val (.int p1), .val (.int p2), .val (.int p3), .val (.int p4), .val (.ref b1), .val (.ref b11), .val (.int s7), .val (.int e8), .unset, .unset, .unset, .unset] [(.int (((((p1).toUInt32 >>> ((6 : Int32) &&& 31).toUInt32).toInt32) &&& (3 : Int32)) % (3 : Int32))), (.int (1 : Int32))]))
  refine Go.by (fun _ => XS.iadd X15.here hx rfl (hb hby at_98) rfl) ?_
  show Go p e below P (T15.setTop (mkF m 99 #[.val (.int p0), .val (.int p1), .val (.int p2), .val (.int p3), .val (.int p4), .val (.ref b1), .val (.ref b11), .val (.int s7), .val (.int e8), .unset, .unset, .unset, .unset] [(.int ((1 : Int32) + (((((p1).toUInt32 >>> ((6 : Int32) &&& 31).toUInt32).toInt32) &&& (3 : Int32)) % (3 : Int32))))]))
  generalize hv_wl : ((1 : Int32) + (((((p1).toUInt32 >>> ((6 : Int32) &&& 31).toUInt32).toInt32) &&& (3 : Int32)) % (3 : Int32))) = wl
  refine Go.by (fun _ => XS.istore X15.here hx rfl (hb hby at_99) rfl (l' := #[.val (.int p0), .val (.int p1), .val (.int p2), .val (.int p3), .val (.int p4), .val (.ref b1), .val (.ref b11), .val (.int s7), .val (.int e8), .val (.int wl), .unset, .unset, .unset]) rfl) ?_
  show Go p e below P (T15.setTop (mkF m 101 #[.val (.int p0), .val (.int p1), .val (.int p2), .val (.int p3), .val (.int p4), .val (.ref b1), .val (.ref b11), .val (.int s7), .val (.int e8), .val (.int wl), .unset, .unset, .unset] []))
  have hwl : wl = 1 ∨ wl = 2 ∨ wl = 3 := by rw [← hv_wl]; exact own_wl p1
  rcases hwl with rfl | rfl | rfl
  · show Go p e below P (T15.setTop (mkF m 101 #[.val (.int p0), .val (.int p1), .val (.int p2), .val (.int p3), .val (.int p4), .val (.ref b1), .val (.ref b11), .val (.int s7), .val (.int e8), .val (.int (1 : Int32)), .unset, .unset, .unset] []))
    refine Go.by (fun _ => XS.iload X15.here hx rfl (hb hby at_101) rfl) ?_
    show Go p e below P (T15.setTop (mkF m 103 #[.val (.int p0), .val (.int p1), .val (.int p2), .val (.int p3), .val (.int p4), .val (.ref b1), .val (.ref b11), .val (.int s7), .val (.int e8), .val (.int (1 : Int32)), .unset, .unset, .unset] [(.int (1 : Int32))]))
    obtain ⟨T18, h18, k18, X18, e18, E18, A18, st18⟩ := newP X15 hx hZ (hw _ (List.mem_of_getElem? (i := 30) rfl)) rfl (g := (mkF m 103 #[.val (.int p0), .val (.int p1), .val (.int p2), .val (.int p3), .val (.int p4), .val (.ref b1), .val (.ref b11), .val (.int s7), .val (.int e8), .val (.int (1 : Int32)), .unset, .unset, .unset] [(.int (1 : Int32))])) rfl (hb hby at_103) rfl (by decide) (cap := 1) (by decide) (Nat.le_of_ble_eq_true rfl) (Nat.le_of_ble_eq_true rfl) (Nat.le_of_ble_eq_true rfl)
    obtain ⟨b18, q18⟩ : ∃ z, z = T15.heap.size := ⟨_, rfl⟩
    rw [← q18] at A18 st18
    refine Go.by (fun _ => st18 _) ?_
    have ne_b1_b18 : b1 ≠ b18 := Nat.ne_of_lt (Nat.lt_of_lt_of_le F16.lt (Nat.le_of_eq q18.symm))
    have ne_b11_b18 : b11 ≠ b18 := Nat.ne_of_lt (Nat.lt_of_lt_of_le FE15.lt (Nat.le_of_eq q18.symm))
    have ne_t15_b18 : t15 ≠ b18 := Nat.ne_of_lt (Nat.lt_of_lt_of_le FA15.lt (Nat.le_of_eq q18.symm))
    have g_b18 : n0 ≤ b18 := Nat.le_trans Z15 (Nat.le_of_eq q18.symm)
    have F19 : Arv Z h18 b1 k1 .char (4 : Int32) [(.int c0), (.int c1), (.int c2), (.int c3)] (.int (0 : Int32)) := F16.ext E18
    have F20 : Exa Z h18 b11 "java/lang/String" := FE15.ext E18
    have F21 : Fld Z h18 b11 "java/lang/String" "coder" "B" (.int (0 : Int32)) := FC15.ext E18
    have F22 : Fld Z h18 b11 "java/lang/String" "value" "[B" (.ref t15) := FV15.ext E18
    have F23 : Arv Z h18 t15 kb15 .byte (4 : Int32) (((([c0, c1, c2, c3] : List Int32)).map (fun c => c.toInt8.toInt32)).map Value.int) (.int (0 : Int32)) := FA15.ext E18
    have O18 := O15.ext E18
    have Z18 : n0 ≤ h18.size := Nat.le_trans Z15 E18.1
    have F24 : Arv Z h18 b18 k18 .int (1 : Int32) [(.int (0 : Int32))] (.int (0 : Int32)) := (Arv.new A18 (by decide)).pad (pad_rep [] (.int (0 : Int32)) 1)
    show Go p e below P (T18.setTop (mkF m 105 #[.val (.int p0), .val (.int p1), .val (.int p2), .val (.int p3), .val (.int p4), .val (.ref b1), .val (.ref b11), .val (.int s7), .val (.int e8), .val (.int (1 : Int32)), .unset, .unset, .unset] [(.ref b18)]))
    refine Go.by (fun _ => XS.astore X18.here hx rfl (hb hby at_105) rfl rfl (l' := #[.val (.int p0), .val (.int p1), .val (.int p2), .val (.int p3), .val (.int p4), .val (.ref b1), .val (.ref b11), .val (.int s7), .val (.int e8), .val (.int (1 : Int32)), .val (.ref b18), .unset, .unset]) rfl) ?_
    show Go p e below P (T18.setTop (mkF m 107 #[.val (.int p0), .val (.int p1), .val (.int p2), .val (.int p3), .val (.int p4), .val (.ref b1), .val (.ref b11), .val (.int s7), .val (.int e8), .val (.int (1 : Int32)), .val (.ref b18), .unset, .unset] []))
    refine Go.by (fun _ => XS.aload X18.here hx rfl (hb hby at_107) rfl rfl) ?_
    show Go p e below P (T18.setTop (mkF m 109 #[.val (.int p0), .val (.int p1), .val (.int p2), .val (.int p3), .val (.int p4), .val (.ref b1), .val (.ref b11), .val (.int s7), .val (.int e8), .val (.int (1 : Int32)), .val (.ref b18), .unset, .unset] [(.ref b18)]))
    refine Go.by (fun _ => XS.iconst X18.here hx rfl (hb hby at_109)) ?_
    show Go p e below P (T18.setTop (mkF m 110 #[.val (.int p0), .val (.int p1), .val (.int p2), .val (.int p3), .val (.int p4), .val (.ref b1), .val (.ref b11), .val (.int s7), .val (.int e8), .val (.int (1 : Int32)), .val (.ref b18), .unset, .unset] [(.int (0 : Int32)), (.ref b18)]))
    refine Go.by (fun _ => XS.iloadN X18.here hx rfl (hb hby at_110) rfl) ?_
    show Go p e below P (T18.setTop (mkF m 111 #[.val (.int p0), .val (.int p1), .val (.int p2), .val (.int p3), .val (.int p4), .val (.ref b1), .val (.ref b11), .val (.int s7), .val (.int e8), .val (.int (1 : Int32)), .val (.ref b18), .unset, .unset] [(.int p2), (.int (0 : Int32)), (.ref b18)]))
    obtain ⟨cl25, Ar25, qc25, Sz25, Ng25, Hs25, Gf25⟩ := id (F24)
    have hin25 : ¬ ((0 : Int32) < 0 ∨ cl25.slots.size ≤ ((0 : Int32)).toNatClampNeg) := inb_of Sz25 ⟨by decide, by decide⟩
    obtain ⟨T25, h25, X25, e25, W25, st25⟩ := stI X18 hx hZ e18 Ar25 (j := (0 : Int32)) hin25 (g := (mkF m 111 #[.val (.int p0), .val (.int p1), .val (.int p2), .val (.int p3), .val (.int p4), .val (.ref b1), .val (.ref b11), .val (.int s7), .val (.int e8), .val (.int (1 : Int32)), .val (.ref b18), .unset, .unset] [(.int p2), (.int (0 : Int32)), (.ref b18)])) rfl rfl (hb hby at_111)
    refine Go.by (fun _ => st25 _) ?_
    have F26 : Arv Z h25 b1 k1 .char (4 : Int32) [(.int c0), (.int c1), (.int c2), (.int c3)] (.int (0 : Int32)) := F19.other W25 ne_b1_b18
    have F27 : Exa Z h25 b11 "java/lang/String" := F20.wr W25
    have F28 : Fld Z h25 b11 "java/lang/String" "coder" "B" (.int (0 : Int32)) := F21.other W25 (Or.inl ne_b11_b18)
    have F29 : Fld Z h25 b11 "java/lang/String" "value" "[B" (.ref t15) := F22.other W25 (Or.inl ne_b11_b18)
    have F30 : Arv Z h25 t15 kb15 .byte (4 : Int32) (((([c0, c1, c2, c3] : List Int32)).map (fun c => c.toInt8.toInt32)).map Value.int) (.int (0 : Int32)) := F23.other W25 ne_t15_b18
    have O25 := O18.wr W25 g_b18
    have Z25 : n0 ≤ h25.size := Nat.le_trans Z18 (Keep.of_wr W25).1
    have F31 : Arv Z h25 b18 k18 .int (1 : Int32) [(.int p2)] (.int (0 : Int32)) := Arv.set Ar25 qc25 Sz25 Ng25 Hs25 Gf25 rfl W25 0 rfl (Nat.le_of_ble_eq_true rfl)
    have N25 := Fr.snoc X25 N15 g_b18
    show Go p e below P (T25.setTop (mkF m 112 #[.val (.int p0), .val (.int p1), .val (.int p2), .val (.int p3), .val (.int p4), .val (.ref b1), .val (.ref b11), .val (.int s7), .val (.int e8), .val (.int (1 : Int32)), .val (.ref b18), .unset, .unset] []))
    refine Go.by (fun _ => XS.iload X25.here hx rfl (hb hby at_112) rfl) ?_
    show Go p e below P (T25.setTop (mkF m 114 #[.val (.int p0), .val (.int p1), .val (.int p2), .val (.int p3), .val (.int p4), .val (.ref b1), .val (.ref b11), .val (.int s7), .val (.int e8), .val (.int (1 : Int32)), .val (.ref b18), .unset, .unset] [(.int (1 : Int32))]))
    refine Go.by (fun _ => XS.iconst X25.here hx rfl (hb hby at_114)) ?_
    show Go p e below P (T25.setTop (mkF m 115 #[.val (.int p0), .val (.int p1), .val (.int p2), .val (.int p3), .val (.int p4), .val (.ref b1), .val (.ref b11), .val (.int s7), .val (.int e8), .val (.int (1 : Int32)), .val (.ref b18), .unset, .unset] [(.int (1 : Int32)), (.int (1 : Int32))]))
    have hc115 : ¬ ((1 : Int32) < (1 : Int32)) := by decide
    refine Go.by (fun _ => XS.icmpYes X25.here hx rfl (pc0 := 115) (pc' := 123) rfl (hb hby at_115) rfl (flt hc115).2.2.2 (by decide) (by decide)) ?_
    show Go p e below P (T25.setTop (mkF m 123 #[.val (.int p0), .val (.int p1), .val (.int p2), .val (.int p3), .val (.int p4), .val (.ref b1), .val (.ref b11), .val (.int s7), .val (.int e8), .val (.int (1 : Int32)), .val (.ref b18), .unset, .unset] []))
    refine Go.by (fun _ => XS.iload X25.here hx rfl (hb hby at_123) rfl) ?_
    show Go p e below P (T25.setTop (mkF m 125 #[.val (.int p0), .val (.int p1), .val (.int p2), .val (.int p3), .val (.int p4), .val (.ref b1), .val (.ref b11), .val (.int s7), .val (.int e8), .val (.int (1 : Int32)), .val (.ref b18), .unset, .unset] [(.int (1 : Int32))]))
    refine Go.by (fun _ => XS.iconst X25.here hx rfl (hb hby at_125)) ?_
    show Go p e below P (T25.setTop (mkF m 126 #[.val (.int p0), .val (.int p1), .val (.int p2), .val (.int p3), .val (.int p4), .val (.ref b1), .val (.ref b11), .val (.int s7), .val (.int e8), .val (.int (1 : Int32)), .val (.ref b18), .unset, .unset] [(.int (2 : Int32)), (.int (1 : Int32))]))
    have hc126 : ¬ ((2 : Int32) < (1 : Int32)) := by decide
    refine Go.by (fun _ => XS.icmpYes X25.here hx rfl (pc0 := 126) (pc' := 135) rfl (hb hby at_126) rfl (flt hc126).2.2.2 (by decide) (by decide)) ?_
    show Go p e below P (T25.setTop (mkF m 135 #[.val (.int p0), .val (.int p1), .val (.int p2), .val (.int p3), .val (.int p4), .val (.ref b1), .val (.ref b11), .val (.int s7), .val (.int e8), .val (.int (1 : Int32)), .val (.ref b18), .unset, .unset] []))
    refine Go.by (fun _ => XS.aload X25.here hx rfl (hb hby at_135) rfl rfl) ?_
    show Go p e below P (T25.setTop (mkF m 137 #[.val (.int p0), .val (.int p1), .val (.int p2), .val (.int p3), .val (.int p4), .val (.ref b1), .val (.ref b11), .val (.int s7), .val (.int e8), .val (.int (1 : Int32)), .val (.ref b18), .unset, .unset] [(.ref b11)]))
    refine Go.by (fun _ => XS.iload X25.here hx rfl (hb hby at_137) rfl) ?_
    show Go p e below P (T25.setTop (mkF m 139 #[.val (.int p0), .val (.int p1), .val (.int p2), .val (.int p3), .val (.int p4), .val (.ref b1), .val (.ref b11), .val (.int s7), .val (.int e8), .val (.int (1 : Int32)), .val (.ref b18), .unset, .unset] [(.int s7), (.ref b11)]))
    refine Go.by (fun _ => XS.iload X25.here hx rfl (hb hby at_139) rfl) ?_
    show Go p e below P (T25.setTop (mkF m 141 #[.val (.int p0), .val (.int p1), .val (.int p2), .val (.int p3), .val (.int p4), .val (.ref b1), .val (.ref b11), .val (.int s7), .val (.int e8), .val (.int (1 : Int32)), .val (.ref b18), .unset, .unset] [(.int e8), (.int s7), (.ref b11)]))
    refine Go.by (fun _ => XS.aload X25.here hx rfl (hb hby at_141) rfl rfl) ?_
    show Go p e below P (T25.setTop (mkF m 143 #[.val (.int p0), .val (.int p1), .val (.int p2), .val (.int p3), .val (.int p4), .val (.ref b1), .val (.ref b11), .val (.int s7), .val (.int e8), .val (.int (1 : Int32)), .val (.ref b18), .unset, .unset] [(.ref b18), (.int e8), (.int s7), (.ref b11)]))
    obtain ⟨_, _, ⟨T32, L32, k32, n32⟩, -, X32, ⟨Lc32, hQ32, l32, y32, z32⟩, st32⟩ := Jvm.LawKit.callS X25 hx (y := (⟨"com/example/kontoform/kontoform/WeightedSums", "fromRight", "(Ljava/lang/String;II[I)I"⟩ : MethodName)) hown (mvT hZ (hw _ (List.mem_of_getElem? (i := 31) rfl))) (mvT hZ (hw _ (List.mem_of_getElem? (i := 32) rfl))) (mvT hZ (hw _ (List.mem_of_getElem? (i := 33) rfl))) (mvT hZ (hw _ (List.mem_of_getElem? (i := 34) rfl))) (by decide) (backOf (W := 0) (rm_fr l Z a0 hw [] zC fmV hG b11 s7 e8 b18 t15 kb15 k18 ((1 : Int32)) c0 c1 c2 c3 (([p2] : List Int32)) s7.toInt.toNat e8.toInt.toNat h25 n0 Z25 O25 F27 F29 F28 F30 F31 hp (by omega) (by omega) (by omega) (by omega) rfl (Nat.le_of_ble_eq_true rfl)) hZ (hw _ (List.mem_of_getElem? (i := 34) rfl)) (hw _ (List.mem_of_getElem? (i := 33) rfl)) (Nat.le_of_ble_eq_true rfl) (Nat.le_of_ble_eq_true rfl)) (g := (mkF m 143 #[.val (.int p0), .val (.int p1), .val (.int p2), .val (.int p3), .val (.int p4), .val (.ref b1), .val (.ref b11), .val (.int s7), .val (.int e8), .val (.int (1 : Int32)), .val (.ref b18), .unset, .unset] [(.ref b18), (.int e8), (.int s7), (.ref b11)])) rfl (by rw [hml]; rfl) (argsL := [(.ref b11), (.int s7), (.int e8), (.ref b18)]) (rest := []) (lenOf pd_2 rfl) rfl (by show 2 * 0 + _ ≤ _; exact Nat.le_of_eq rfl) (hb hby at_143) (fun _ _ => ⟨rfl, e25, (Nat.le_of_ble_eq_true rfl : 4 + 0 ≤ _), (Nat.le_of_ble_eq_true rfl : 13 + 0 ≤ _)⟩)
    dsimp only [Pt.U, Pt.locs, Pt.cells, Pt.slots] at X32 l32 y32 z32 st32 hQ32
    subst l32 y32 z32
    obtain ⟨rfl, Nq32, eq32⟩ := hQ32
    have N32 := Fr.app N25 Nq32
    refine Go.by (fun _ => st32 _) ?_
    show Go p e below P (T32.setTop (mkF m 146 #[.val (.int p0), .val (.int p1), .val (.int p2), .val (.int p3), .val (.int p4), .val (.ref b1), .val (.ref b11), .val (.int s7), .val (.int e8), .val (.int (1 : Int32)), .val (.ref b18), .unset, .unset] [(.int (frS ([c0, c1, c2, c3] : List Int32) ([p2] : List Int32) s7.toInt.toNat e8.toInt.toNat (e8.toInt.toNat - s7.toInt.toNat)))]))
    refine Go.by (fun _ => XS.istore X32.here hx rfl (hb hby at_146) rfl (l' := #[.val (.int p0), .val (.int p1), .val (.int p2), .val (.int p3), .val (.int p4), .val (.ref b1), .val (.ref b11), .val (.int s7), .val (.int e8), .val (.int (1 : Int32)), .val (.ref b18), .val (.int (frS ([c0, c1, c2, c3] : List Int32) ([p2] : List Int32) s7.toInt.toNat e8.toInt.toNat (e8.toInt.toNat - s7.toInt.toNat))), .unset]) rfl) ?_
    show Go p e below P (T32.setTop (mkF m 148 #[.val (.int p0), .val (.int p1), .val (.int p2), .val (.int p3), .val (.int p4), .val (.ref b1), .val (.ref b11), .val (.int s7), .val (.int e8), .val (.int (1 : Int32)), .val (.ref b18), .val (.int (frS ([c0, c1, c2, c3] : List Int32) ([p2] : List Int32) s7.toInt.toNat e8.toInt.toNat (e8.toInt.toNat - s7.toInt.toNat))), .unset] []))
    refine Go.by (fun _ => XS.aload X32.here hx rfl (hb hby at_148) rfl rfl) ?_
    show Go p e below P (T32.setTop (mkF m 150 #[.val (.int p0), .val (.int p1), .val (.int p2), .val (.int p3), .val (.int p4), .val (.ref b1), .val (.ref b11), .val (.int s7), .val (.int e8), .val (.int (1 : Int32)), .val (.ref b18), .val (.int (frS ([c0, c1, c2, c3] : List Int32) ([p2] : List Int32) s7.toInt.toNat e8.toInt.toNat (e8.toInt.toNat - s7.toInt.toNat))), .unset] [(.ref b1)]))
    refine Go.by (fun _ => XS.iconst X32.here hx rfl (hb hby at_150)) ?_
    show Go p e below P (T32.setTop (mkF m 151 #[.val (.int p0), .val (.int p1), .val (.int p2), .val (.int p3), .val (.int p4), .val (.ref b1), .val (.ref b11), .val (.int s7), .val (.int e8), .val (.int (1 : Int32)), .val (.ref b18), .val (.int (frS ([c0, c1, c2, c3] : List Int32) ([p2] : List Int32) s7.toInt.toNat e8.toInt.toNat (e8.toInt.toNat - s7.toInt.toNat))), .unset] [(.int (0 : Int32)), (.ref b1)]))
    obtain ⟨cl33, Ar33, qc33, Sz33, Ng33, Hs33, Gf33⟩ := id (F26)
    have hin33 : ¬ ((0 : Int32) < 0 ∨ cl33.slots.size ≤ ((0 : Int32)).toNatClampNeg) := inb_of Sz33 ⟨by decide, by decide⟩
    refine Go.by (fun _ => X32.caload hx (j := (0 : Int32)) (v := (.int c0)) (by rw [eq32]; exact Ar33.1) (State.isArrayOf_alike hZ.alike Ar33.2.1) Ar33.2.2 hin33 (Has.at Hs33 hin33 rfl) (g := (mkF m 151 #[.val (.int p0), .val (.int p1), .val (.int p2), .val (.int p3), .val (.int p4), .val (.ref b1), .val (.ref b11), .val (.int s7), .val (.int e8), .val (.int (1 : Int32)), .val (.ref b18), .val (.int (frS ([c0, c1, c2, c3] : List Int32) ([p2] : List Int32) s7.toInt.toNat e8.toInt.toNat (e8.toInt.toNat - s7.toInt.toNat))), .unset] [(.int (0 : Int32)), (.ref b1)])) rfl rfl (hb hby at_151) _) ?_
    show Go p e below P (T32.setTop (mkF m 152 #[.val (.int p0), .val (.int p1), .val (.int p2), .val (.int p3), .val (.int p4), .val (.ref b1), .val (.ref b11), .val (.int s7), .val (.int e8), .val (.int (1 : Int32)), .val (.ref b18), .val (.int (frS ([c0, c1, c2, c3] : List Int32) ([p2] : List Int32) s7.toInt.toNat e8.toInt.toNat (e8.toInt.toNat - s7.toInt.toNat))), .unset] [(.int c0)]))
    refine Go.by (fun _ => XS.iconst X32.here hx rfl (hb hby at_152)) ?_
    show Go p e below P (T32.setTop (mkF m 153 #[.val (.int p0), .val (.int p1), .val (.int p2), .val (.int p3), .val (.int p4), .val (.ref b1), .val (.ref b11), .val (.int s7), .val (.int e8), .val (.int (1 : Int32)), .val (.ref b18), .val (.int (frS ([c0, c1, c2, c3] : List Int32) ([p2] : List Int32) s7.toInt.toNat e8.toInt.toNat (e8.toInt.toNat - s7.toInt.toNat))), .unset] [(.int (0 : Int32)), (.int c0)]))
    refine Go.by (fun _ => XS.iload X32.here hx rfl (hb hby at_153) rfl) ?_
    show Go p e below P (T32.setTop (mkF m 155 #[.val (.int p0), .val (.int p1), .val (.int p2), .val (.int p3), .val (.int p4), .val (.ref b1), .val (.ref b11), .val (.int s7), .val (.int e8), .val (.int (1 : Int32)), .val (.ref b18), .val (.int (frS ([c0, c1, c2, c3] : List Int32) ([p2] : List Int32) s7.toInt.toNat e8.toInt.toNat (e8.toInt.toNat - s7.toInt.toNat))), .unset] [(.int s7), (.int (0 : Int32)), (.int c0)]))
    refine Go.by (fun _ => XS.iload X32.here hx rfl (hb hby at_155) rfl) ?_
    show Go p e below P (T32.setTop (mkF m 157 #[.val (.int p0), .val (.int p1), .val (.int p2), .val (.int p3), .val (.int p4), .val (.ref b1), .val (.ref b11), .val (.int s7), .val (.int e8), .val (.int (1 : Int32)), .val (.ref b18), .val (.int (frS ([c0, c1, c2, c3] : List Int32) ([p2] : List Int32) s7.toInt.toNat e8.toInt.toNat (e8.toInt.toNat - s7.toInt.toNat))), .unset] [(.int e8), (.int s7), (.int (0 : Int32)), (.int c0)]))
    refine Go.by (fun _ => XS.iload X32.here hx rfl (hb hby at_157) rfl) ?_
    show Go p e below P (T32.setTop (mkF m 159 #[.val (.int p0), .val (.int p1), .val (.int p2), .val (.int p3), .val (.int p4), .val (.ref b1), .val (.ref b11), .val (.int s7), .val (.int e8), .val (.int (1 : Int32)), .val (.ref b18), .val (.int (frS ([c0, c1, c2, c3] : List Int32) ([p2] : List Int32) s7.toInt.toNat e8.toInt.toNat (e8.toInt.toNat - s7.toInt.toNat))), .unset] [(.int (1 : Int32)), (.int e8), (.int s7), (.int (0 : Int32)), (.int c0)]))
    refine Go.by (fun _ => XS.iloadN X32.here hx rfl (hb hby at_159) rfl) ?_
    show Go p e below P (T32.setTop (mkF m 160 #[.val (.int p0), .val (.int p1), .val (.int p2), .val (.int p3), .val (.int p4), .val (.ref b1), .val (.ref b11), .val (.int s7), .val (.int e8), .val (.int (1 : Int32)), .val (.ref b18), .val (.int (frS ([c0, c1, c2, c3] : List Int32) ([p2] : List Int32) s7.toInt.toNat e8.toInt.toNat (e8.toInt.toNat - s7.toInt.toNat))), .unset] [(.int p2), (.int (1 : Int32)), (.int e8), (.int s7), (.int (0 : Int32)), (.int c0)]))
    refine Go.by (fun _ => XS.iloadN X32.here hx rfl (hb hby at_160) rfl) ?_
    show Go p e below P (T32.setTop (mkF m 161 #[.val (.int p0), .val (.int p1), .val (.int p2), .val (.int p3), .val (.int p4), .val (.ref b1), .val (.ref b11), .val (.int s7), .val (.int e8), .val (.int (1 : Int32)), .val (.ref b18), .val (.int (frS ([c0, c1, c2, c3] : List Int32) ([p2] : List Int32) s7.toInt.toNat e8.toInt.toNat (e8.toInt.toNat - s7.toInt.toNat))), .unset] [(.int p3), (.int p2), (.int (1 : Int32)), (.int e8), (.int s7), (.int (0 : Int32)), (.int c0)]))
    refine Go.by (fun _ => XS.iload X32.here hx rfl (hb hby at_161) rfl) ?_
    show Go p e below P (T32.setTop (mkF m 163 #[.val (.int p0), .val (.int p1), .val (.int p2), .val (.int p3), .val (.int p4), .val (.ref b1), .val (.ref b11), .val (.int s7), .val (.int e8), .val (.int (1 : Int32)), .val (.ref b18), .val (.int (frS ([c0, c1, c2, c3] : List Int32) ([p2] : List Int32) s7.toInt.toNat e8.toInt.toNat (e8.toInt.toNat - s7.toInt.toNat))), .unset] [(.int p4), (.int p3), (.int p2), (.int (1 : Int32)), (.int e8), (.int s7), (.int (0 : Int32)), (.int c0)]))
    obtain ⟨_, _, ⟨T34, L34, k34, n34⟩, -, X34, ⟨Lc34, hQ34, l34, y34, z34⟩, st34⟩ := Jvm.LawKit.callS X32 hx (y := (⟨"com/example/kontoform/kontoform/WeightedSumsFromRightPinLaw", "term", "(CIIIIIII)I"⟩ : MethodName)) hown (mvT hZ (hw _ (List.mem_of_getElem? (i := 35) rfl))) (mvT hZ (hw _ (List.mem_of_getElem? (i := 36) rfl))) (mvT hZ (hw _ (List.mem_of_getElem? (i := 37) rfl))) (mvT hZ (hw _ (List.mem_of_getElem? (i := 38) rfl))) (by decide) (backOf (W := 0) (rm_tm l Z a0 hw [] zC fmV hG c0 ((0 : Int32)) s7 e8 ((1 : Int32)) p2 p3 p4 h25 n0 Z25 O25  ) hZ (hw _ (List.mem_of_getElem? (i := 38) rfl)) (hw _ (List.mem_of_getElem? (i := 37) rfl)) (Nat.le_of_ble_eq_true rfl) (Nat.le_of_ble_eq_true rfl)) (g := (mkF m 163 #[.val (.int p0), .val (.int p1), .val (.int p2), .val (.int p3), .val (.int p4), .val (.ref b1), .val (.ref b11), .val (.int s7), .val (.int e8), .val (.int (1 : Int32)), .val (.ref b18), .val (.int (frS ([c0, c1, c2, c3] : List Int32) ([p2] : List Int32) s7.toInt.toNat e8.toInt.toNat (e8.toInt.toNat - s7.toInt.toNat))), .unset] [(.int p4), (.int p3), (.int p2), (.int (1 : Int32)), (.int e8), (.int s7), (.int (0 : Int32)), (.int c0)])) rfl (by rw [hml]; rfl) (argsL := [(.int c0), (.int (0 : Int32)), (.int s7), (.int e8), (.int (1 : Int32)), (.int p2), (.int p3), (.int p4)]) (rest := []) (lenOf pd_3 rfl) rfl (by show 2 * 0 + _ ≤ _; exact Nat.le_of_eq rfl) (hb hby at_163) (fun _ _ => ⟨rfl, eq32, (Nat.le_of_ble_eq_true rfl : 4 + 0 ≤ _), (Nat.le_of_ble_eq_true rfl : 13 + 0 ≤ _)⟩)
    dsimp only [Pt.U, Pt.locs, Pt.cells, Pt.slots] at X34 l34 y34 z34 st34 hQ34
    subst l34 y34 z34
    obtain ⟨rfl, Nq34, eq34⟩ := hQ34
    have N34 := Fr.app N32 Nq34
    refine Go.by (fun _ => st34 _) ?_
    show Go p e below P (T34.setTop (mkF m 166 #[.val (.int p0), .val (.int p1), .val (.int p2), .val (.int p3), .val (.int p4), .val (.ref b1), .val (.ref b11), .val (.int s7), .val (.int e8), .val (.int (1 : Int32)), .val (.ref b18), .val (.int (frS ([c0, c1, c2, c3] : List Int32) ([p2] : List Int32) s7.toInt.toNat e8.toInt.toNat (e8.toInt.toNat - s7.toInt.toNat))), .unset] [(.int (tm c0 (0 : Int32) s7 e8 (1 : Int32) p2 p3 p4))]))
    refine Go.by (fun _ => XS.aload X34.here hx rfl (hb hby at_166) rfl rfl) ?_
    show Go p e below P (T34.setTop (mkF m 168 #[.val (.int p0), .val (.int p1), .val (.int p2), .val (.int p3), .val (.int p4), .val (.ref b1), .val (.ref b11), .val (.int s7), .val (.int e8), .val (.int (1 : Int32)), .val (.ref b18), .val (.int (frS ([c0, c1, c2, c3] : List Int32) ([p2] : List Int32) s7.toInt.toNat e8.toInt.toNat (e8.toInt.toNat - s7.toInt.toNat))), .unset] [(.ref b1), (.int (tm c0 (0 : Int32) s7 e8 (1 : Int32) p2 p3 p4))]))
    refine Go.by (fun _ => XS.iconst X34.here hx rfl (hb hby at_168)) ?_
    show Go p e below P (T34.setTop (mkF m 169 #[.val (.int p0), .val (.int p1), .val (.int p2), .val (.int p3), .val (.int p4), .val (.ref b1), .val (.ref b11), .val (.int s7), .val (.int e8), .val (.int (1 : Int32)), .val (.ref b18), .val (.int (frS ([c0, c1, c2, c3] : List Int32) ([p2] : List Int32) s7.toInt.toNat e8.toInt.toNat (e8.toInt.toNat - s7.toInt.toNat))), .unset] [(.int (1 : Int32)), (.ref b1), (.int (tm c0 (0 : Int32) s7 e8 (1 : Int32) p2 p3 p4))]))
    obtain ⟨cl35, Ar35, qc35, Sz35, Ng35, Hs35, Gf35⟩ := id (F26)
    have hin35 : ¬ ((1 : Int32) < 0 ∨ cl35.slots.size ≤ ((1 : Int32)).toNatClampNeg) := inb_of Sz35 ⟨by decide, by decide⟩
    refine Go.by (fun _ => X34.caload hx (j := (1 : Int32)) (v := (.int c1)) (by rw [eq34]; exact Ar35.1) (State.isArrayOf_alike hZ.alike Ar35.2.1) Ar35.2.2 hin35 (Has.at Hs35 hin35 rfl) (g := (mkF m 169 #[.val (.int p0), .val (.int p1), .val (.int p2), .val (.int p3), .val (.int p4), .val (.ref b1), .val (.ref b11), .val (.int s7), .val (.int e8), .val (.int (1 : Int32)), .val (.ref b18), .val (.int (frS ([c0, c1, c2, c3] : List Int32) ([p2] : List Int32) s7.toInt.toNat e8.toInt.toNat (e8.toInt.toNat - s7.toInt.toNat))), .unset] [(.int (1 : Int32)), (.ref b1), (.int (tm c0 (0 : Int32) s7 e8 (1 : Int32) p2 p3 p4))])) rfl rfl (hb hby at_169) _) ?_
    show Go p e below P (T34.setTop (mkF m 170 #[.val (.int p0), .val (.int p1), .val (.int p2), .val (.int p3), .val (.int p4), .val (.ref b1), .val (.ref b11), .val (.int s7), .val (.int e8), .val (.int (1 : Int32)), .val (.ref b18), .val (.int (frS ([c0, c1, c2, c3] : List Int32) ([p2] : List Int32) s7.toInt.toNat e8.toInt.toNat (e8.toInt.toNat - s7.toInt.toNat))), .unset] [(.int c1), (.int (tm c0 (0 : Int32) s7 e8 (1 : Int32) p2 p3 p4))]))
    refine Go.by (fun _ => XS.iconst X34.here hx rfl (hb hby at_170)) ?_
    show Go p e below P (T34.setTop (mkF m 171 #[.val (.int p0), .val (.int p1), .val (.int p2), .val (.int p3), .val (.int p4), .val (.ref b1), .val (.ref b11), .val (.int s7), .val (.int e8), .val (.int (1 : Int32)), .val (.ref b18), .val (.int (frS ([c0, c1, c2, c3] : List Int32) ([p2] : List Int32) s7.toInt.toNat e8.toInt.toNat (e8.toInt.toNat - s7.toInt.toNat))), .unset] [(.int (1 : Int32)), (.int c1), (.int (tm c0 (0 : Int32) s7 e8 (1 : Int32) p2 p3 p4))]))
    refine Go.by (fun _ => XS.iload X34.here hx rfl (hb hby at_171) rfl) ?_
    show Go p e below P (T34.setTop (mkF m 173 #[.val (.int p0), .val (.int p1), .val (.int p2), .val (.int p3), .val (.int p4), .val (.ref b1), .val (.ref b11), .val (.int s7), .val (.int e8), .val (.int (1 : Int32)), .val (.ref b18), .val (.int (frS ([c0, c1, c2, c3] : List Int32) ([p2] : List Int32) s7.toInt.toNat e8.toInt.toNat (e8.toInt.toNat - s7.toInt.toNat))), .unset] [(.int s7), (.int (1 : Int32)), (.int c1), (.int (tm c0 (0 : Int32) s7 e8 (1 : Int32) p2 p3 p4))]))
    refine Go.by (fun _ => XS.iload X34.here hx rfl (hb hby at_173) rfl) ?_
    show Go p e below P (T34.setTop (mkF m 175 #[.val (.int p0), .val (.int p1), .val (.int p2), .val (.int p3), .val (.int p4), .val (.ref b1), .val (.ref b11), .val (.int s7), .val (.int e8), .val (.int (1 : Int32)), .val (.ref b18), .val (.int (frS ([c0, c1, c2, c3] : List Int32) ([p2] : List Int32) s7.toInt.toNat e8.toInt.toNat (e8.toInt.toNat - s7.toInt.toNat))), .unset] [(.int e8), (.int s7), (.int (1 : Int32)), (.int c1), (.int (tm c0 (0 : Int32) s7 e8 (1 : Int32) p2 p3 p4))]))
    refine Go.by (fun _ => XS.iload X34.here hx rfl (hb hby at_175) rfl) ?_
    show Go p e below P (T34.setTop (mkF m 177 #[.val (.int p0), .val (.int p1), .val (.int p2), .val (.int p3), .val (.int p4), .val (.ref b1), .val (.ref b11), .val (.int s7), .val (.int e8), .val (.int (1 : Int32)), .val (.ref b18), .val (.int (frS ([c0, c1, c2, c3] : List Int32) ([p2] : List Int32) s7.toInt.toNat e8.toInt.toNat (e8.toInt.toNat - s7.toInt.toNat))), .unset] [(.int (1 : Int32)), (.int e8), (.int s7), (.int (1 : Int32)), (.int c1), (.int (tm c0 (0 : Int32) s7 e8 (1 : Int32) p2 p3 p4))]))
    refine Go.by (fun _ => XS.iloadN X34.here hx rfl (hb hby at_177) rfl) ?_
    show Go p e below P (T34.setTop (mkF m 178 #[.val (.int p0), .val (.int p1), .val (.int p2), .val (.int p3), .val (.int p4), .val (.ref b1), .val (.ref b11), .val (.int s7), .val (.int e8), .val (.int (1 : Int32)), .val (.ref b18), .val (.int (frS ([c0, c1, c2, c3] : List Int32) ([p2] : List Int32) s7.toInt.toNat e8.toInt.toNat (e8.toInt.toNat - s7.toInt.toNat))), .unset] [(.int p2), (.int (1 : Int32)), (.int e8), (.int s7), (.int (1 : Int32)), (.int c1), (.int (tm c0 (0 : Int32) s7 e8 (1 : Int32) p2 p3 p4))]))
    refine Go.by (fun _ => XS.iloadN X34.here hx rfl (hb hby at_178) rfl) ?_
    show Go p e below P (T34.setTop (mkF m 179 #[.val (.int p0), .val (.int p1), .val (.int p2), .val (.int p3), .val (.int p4), .val (.ref b1), .val (.ref b11), .val (.int s7), .val (.int e8), .val (.int (1 : Int32)), .val (.ref b18), .val (.int (frS ([c0, c1, c2, c3] : List Int32) ([p2] : List Int32) s7.toInt.toNat e8.toInt.toNat (e8.toInt.toNat - s7.toInt.toNat))), .unset] [(.int p3), (.int p2), (.int (1 : Int32)), (.int e8), (.int s7), (.int (1 : Int32)), (.int c1), (.int (tm c0 (0 : Int32) s7 e8 (1 : Int32) p2 p3 p4))]))
    refine Go.by (fun _ => XS.iload X34.here hx rfl (hb hby at_179) rfl) ?_
    show Go p e below P (T34.setTop (mkF m 181 #[.val (.int p0), .val (.int p1), .val (.int p2), .val (.int p3), .val (.int p4), .val (.ref b1), .val (.ref b11), .val (.int s7), .val (.int e8), .val (.int (1 : Int32)), .val (.ref b18), .val (.int (frS ([c0, c1, c2, c3] : List Int32) ([p2] : List Int32) s7.toInt.toNat e8.toInt.toNat (e8.toInt.toNat - s7.toInt.toNat))), .unset] [(.int p4), (.int p3), (.int p2), (.int (1 : Int32)), (.int e8), (.int s7), (.int (1 : Int32)), (.int c1), (.int (tm c0 (0 : Int32) s7 e8 (1 : Int32) p2 p3 p4))]))
    obtain ⟨_, _, ⟨T36, L36, k36, n36⟩, -, X36, ⟨Lc36, hQ36, l36, y36, z36⟩, st36⟩ := Jvm.LawKit.callS X34 hx (y := (⟨"com/example/kontoform/kontoform/WeightedSumsFromRightPinLaw", "term", "(CIIIIIII)I"⟩ : MethodName)) hown (mvT hZ (hw _ (List.mem_of_getElem? (i := 35) rfl))) (mvT hZ (hw _ (List.mem_of_getElem? (i := 36) rfl))) (mvT hZ (hw _ (List.mem_of_getElem? (i := 37) rfl))) (mvT hZ (hw _ (List.mem_of_getElem? (i := 38) rfl))) (by decide) (backOf (W := 1) (rm_tm l Z a0 hw [] zC fmV hG c1 ((1 : Int32)) s7 e8 ((1 : Int32)) p2 p3 p4 h25 n0 Z25 O25  ) hZ (hw _ (List.mem_of_getElem? (i := 38) rfl)) (hw _ (List.mem_of_getElem? (i := 37) rfl)) (Nat.le_of_ble_eq_true rfl) (Nat.le_of_ble_eq_true rfl)) (g := (mkF m 181 #[.val (.int p0), .val (.int p1), .val (.int p2), .val (.int p3), .val (.int p4), .val (.ref b1), .val (.ref b11), .val (.int s7), .val (.int e8), .val (.int (1 : Int32)), .val (.ref b18), .val (.int (frS ([c0, c1, c2, c3] : List Int32) ([p2] : List Int32) s7.toInt.toNat e8.toInt.toNat (e8.toInt.toNat - s7.toInt.toNat))), .unset] [(.int p4), (.int p3), (.int p2), (.int (1 : Int32)), (.int e8), (.int s7), (.int (1 : Int32)), (.int c1), (.int (tm c0 (0 : Int32) s7 e8 (1 : Int32) p2 p3 p4))])) rfl (by rw [hml]; rfl) (argsL := [(.int c1), (.int (1 : Int32)), (.int s7), (.int e8), (.int (1 : Int32)), (.int p2), (.int p3), (.int p4)]) (rest := [(.int (tm c0 (0 : Int32) s7 e8 (1 : Int32) p2 p3 p4))]) (lenOf pd_3 rfl) rfl (by show 2 * 0 + _ ≤ _; exact Nat.le_of_eq rfl) (hb hby at_181) (fun _ _ => ⟨rfl, eq34, (Nat.le_of_ble_eq_true rfl : 4 + 0 ≤ _), (Nat.le_of_ble_eq_true rfl : 13 + 0 ≤ _)⟩)
    dsimp only [Pt.U, Pt.locs, Pt.cells, Pt.slots] at X36 l36 y36 z36 st36 hQ36
    subst l36 y36 z36
    obtain ⟨rfl, Nq36, eq36⟩ := hQ36
    have N36 := Fr.app N34 Nq36
    refine Go.by (fun _ => st36 _) ?_
    show Go p e below P (T36.setTop (mkF m 184 #[.val (.int p0), .val (.int p1), .val (.int p2), .val (.int p3), .val (.int p4), .val (.ref b1), .val (.ref b11), .val (.int s7), .val (.int e8), .val (.int (1 : Int32)), .val (.ref b18), .val (.int (frS ([c0, c1, c2, c3] : List Int32) ([p2] : List Int32) s7.toInt.toNat e8.toInt.toNat (e8.toInt.toNat - s7.toInt.toNat))), .unset] [(.int (tm c1 (1 : Int32) s7 e8 (1 : Int32) p2 p3 p4)), (.int (tm c0 (0 : Int32) s7 e8 (1 : Int32) p2 p3 p4))]))
    refine Go.by (fun _ => XS.iadd X36.here hx rfl (hb hby at_184) rfl) ?_
    show Go p e below P (T36.setTop (mkF m 185 #[.val (.int p0), .val (.int p1), .val (.int p2), .val (.int p3), .val (.int p4), .val (.ref b1), .val (.ref b11), .val (.int s7), .val (.int e8), .val (.int (1 : Int32)), .val (.ref b18), .val (.int (frS ([c0, c1, c2, c3] : List Int32) ([p2] : List Int32) s7.toInt.toNat e8.toInt.toNat (e8.toInt.toNat - s7.toInt.toNat))), .unset] [(.int ((tm c0 (0 : Int32) s7 e8 (1 : Int32) p2 p3 p4) + (tm c1 (1 : Int32) s7 e8 (1 : Int32) p2 p3 p4)))]))
    refine Go.by (fun _ => XS.aload X36.here hx rfl (hb hby at_185) rfl rfl) ?_
    show Go p e below P (T36.setTop (mkF m 187 #[.val (.int p0), .val (.int p1), .val (.int p2), .val (.int p3), .val (.int p4), .val (.ref b1), .val (.ref b11), .val (.int s7), .val (.int e8), .val (.int (1 : Int32)), .val (.ref b18), .val (.int (frS ([c0, c1, c2, c3] : List Int32) ([p2] : List Int32) s7.toInt.toNat e8.toInt.toNat (e8.toInt.toNat - s7.toInt.toNat))), .unset] [(.ref b1), (.int ((tm c0 (0 : Int32) s7 e8 (1 : Int32) p2 p3 p4) + (tm c1 (1 : Int32) s7 e8 (1 : Int32) p2 p3 p4)))]))
    refine Go.by (fun _ => XS.iconst X36.here hx rfl (hb hby at_187)) ?_
    show Go p e below P (T36.setTop (mkF m 188 #[.val (.int p0), .val (.int p1), .val (.int p2), .val (.int p3), .val (.int p4), .val (.ref b1), .val (.ref b11), .val (.int s7), .val (.int e8), .val (.int (1 : Int32)), .val (.ref b18), .val (.int (frS ([c0, c1, c2, c3] : List Int32) ([p2] : List Int32) s7.toInt.toNat e8.toInt.toNat (e8.toInt.toNat - s7.toInt.toNat))), .unset] [(.int (2 : Int32)), (.ref b1), (.int ((tm c0 (0 : Int32) s7 e8 (1 : Int32) p2 p3 p4) + (tm c1 (1 : Int32) s7 e8 (1 : Int32) p2 p3 p4)))]))
    obtain ⟨cl37, Ar37, qc37, Sz37, Ng37, Hs37, Gf37⟩ := id (F26)
    have hin37 : ¬ ((2 : Int32) < 0 ∨ cl37.slots.size ≤ ((2 : Int32)).toNatClampNeg) := inb_of Sz37 ⟨by decide, by decide⟩
    refine Go.by (fun _ => X36.caload hx (j := (2 : Int32)) (v := (.int c2)) (by rw [eq36]; exact Ar37.1) (State.isArrayOf_alike hZ.alike Ar37.2.1) Ar37.2.2 hin37 (Has.at Hs37 hin37 rfl) (g := (mkF m 188 #[.val (.int p0), .val (.int p1), .val (.int p2), .val (.int p3), .val (.int p4), .val (.ref b1), .val (.ref b11), .val (.int s7), .val (.int e8), .val (.int (1 : Int32)), .val (.ref b18), .val (.int (frS ([c0, c1, c2, c3] : List Int32) ([p2] : List Int32) s7.toInt.toNat e8.toInt.toNat (e8.toInt.toNat - s7.toInt.toNat))), .unset] [(.int (2 : Int32)), (.ref b1), (.int ((tm c0 (0 : Int32) s7 e8 (1 : Int32) p2 p3 p4) + (tm c1 (1 : Int32) s7 e8 (1 : Int32) p2 p3 p4)))])) rfl rfl (hb hby at_188) _) ?_
    show Go p e below P (T36.setTop (mkF m 189 #[.val (.int p0), .val (.int p1), .val (.int p2), .val (.int p3), .val (.int p4), .val (.ref b1), .val (.ref b11), .val (.int s7), .val (.int e8), .val (.int (1 : Int32)), .val (.ref b18), .val (.int (frS ([c0, c1, c2, c3] : List Int32) ([p2] : List Int32) s7.toInt.toNat e8.toInt.toNat (e8.toInt.toNat - s7.toInt.toNat))), .unset] [(.int c2), (.int ((tm c0 (0 : Int32) s7 e8 (1 : Int32) p2 p3 p4) + (tm c1 (1 : Int32) s7 e8 (1 : Int32) p2 p3 p4)))]))
    refine Go.by (fun _ => XS.iconst X36.here hx rfl (hb hby at_189)) ?_
    show Go p e below P (T36.setTop (mkF m 190 #[.val (.int p0), .val (.int p1), .val (.int p2), .val (.int p3), .val (.int p4), .val (.ref b1), .val (.ref b11), .val (.int s7), .val (.int e8), .val (.int (1 : Int32)), .val (.ref b18), .val (.int (frS ([c0, c1, c2, c3] : List Int32) ([p2] : List Int32) s7.toInt.toNat e8.toInt.toNat (e8.toInt.toNat - s7.toInt.toNat))), .unset] [(.int (2 : Int32)), (.int c2), (.int ((tm c0 (0 : Int32) s7 e8 (1 : Int32) p2 p3 p4) + (tm c1 (1 : Int32) s7 e8 (1 : Int32) p2 p3 p4)))]))
    refine Go.by (fun _ => XS.iload X36.here hx rfl (hb hby at_190) rfl) ?_
    show Go p e below P (T36.setTop (mkF m 192 #[.val (.int p0), .val (.int p1), .val (.int p2), .val (.int p3), .val (.int p4), .val (.ref b1), .val (.ref b11), .val (.int s7), .val (.int e8), .val (.int (1 : Int32)), .val (.ref b18), .val (.int (frS ([c0, c1, c2, c3] : List Int32) ([p2] : List Int32) s7.toInt.toNat e8.toInt.toNat (e8.toInt.toNat - s7.toInt.toNat))), .unset] [(.int s7), (.int (2 : Int32)), (.int c2), (.int ((tm c0 (0 : Int32) s7 e8 (1 : Int32) p2 p3 p4) + (tm c1 (1 : Int32) s7 e8 (1 : Int32) p2 p3 p4)))]))
    refine Go.by (fun _ => XS.iload X36.here hx rfl (hb hby at_192) rfl) ?_
    show Go p e below P (T36.setTop (mkF m 194 #[.val (.int p0), .val (.int p1), .val (.int p2), .val (.int p3), .val (.int p4), .val (.ref b1), .val (.ref b11), .val (.int s7), .val (.int e8), .val (.int (1 : Int32)), .val (.ref b18), .val (.int (frS ([c0, c1, c2, c3] : List Int32) ([p2] : List Int32) s7.toInt.toNat e8.toInt.toNat (e8.toInt.toNat - s7.toInt.toNat))), .unset] [(.int e8), (.int s7), (.int (2 : Int32)), (.int c2), (.int ((tm c0 (0 : Int32) s7 e8 (1 : Int32) p2 p3 p4) + (tm c1 (1 : Int32) s7 e8 (1 : Int32) p2 p3 p4)))]))
    refine Go.by (fun _ => XS.iload X36.here hx rfl (hb hby at_194) rfl) ?_
    show Go p e below P (T36.setTop (mkF m 196 #[.val (.int p0), .val (.int p1), .val (.int p2), .val (.int p3), .val (.int p4), .val (.ref b1), .val (.ref b11), .val (.int s7), .val (.int e8), .val (.int (1 : Int32)), .val (.ref b18), .val (.int (frS ([c0, c1, c2, c3] : List Int32) ([p2] : List Int32) s7.toInt.toNat e8.toInt.toNat (e8.toInt.toNat - s7.toInt.toNat))), .unset] [(.int (1 : Int32)), (.int e8), (.int s7), (.int (2 : Int32)), (.int c2), (.int ((tm c0 (0 : Int32) s7 e8 (1 : Int32) p2 p3 p4) + (tm c1 (1 : Int32) s7 e8 (1 : Int32) p2 p3 p4)))]))
    refine Go.by (fun _ => XS.iloadN X36.here hx rfl (hb hby at_196) rfl) ?_
    show Go p e below P (T36.setTop (mkF m 197 #[.val (.int p0), .val (.int p1), .val (.int p2), .val (.int p3), .val (.int p4), .val (.ref b1), .val (.ref b11), .val (.int s7), .val (.int e8), .val (.int (1 : Int32)), .val (.ref b18), .val (.int (frS ([c0, c1, c2, c3] : List Int32) ([p2] : List Int32) s7.toInt.toNat e8.toInt.toNat (e8.toInt.toNat - s7.toInt.toNat))), .unset] [(.int p2), (.int (1 : Int32)), (.int e8), (.int s7), (.int (2 : Int32)), (.int c2), (.int ((tm c0 (0 : Int32) s7 e8 (1 : Int32) p2 p3 p4) + (tm c1 (1 : Int32) s7 e8 (1 : Int32) p2 p3 p4)))]))
    refine Go.by (fun _ => XS.iloadN X36.here hx rfl (hb hby at_197) rfl) ?_
    show Go p e below P (T36.setTop (mkF m 198 #[.val (.int p0), .val (.int p1), .val (.int p2), .val (.int p3), .val (.int p4), .val (.ref b1), .val (.ref b11), .val (.int s7), .val (.int e8), .val (.int (1 : Int32)), .val (.ref b18), .val (.int (frS ([c0, c1, c2, c3] : List Int32) ([p2] : List Int32) s7.toInt.toNat e8.toInt.toNat (e8.toInt.toNat - s7.toInt.toNat))), .unset] [(.int p3), (.int p2), (.int (1 : Int32)), (.int e8), (.int s7), (.int (2 : Int32)), (.int c2), (.int ((tm c0 (0 : Int32) s7 e8 (1 : Int32) p2 p3 p4) + (tm c1 (1 : Int32) s7 e8 (1 : Int32) p2 p3 p4)))]))
    refine Go.by (fun _ => XS.iload X36.here hx rfl (hb hby at_198) rfl) ?_
    show Go p e below P (T36.setTop (mkF m 200 #[.val (.int p0), .val (.int p1), .val (.int p2), .val (.int p3), .val (.int p4), .val (.ref b1), .val (.ref b11), .val (.int s7), .val (.int e8), .val (.int (1 : Int32)), .val (.ref b18), .val (.int (frS ([c0, c1, c2, c3] : List Int32) ([p2] : List Int32) s7.toInt.toNat e8.toInt.toNat (e8.toInt.toNat - s7.toInt.toNat))), .unset] [(.int p4), (.int p3), (.int p2), (.int (1 : Int32)), (.int e8), (.int s7), (.int (2 : Int32)), (.int c2), (.int ((tm c0 (0 : Int32) s7 e8 (1 : Int32) p2 p3 p4) + (tm c1 (1 : Int32) s7 e8 (1 : Int32) p2 p3 p4)))]))
    obtain ⟨_, _, ⟨T38, L38, k38, n38⟩, -, X38, ⟨Lc38, hQ38, l38, y38, z38⟩, st38⟩ := Jvm.LawKit.callS X36 hx (y := (⟨"com/example/kontoform/kontoform/WeightedSumsFromRightPinLaw", "term", "(CIIIIIII)I"⟩ : MethodName)) hown (mvT hZ (hw _ (List.mem_of_getElem? (i := 35) rfl))) (mvT hZ (hw _ (List.mem_of_getElem? (i := 36) rfl))) (mvT hZ (hw _ (List.mem_of_getElem? (i := 37) rfl))) (mvT hZ (hw _ (List.mem_of_getElem? (i := 38) rfl))) (by decide) (backOf (W := 1) (rm_tm l Z a0 hw [] zC fmV hG c2 ((2 : Int32)) s7 e8 ((1 : Int32)) p2 p3 p4 h25 n0 Z25 O25  ) hZ (hw _ (List.mem_of_getElem? (i := 38) rfl)) (hw _ (List.mem_of_getElem? (i := 37) rfl)) (Nat.le_of_ble_eq_true rfl) (Nat.le_of_ble_eq_true rfl)) (g := (mkF m 200 #[.val (.int p0), .val (.int p1), .val (.int p2), .val (.int p3), .val (.int p4), .val (.ref b1), .val (.ref b11), .val (.int s7), .val (.int e8), .val (.int (1 : Int32)), .val (.ref b18), .val (.int (frS ([c0, c1, c2, c3] : List Int32) ([p2] : List Int32) s7.toInt.toNat e8.toInt.toNat (e8.toInt.toNat - s7.toInt.toNat))), .unset] [(.int p4), (.int p3), (.int p2), (.int (1 : Int32)), (.int e8), (.int s7), (.int (2 : Int32)), (.int c2), (.int ((tm c0 (0 : Int32) s7 e8 (1 : Int32) p2 p3 p4) + (tm c1 (1 : Int32) s7 e8 (1 : Int32) p2 p3 p4)))])) rfl (by rw [hml]; rfl) (argsL := [(.int c2), (.int (2 : Int32)), (.int s7), (.int e8), (.int (1 : Int32)), (.int p2), (.int p3), (.int p4)]) (rest := [(.int ((tm c0 (0 : Int32) s7 e8 (1 : Int32) p2 p3 p4) + (tm c1 (1 : Int32) s7 e8 (1 : Int32) p2 p3 p4)))]) (lenOf pd_3 rfl) rfl (by show 2 * 0 + _ ≤ _; exact Nat.le_of_eq rfl) (hb hby at_200) (fun _ _ => ⟨rfl, eq36, (Nat.le_of_ble_eq_true rfl : 4 + 0 ≤ _), (Nat.le_of_ble_eq_true rfl : 13 + 0 ≤ _)⟩)
    dsimp only [Pt.U, Pt.locs, Pt.cells, Pt.slots] at X38 l38 y38 z38 st38 hQ38
    subst l38 y38 z38
    obtain ⟨rfl, Nq38, eq38⟩ := hQ38
    have N38 := Fr.app N36 Nq38
    refine Go.by (fun _ => st38 _) ?_
    show Go p e below P (T38.setTop (mkF m 203 #[.val (.int p0), .val (.int p1), .val (.int p2), .val (.int p3), .val (.int p4), .val (.ref b1), .val (.ref b11), .val (.int s7), .val (.int e8), .val (.int (1 : Int32)), .val (.ref b18), .val (.int (frS ([c0, c1, c2, c3] : List Int32) ([p2] : List Int32) s7.toInt.toNat e8.toInt.toNat (e8.toInt.toNat - s7.toInt.toNat))), .unset] [(.int (tm c2 (2 : Int32) s7 e8 (1 : Int32) p2 p3 p4)), (.int ((tm c0 (0 : Int32) s7 e8 (1 : Int32) p2 p3 p4) + (tm c1 (1 : Int32) s7 e8 (1 : Int32) p2 p3 p4)))]))
    refine Go.by (fun _ => XS.iadd X38.here hx rfl (hb hby at_203) rfl) ?_
    show Go p e below P (T38.setTop (mkF m 204 #[.val (.int p0), .val (.int p1), .val (.int p2), .val (.int p3), .val (.int p4), .val (.ref b1), .val (.ref b11), .val (.int s7), .val (.int e8), .val (.int (1 : Int32)), .val (.ref b18), .val (.int (frS ([c0, c1, c2, c3] : List Int32) ([p2] : List Int32) s7.toInt.toNat e8.toInt.toNat (e8.toInt.toNat - s7.toInt.toNat))), .unset] [(.int (((tm c0 (0 : Int32) s7 e8 (1 : Int32) p2 p3 p4) + (tm c1 (1 : Int32) s7 e8 (1 : Int32) p2 p3 p4)) + (tm c2 (2 : Int32) s7 e8 (1 : Int32) p2 p3 p4)))]))
    refine Go.by (fun _ => XS.aload X38.here hx rfl (hb hby at_204) rfl rfl) ?_
    show Go p e below P (T38.setTop (mkF m 206 #[.val (.int p0), .val (.int p1), .val (.int p2), .val (.int p3), .val (.int p4), .val (.ref b1), .val (.ref b11), .val (.int s7), .val (.int e8), .val (.int (1 : Int32)), .val (.ref b18), .val (.int (frS ([c0, c1, c2, c3] : List Int32) ([p2] : List Int32) s7.toInt.toNat e8.toInt.toNat (e8.toInt.toNat - s7.toInt.toNat))), .unset] [(.ref b1), (.int (((tm c0 (0 : Int32) s7 e8 (1 : Int32) p2 p3 p4) + (tm c1 (1 : Int32) s7 e8 (1 : Int32) p2 p3 p4)) + (tm c2 (2 : Int32) s7 e8 (1 : Int32) p2 p3 p4)))]))
    refine Go.by (fun _ => XS.iconst X38.here hx rfl (hb hby at_206)) ?_
    show Go p e below P (T38.setTop (mkF m 207 #[.val (.int p0), .val (.int p1), .val (.int p2), .val (.int p3), .val (.int p4), .val (.ref b1), .val (.ref b11), .val (.int s7), .val (.int e8), .val (.int (1 : Int32)), .val (.ref b18), .val (.int (frS ([c0, c1, c2, c3] : List Int32) ([p2] : List Int32) s7.toInt.toNat e8.toInt.toNat (e8.toInt.toNat - s7.toInt.toNat))), .unset] [(.int (3 : Int32)), (.ref b1), (.int (((tm c0 (0 : Int32) s7 e8 (1 : Int32) p2 p3 p4) + (tm c1 (1 : Int32) s7 e8 (1 : Int32) p2 p3 p4)) + (tm c2 (2 : Int32) s7 e8 (1 : Int32) p2 p3 p4)))]))
    obtain ⟨cl39, Ar39, qc39, Sz39, Ng39, Hs39, Gf39⟩ := id (F26)
    have hin39 : ¬ ((3 : Int32) < 0 ∨ cl39.slots.size ≤ ((3 : Int32)).toNatClampNeg) := inb_of Sz39 ⟨by decide, by decide⟩
    refine Go.by (fun _ => X38.caload hx (j := (3 : Int32)) (v := (.int c3)) (by rw [eq38]; exact Ar39.1) (State.isArrayOf_alike hZ.alike Ar39.2.1) Ar39.2.2 hin39 (Has.at Hs39 hin39 rfl) (g := (mkF m 207 #[.val (.int p0), .val (.int p1), .val (.int p2), .val (.int p3), .val (.int p4), .val (.ref b1), .val (.ref b11), .val (.int s7), .val (.int e8), .val (.int (1 : Int32)), .val (.ref b18), .val (.int (frS ([c0, c1, c2, c3] : List Int32) ([p2] : List Int32) s7.toInt.toNat e8.toInt.toNat (e8.toInt.toNat - s7.toInt.toNat))), .unset] [(.int (3 : Int32)), (.ref b1), (.int (((tm c0 (0 : Int32) s7 e8 (1 : Int32) p2 p3 p4) + (tm c1 (1 : Int32) s7 e8 (1 : Int32) p2 p3 p4)) + (tm c2 (2 : Int32) s7 e8 (1 : Int32) p2 p3 p4)))])) rfl rfl (hb hby at_207) _) ?_
    show Go p e below P (T38.setTop (mkF m 208 #[.val (.int p0), .val (.int p1), .val (.int p2), .val (.int p3), .val (.int p4), .val (.ref b1), .val (.ref b11), .val (.int s7), .val (.int e8), .val (.int (1 : Int32)), .val (.ref b18), .val (.int (frS ([c0, c1, c2, c3] : List Int32) ([p2] : List Int32) s7.toInt.toNat e8.toInt.toNat (e8.toInt.toNat - s7.toInt.toNat))), .unset] [(.int c3), (.int (((tm c0 (0 : Int32) s7 e8 (1 : Int32) p2 p3 p4) + (tm c1 (1 : Int32) s7 e8 (1 : Int32) p2 p3 p4)) + (tm c2 (2 : Int32) s7 e8 (1 : Int32) p2 p3 p4)))]))
    refine Go.by (fun _ => XS.iconst X38.here hx rfl (hb hby at_208)) ?_
    show Go p e below P (T38.setTop (mkF m 209 #[.val (.int p0), .val (.int p1), .val (.int p2), .val (.int p3), .val (.int p4), .val (.ref b1), .val (.ref b11), .val (.int s7), .val (.int e8), .val (.int (1 : Int32)), .val (.ref b18), .val (.int (frS ([c0, c1, c2, c3] : List Int32) ([p2] : List Int32) s7.toInt.toNat e8.toInt.toNat (e8.toInt.toNat - s7.toInt.toNat))), .unset] [(.int (3 : Int32)), (.int c3), (.int (((tm c0 (0 : Int32) s7 e8 (1 : Int32) p2 p3 p4) + (tm c1 (1 : Int32) s7 e8 (1 : Int32) p2 p3 p4)) + (tm c2 (2 : Int32) s7 e8 (1 : Int32) p2 p3 p4)))]))
    refine Go.by (fun _ => XS.iload X38.here hx rfl (hb hby at_209) rfl) ?_
    show Go p e below P (T38.setTop (mkF m 211 #[.val (.int p0), .val (.int p1), .val (.int p2), .val (.int p3), .val (.int p4), .val (.ref b1), .val (.ref b11), .val (.int s7), .val (.int e8), .val (.int (1 : Int32)), .val (.ref b18), .val (.int (frS ([c0, c1, c2, c3] : List Int32) ([p2] : List Int32) s7.toInt.toNat e8.toInt.toNat (e8.toInt.toNat - s7.toInt.toNat))), .unset] [(.int s7), (.int (3 : Int32)), (.int c3), (.int (((tm c0 (0 : Int32) s7 e8 (1 : Int32) p2 p3 p4) + (tm c1 (1 : Int32) s7 e8 (1 : Int32) p2 p3 p4)) + (tm c2 (2 : Int32) s7 e8 (1 : Int32) p2 p3 p4)))]))
    refine Go.by (fun _ => XS.iload X38.here hx rfl (hb hby at_211) rfl) ?_
    show Go p e below P (T38.setTop (mkF m 213 #[.val (.int p0), .val (.int p1), .val (.int p2), .val (.int p3), .val (.int p4), .val (.ref b1), .val (.ref b11), .val (.int s7), .val (.int e8), .val (.int (1 : Int32)), .val (.ref b18), .val (.int (frS ([c0, c1, c2, c3] : List Int32) ([p2] : List Int32) s7.toInt.toNat e8.toInt.toNat (e8.toInt.toNat - s7.toInt.toNat))), .unset] [(.int e8), (.int s7), (.int (3 : Int32)), (.int c3), (.int (((tm c0 (0 : Int32) s7 e8 (1 : Int32) p2 p3 p4) + (tm c1 (1 : Int32) s7 e8 (1 : Int32) p2 p3 p4)) + (tm c2 (2 : Int32) s7 e8 (1 : Int32) p2 p3 p4)))]))
    refine Go.by (fun _ => XS.iload X38.here hx rfl (hb hby at_213) rfl) ?_
    show Go p e below P (T38.setTop (mkF m 215 #[.val (.int p0), .val (.int p1), .val (.int p2), .val (.int p3), .val (.int p4), .val (.ref b1), .val (.ref b11), .val (.int s7), .val (.int e8), .val (.int (1 : Int32)), .val (.ref b18), .val (.int (frS ([c0, c1, c2, c3] : List Int32) ([p2] : List Int32) s7.toInt.toNat e8.toInt.toNat (e8.toInt.toNat - s7.toInt.toNat))), .unset] [(.int (1 : Int32)), (.int e8), (.int s7), (.int (3 : Int32)), (.int c3), (.int (((tm c0 (0 : Int32) s7 e8 (1 : Int32) p2 p3 p4) + (tm c1 (1 : Int32) s7 e8 (1 : Int32) p2 p3 p4)) + (tm c2 (2 : Int32) s7 e8 (1 : Int32) p2 p3 p4)))]))
    refine Go.by (fun _ => XS.iloadN X38.here hx rfl (hb hby at_215) rfl) ?_
    show Go p e below P (T38.setTop (mkF m 216 #[.val (.int p0), .val (.int p1), .val (.int p2), .val (.int p3), .val (.int p4), .val (.ref b1), .val (.ref b11), .val (.int s7), .val (.int e8), .val (.int (1 : Int32)), .val (.ref b18), .val (.int (frS ([c0, c1, c2, c3] : List Int32) ([p2] : List Int32) s7.toInt.toNat e8.toInt.toNat (e8.toInt.toNat - s7.toInt.toNat))), .unset] [(.int p2), (.int (1 : Int32)), (.int e8), (.int s7), (.int (3 : Int32)), (.int c3), (.int (((tm c0 (0 : Int32) s7 e8 (1 : Int32) p2 p3 p4) + (tm c1 (1 : Int32) s7 e8 (1 : Int32) p2 p3 p4)) + (tm c2 (2 : Int32) s7 e8 (1 : Int32) p2 p3 p4)))]))
    refine Go.by (fun _ => XS.iloadN X38.here hx rfl (hb hby at_216) rfl) ?_
    show Go p e below P (T38.setTop (mkF m 217 #[.val (.int p0), .val (.int p1), .val (.int p2), .val (.int p3), .val (.int p4), .val (.ref b1), .val (.ref b11), .val (.int s7), .val (.int e8), .val (.int (1 : Int32)), .val (.ref b18), .val (.int (frS ([c0, c1, c2, c3] : List Int32) ([p2] : List Int32) s7.toInt.toNat e8.toInt.toNat (e8.toInt.toNat - s7.toInt.toNat))), .unset] [(.int p3), (.int p2), (.int (1 : Int32)), (.int e8), (.int s7), (.int (3 : Int32)), (.int c3), (.int (((tm c0 (0 : Int32) s7 e8 (1 : Int32) p2 p3 p4) + (tm c1 (1 : Int32) s7 e8 (1 : Int32) p2 p3 p4)) + (tm c2 (2 : Int32) s7 e8 (1 : Int32) p2 p3 p4)))]))
    refine Go.by (fun _ => XS.iload X38.here hx rfl (hb hby at_217) rfl) ?_
    show Go p e below P (T38.setTop (mkF m 219 #[.val (.int p0), .val (.int p1), .val (.int p2), .val (.int p3), .val (.int p4), .val (.ref b1), .val (.ref b11), .val (.int s7), .val (.int e8), .val (.int (1 : Int32)), .val (.ref b18), .val (.int (frS ([c0, c1, c2, c3] : List Int32) ([p2] : List Int32) s7.toInt.toNat e8.toInt.toNat (e8.toInt.toNat - s7.toInt.toNat))), .unset] [(.int p4), (.int p3), (.int p2), (.int (1 : Int32)), (.int e8), (.int s7), (.int (3 : Int32)), (.int c3), (.int (((tm c0 (0 : Int32) s7 e8 (1 : Int32) p2 p3 p4) + (tm c1 (1 : Int32) s7 e8 (1 : Int32) p2 p3 p4)) + (tm c2 (2 : Int32) s7 e8 (1 : Int32) p2 p3 p4)))]))
    obtain ⟨_, _, ⟨T40, L40, k40, n40⟩, -, X40, ⟨Lc40, hQ40, l40, y40, z40⟩, st40⟩ := Jvm.LawKit.callS X38 hx (y := (⟨"com/example/kontoform/kontoform/WeightedSumsFromRightPinLaw", "term", "(CIIIIIII)I"⟩ : MethodName)) hown (mvT hZ (hw _ (List.mem_of_getElem? (i := 35) rfl))) (mvT hZ (hw _ (List.mem_of_getElem? (i := 36) rfl))) (mvT hZ (hw _ (List.mem_of_getElem? (i := 37) rfl))) (mvT hZ (hw _ (List.mem_of_getElem? (i := 38) rfl))) (by decide) (backOf (W := 1) (rm_tm l Z a0 hw [] zC fmV hG c3 ((3 : Int32)) s7 e8 ((1 : Int32)) p2 p3 p4 h25 n0 Z25 O25  ) hZ (hw _ (List.mem_of_getElem? (i := 38) rfl)) (hw _ (List.mem_of_getElem? (i := 37) rfl)) (Nat.le_of_ble_eq_true rfl) (Nat.le_of_ble_eq_true rfl)) (g := (mkF m 219 #[.val (.int p0), .val (.int p1), .val (.int p2), .val (.int p3), .val (.int p4), .val (.ref b1), .val (.ref b11), .val (.int s7), .val (.int e8), .val (.int (1 : Int32)), .val (.ref b18), .val (.int (frS ([c0, c1, c2, c3] : List Int32) ([p2] : List Int32) s7.toInt.toNat e8.toInt.toNat (e8.toInt.toNat - s7.toInt.toNat))), .unset] [(.int p4), (.int p3), (.int p2), (.int (1 : Int32)), (.int e8), (.int s7), (.int (3 : Int32)), (.int c3), (.int (((tm c0 (0 : Int32) s7 e8 (1 : Int32) p2 p3 p4) + (tm c1 (1 : Int32) s7 e8 (1 : Int32) p2 p3 p4)) + (tm c2 (2 : Int32) s7 e8 (1 : Int32) p2 p3 p4)))])) rfl (by rw [hml]; rfl) (argsL := [(.int c3), (.int (3 : Int32)), (.int s7), (.int e8), (.int (1 : Int32)), (.int p2), (.int p3), (.int p4)]) (rest := [(.int (((tm c0 (0 : Int32) s7 e8 (1 : Int32) p2 p3 p4) + (tm c1 (1 : Int32) s7 e8 (1 : Int32) p2 p3 p4)) + (tm c2 (2 : Int32) s7 e8 (1 : Int32) p2 p3 p4)))]) (lenOf pd_3 rfl) rfl (by show 2 * 0 + _ ≤ _; exact Nat.le_of_eq rfl) (hb hby at_219) (fun _ _ => ⟨rfl, eq38, (Nat.le_of_ble_eq_true rfl : 4 + 0 ≤ _), (Nat.le_of_ble_eq_true rfl : 13 + 0 ≤ _)⟩)
    dsimp only [Pt.U, Pt.locs, Pt.cells, Pt.slots] at X40 l40 y40 z40 st40 hQ40
    subst l40 y40 z40
    obtain ⟨rfl, Nq40, eq40⟩ := hQ40
    have N40 := Fr.app N38 Nq40
    refine Go.by (fun _ => st40 _) ?_
    show Go p e below P (T40.setTop (mkF m 222 #[.val (.int p0), .val (.int p1), .val (.int p2), .val (.int p3), .val (.int p4), .val (.ref b1), .val (.ref b11), .val (.int s7), .val (.int e8), .val (.int (1 : Int32)), .val (.ref b18), .val (.int (frS ([c0, c1, c2, c3] : List Int32) ([p2] : List Int32) s7.toInt.toNat e8.toInt.toNat (e8.toInt.toNat - s7.toInt.toNat))), .unset] [(.int (tm c3 (3 : Int32) s7 e8 (1 : Int32) p2 p3 p4)), (.int (((tm c0 (0 : Int32) s7 e8 (1 : Int32) p2 p3 p4) + (tm c1 (1 : Int32) s7 e8 (1 : Int32) p2 p3 p4)) + (tm c2 (2 : Int32) s7 e8 (1 : Int32) p2 p3 p4)))]))
    refine Go.by (fun _ => XS.iadd X40.here hx rfl (hb hby at_222) rfl) ?_
    show Go p e below P (T40.setTop (mkF m 223 #[.val (.int p0), .val (.int p1), .val (.int p2), .val (.int p3), .val (.int p4), .val (.ref b1), .val (.ref b11), .val (.int s7), .val (.int e8), .val (.int (1 : Int32)), .val (.ref b18), .val (.int (frS ([c0, c1, c2, c3] : List Int32) ([p2] : List Int32) s7.toInt.toNat e8.toInt.toNat (e8.toInt.toNat - s7.toInt.toNat))), .unset] [(.int ((((tm c0 (0 : Int32) s7 e8 (1 : Int32) p2 p3 p4) + (tm c1 (1 : Int32) s7 e8 (1 : Int32) p2 p3 p4)) + (tm c2 (2 : Int32) s7 e8 (1 : Int32) p2 p3 p4)) + (tm c3 (3 : Int32) s7 e8 (1 : Int32) p2 p3 p4)))]))
    refine Go.by (fun _ => XS.istore X40.here hx rfl (hb hby at_223) rfl (l' := #[.val (.int p0), .val (.int p1), .val (.int p2), .val (.int p3), .val (.int p4), .val (.ref b1), .val (.ref b11), .val (.int s7), .val (.int e8), .val (.int (1 : Int32)), .val (.ref b18), .val (.int (frS ([c0, c1, c2, c3] : List Int32) ([p2] : List Int32) s7.toInt.toNat e8.toInt.toNat (e8.toInt.toNat - s7.toInt.toNat))), .val (.int ((((tm c0 (0 : Int32) s7 e8 (1 : Int32) p2 p3 p4) + (tm c1 (1 : Int32) s7 e8 (1 : Int32) p2 p3 p4)) + (tm c2 (2 : Int32) s7 e8 (1 : Int32) p2 p3 p4)) + (tm c3 (3 : Int32) s7 e8 (1 : Int32) p2 p3 p4)))]) rfl) ?_
    show Go p e below P (T40.setTop (mkF m 225 #[.val (.int p0), .val (.int p1), .val (.int p2), .val (.int p3), .val (.int p4), .val (.ref b1), .val (.ref b11), .val (.int s7), .val (.int e8), .val (.int (1 : Int32)), .val (.ref b18), .val (.int (frS ([c0, c1, c2, c3] : List Int32) ([p2] : List Int32) s7.toInt.toNat e8.toInt.toNat (e8.toInt.toNat - s7.toInt.toNat))), .val (.int ((((tm c0 (0 : Int32) s7 e8 (1 : Int32) p2 p3 p4) + (tm c1 (1 : Int32) s7 e8 (1 : Int32) p2 p3 p4)) + (tm c2 (2 : Int32) s7 e8 (1 : Int32) p2 p3 p4)) + (tm c3 (3 : Int32) s7 e8 (1 : Int32) p2 p3 p4)))] []))
    refine Go.by (fun _ => XS.iload X40.here hx rfl (hb hby at_225) rfl) ?_
    show Go p e below P (T40.setTop (mkF m 227 #[.val (.int p0), .val (.int p1), .val (.int p2), .val (.int p3), .val (.int p4), .val (.ref b1), .val (.ref b11), .val (.int s7), .val (.int e8), .val (.int (1 : Int32)), .val (.ref b18), .val (.int (frS ([c0, c1, c2, c3] : List Int32) ([p2] : List Int32) s7.toInt.toNat e8.toInt.toNat (e8.toInt.toNat - s7.toInt.toNat))), .val (.int ((((tm c0 (0 : Int32) s7 e8 (1 : Int32) p2 p3 p4) + (tm c1 (1 : Int32) s7 e8 (1 : Int32) p2 p3 p4)) + (tm c2 (2 : Int32) s7 e8 (1 : Int32) p2 p3 p4)) + (tm c3 (3 : Int32) s7 e8 (1 : Int32) p2 p3 p4)))] [(.int (frS ([c0, c1, c2, c3] : List Int32) ([p2] : List Int32) s7.toInt.toNat e8.toInt.toNat (e8.toInt.toNat - s7.toInt.toNat)))]))
    refine Go.by (fun _ => XS.iload X40.here hx rfl (hb hby at_227) rfl) ?_
    show Go p e below P (T40.setTop (mkF m 229 #[.val (.int p0), .val (.int p1), .val (.int p2), .val (.int p3), .val (.int p4), .val (.ref b1), .val (.ref b11), .val (.int s7), .val (.int e8), .val (.int (1 : Int32)), .val (.ref b18), .val (.int (frS ([c0, c1, c2, c3] : List Int32) ([p2] : List Int32) s7.toInt.toNat e8.toInt.toNat (e8.toInt.toNat - s7.toInt.toNat))), .val (.int ((((tm c0 (0 : Int32) s7 e8 (1 : Int32) p2 p3 p4) + (tm c1 (1 : Int32) s7 e8 (1 : Int32) p2 p3 p4)) + (tm c2 (2 : Int32) s7 e8 (1 : Int32) p2 p3 p4)) + (tm c3 (3 : Int32) s7 e8 (1 : Int32) p2 p3 p4)))] [(.int ((((tm c0 (0 : Int32) s7 e8 (1 : Int32) p2 p3 p4) + (tm c1 (1 : Int32) s7 e8 (1 : Int32) p2 p3 p4)) + (tm c2 (2 : Int32) s7 e8 (1 : Int32) p2 p3 p4)) + (tm c3 (3 : Int32) s7 e8 (1 : Int32) p2 p3 p4))), (.int (frS ([c0, c1, c2, c3] : List Int32) ([p2] : List Int32) s7.toInt.toNat e8.toInt.toNat (e8.toInt.toNat - s7.toInt.toNat)))]))
    have hc229 : (frS ([c0, c1, c2, c3] : List Int32) ([p2] : List Int32) s7.toInt.toNat e8.toInt.toNat (e8.toInt.toNat - s7.toInt.toNat)) = ((((tm c0 (0 : Int32) s7 e8 (1 : Int32) p2 p3 p4) + (tm c1 (1 : Int32) s7 e8 (1 : Int32) p2 p3 p4)) + (tm c2 (2 : Int32) s7 e8 (1 : Int32) p2 p3 p4)) + (tm c3 (3 : Int32) s7 e8 (1 : Int32) p2 p3 p4)) := own_fin1 c0 c1 c2 c3 p2 p3 p4 s7 e8 s7.toInt.toNat e8.toInt.toNat (by omega) (by omega) (by omega) (by omega)
    refine Go.by (fun _ => XS.icmpNo X40.here hx rfl (hb hby at_229) rfl (teq hc229).2) ?_
    show Go p e below P (T40.setTop (mkF m 232 #[.val (.int p0), .val (.int p1), .val (.int p2), .val (.int p3), .val (.int p4), .val (.ref b1), .val (.ref b11), .val (.int s7), .val (.int e8), .val (.int (1 : Int32)), .val (.ref b18), .val (.int (frS ([c0, c1, c2, c3] : List Int32) ([p2] : List Int32) s7.toInt.toNat e8.toInt.toNat (e8.toInt.toNat - s7.toInt.toNat))), .val (.int ((((tm c0 (0 : Int32) s7 e8 (1 : Int32) p2 p3 p4) + (tm c1 (1 : Int32) s7 e8 (1 : Int32) p2 p3 p4)) + (tm c2 (2 : Int32) s7 e8 (1 : Int32) p2 p3 p4)) + (tm c3 (3 : Int32) s7 e8 (1 : Int32) p2 p3 p4)))] []))
    refine Go.by (fun _ => XS.iconst X40.here hx rfl (hb hby at_232)) ?_
    show Go p e below P (T40.setTop (mkF m 233 #[.val (.int p0), .val (.int p1), .val (.int p2), .val (.int p3), .val (.int p4), .val (.ref b1), .val (.ref b11), .val (.int s7), .val (.int e8), .val (.int (1 : Int32)), .val (.ref b18), .val (.int (frS ([c0, c1, c2, c3] : List Int32) ([p2] : List Int32) s7.toInt.toNat e8.toInt.toNat (e8.toInt.toNat - s7.toInt.toNat))), .val (.int ((((tm c0 (0 : Int32) s7 e8 (1 : Int32) p2 p3 p4) + (tm c1 (1 : Int32) s7 e8 (1 : Int32) p2 p3 p4)) + (tm c2 (2 : Int32) s7 e8 (1 : Int32) p2 p3 p4)) + (tm c3 (3 : Int32) s7 e8 (1 : Int32) p2 p3 p4)))] [(.int (1 : Int32))]))
    refine Go.by (fun _ => XS.goto X40.here hx rfl (pc0 := 233) (pc' := 237) rfl (hb hby at_233) (by decide) (by decide)) ?_
    show Go p e below P (T40.setTop (mkF m 237 #[.val (.int p0), .val (.int p1), .val (.int p2), .val (.int p3), .val (.int p4), .val (.ref b1), .val (.ref b11), .val (.int s7), .val (.int e8), .val (.int (1 : Int32)), .val (.ref b18), .val (.int (frS ([c0, c1, c2, c3] : List Int32) ([p2] : List Int32) s7.toInt.toNat e8.toInt.toNat (e8.toInt.toNat - s7.toInt.toNat))), .val (.int ((((tm c0 (0 : Int32) s7 e8 (1 : Int32) p2 p3 p4) + (tm c1 (1 : Int32) s7 e8 (1 : Int32) p2 p3 p4)) + (tm c2 (2 : Int32) s7 e8 (1 : Int32) p2 p3 p4)) + (tm c3 (3 : Int32) s7 e8 (1 : Int32) p2 p3 p4)))] [(.int (1 : Int32))]))
    subst hP
    refine Go.retZ X40 hx (t := .boolean) Bd.returns (by simp) hlk (hb hby at_237) (Nat.le_of_ble_eq_true rfl) (Nat.le_of_ble_eq_true rfl) ?_
    rw [eq40]
    exact ⟨rfl, N40⟩
  · show Go p e below P (T15.setTop (mkF m 101 #[.val (.int p0), .val (.int p1), .val (.int p2), .val (.int p3), .val (.int p4), .val (.ref b1), .val (.ref b11), .val (.int s7), .val (.int e8), .val (.int (2 : Int32)), .unset, .unset, .unset] []))
    refine Go.by (fun _ => XS.iload X15.here hx rfl (hb hby at_101) rfl) ?_
    show Go p e below P (T15.setTop (mkF m 103 #[.val (.int p0), .val (.int p1), .val (.int p2), .val (.int p3), .val (.int p4), .val (.ref b1), .val (.ref b11), .val (.int s7), .val (.int e8), .val (.int (2 : Int32)), .unset, .unset, .unset] [(.int (2 : Int32))]))
    obtain ⟨T41, h41, k41, X41, e41, E41, A41, st41⟩ := newP X15 hx hZ (hw _ (List.mem_of_getElem? (i := 30) rfl)) rfl (g := (mkF m 103 #[.val (.int p0), .val (.int p1), .val (.int p2), .val (.int p3), .val (.int p4), .val (.ref b1), .val (.ref b11), .val (.int s7), .val (.int e8), .val (.int (2 : Int32)), .unset, .unset, .unset] [(.int (2 : Int32))])) rfl (hb hby at_103) rfl (by decide) (cap := 2) (by decide) (Nat.le_of_ble_eq_true rfl) (Nat.le_of_ble_eq_true rfl) (Nat.le_of_ble_eq_true rfl)
    obtain ⟨b41, q41⟩ : ∃ z, z = T15.heap.size := ⟨_, rfl⟩
    rw [← q41] at A41 st41
    refine Go.by (fun _ => st41 _) ?_
    have ne_b1_b41 : b1 ≠ b41 := Nat.ne_of_lt (Nat.lt_of_lt_of_le F16.lt (Nat.le_of_eq q41.symm))
    have ne_b11_b41 : b11 ≠ b41 := Nat.ne_of_lt (Nat.lt_of_lt_of_le FE15.lt (Nat.le_of_eq q41.symm))
    have ne_t15_b41 : t15 ≠ b41 := Nat.ne_of_lt (Nat.lt_of_lt_of_le FA15.lt (Nat.le_of_eq q41.symm))
    have g_b41 : n0 ≤ b41 := Nat.le_trans Z15 (Nat.le_of_eq q41.symm)
    have F42 : Arv Z h41 b1 k1 .char (4 : Int32) [(.int c0), (.int c1), (.int c2), (.int c3)] (.int (0 : Int32)) := F16.ext E41
    have F43 : Exa Z h41 b11 "java/lang/String" := FE15.ext E41
    have F44 : Fld Z h41 b11 "java/lang/String" "coder" "B" (.int (0 : Int32)) := FC15.ext E41
    have F45 : Fld Z h41 b11 "java/lang/String" "value" "[B" (.ref t15) := FV15.ext E41
    have F46 : Arv Z h41 t15 kb15 .byte (4 : Int32) (((([c0, c1, c2, c3] : List Int32)).map (fun c => c.toInt8.toInt32)).map Value.int) (.int (0 : Int32)) := FA15.ext E41
    have O41 := O15.ext E41
    have Z41 : n0 ≤ h41.size := Nat.le_trans Z15 E41.1
    have F47 : Arv Z h41 b41 k41 .int (2 : Int32) [(.int (0 : Int32)), (.int (0 : Int32))] (.int (0 : Int32)) := (Arv.new A41 (by decide)).pad (pad_rep [] (.int (0 : Int32)) 2)
    show Go p e below P (T41.setTop (mkF m 105 #[.val (.int p0), .val (.int p1), .val (.int p2), .val (.int p3), .val (.int p4), .val (.ref b1), .val (.ref b11), .val (.int s7), .val (.int e8), .val (.int (2 : Int32)), .unset, .unset, .unset] [(.ref b41)]))
    refine Go.by (fun _ => XS.astore X41.here hx rfl (hb hby at_105) rfl rfl (l' := #[.val (.int p0), .val (.int p1), .val (.int p2), .val (.int p3), .val (.int p4), .val (.ref b1), .val (.ref b11), .val (.int s7), .val (.int e8), .val (.int (2 : Int32)), .val (.ref b41), .unset, .unset]) rfl) ?_
    show Go p e below P (T41.setTop (mkF m 107 #[.val (.int p0), .val (.int p1), .val (.int p2), .val (.int p3), .val (.int p4), .val (.ref b1), .val (.ref b11), .val (.int s7), .val (.int e8), .val (.int (2 : Int32)), .val (.ref b41), .unset, .unset] []))
    refine Go.by (fun _ => XS.aload X41.here hx rfl (hb hby at_107) rfl rfl) ?_
    show Go p e below P (T41.setTop (mkF m 109 #[.val (.int p0), .val (.int p1), .val (.int p2), .val (.int p3), .val (.int p4), .val (.ref b1), .val (.ref b11), .val (.int s7), .val (.int e8), .val (.int (2 : Int32)), .val (.ref b41), .unset, .unset] [(.ref b41)]))
    refine Go.by (fun _ => XS.iconst X41.here hx rfl (hb hby at_109)) ?_
    show Go p e below P (T41.setTop (mkF m 110 #[.val (.int p0), .val (.int p1), .val (.int p2), .val (.int p3), .val (.int p4), .val (.ref b1), .val (.ref b11), .val (.int s7), .val (.int e8), .val (.int (2 : Int32)), .val (.ref b41), .unset, .unset] [(.int (0 : Int32)), (.ref b41)]))
    refine Go.by (fun _ => XS.iloadN X41.here hx rfl (hb hby at_110) rfl) ?_
    show Go p e below P (T41.setTop (mkF m 111 #[.val (.int p0), .val (.int p1), .val (.int p2), .val (.int p3), .val (.int p4), .val (.ref b1), .val (.ref b11), .val (.int s7), .val (.int e8), .val (.int (2 : Int32)), .val (.ref b41), .unset, .unset] [(.int p2), (.int (0 : Int32)), (.ref b41)]))
    obtain ⟨cl48, Ar48, qc48, Sz48, Ng48, Hs48, Gf48⟩ := id (F47)
    have hin48 : ¬ ((0 : Int32) < 0 ∨ cl48.slots.size ≤ ((0 : Int32)).toNatClampNeg) := inb_of Sz48 ⟨by decide, by decide⟩
    obtain ⟨T48, h48, X48, e48, W48, st48⟩ := stI X41 hx hZ e41 Ar48 (j := (0 : Int32)) hin48 (g := (mkF m 111 #[.val (.int p0), .val (.int p1), .val (.int p2), .val (.int p3), .val (.int p4), .val (.ref b1), .val (.ref b11), .val (.int s7), .val (.int e8), .val (.int (2 : Int32)), .val (.ref b41), .unset, .unset] [(.int p2), (.int (0 : Int32)), (.ref b41)])) rfl rfl (hb hby at_111)
    refine Go.by (fun _ => st48 _) ?_
    have F49 : Arv Z h48 b1 k1 .char (4 : Int32) [(.int c0), (.int c1), (.int c2), (.int c3)] (.int (0 : Int32)) := F42.other W48 ne_b1_b41
    have F50 : Exa Z h48 b11 "java/lang/String" := F43.wr W48
    have F51 : Fld Z h48 b11 "java/lang/String" "coder" "B" (.int (0 : Int32)) := F44.other W48 (Or.inl ne_b11_b41)
    have F52 : Fld Z h48 b11 "java/lang/String" "value" "[B" (.ref t15) := F45.other W48 (Or.inl ne_b11_b41)
    have F53 : Arv Z h48 t15 kb15 .byte (4 : Int32) (((([c0, c1, c2, c3] : List Int32)).map (fun c => c.toInt8.toInt32)).map Value.int) (.int (0 : Int32)) := F46.other W48 ne_t15_b41
    have O48 := O41.wr W48 g_b41
    have Z48 : n0 ≤ h48.size := Nat.le_trans Z41 (Keep.of_wr W48).1
    have F54 : Arv Z h48 b41 k41 .int (2 : Int32) [(.int p2), (.int (0 : Int32))] (.int (0 : Int32)) := Arv.set Ar48 qc48 Sz48 Ng48 Hs48 Gf48 rfl W48 0 rfl (Nat.le_of_ble_eq_true rfl)
    have N48 := Fr.snoc X48 N15 g_b41
    show Go p e below P (T48.setTop (mkF m 112 #[.val (.int p0), .val (.int p1), .val (.int p2), .val (.int p3), .val (.int p4), .val (.ref b1), .val (.ref b11), .val (.int s7), .val (.int e8), .val (.int (2 : Int32)), .val (.ref b41), .unset, .unset] []))
    refine Go.by (fun _ => XS.iload X48.here hx rfl (hb hby at_112) rfl) ?_
    show Go p e below P (T48.setTop (mkF m 114 #[.val (.int p0), .val (.int p1), .val (.int p2), .val (.int p3), .val (.int p4), .val (.ref b1), .val (.ref b11), .val (.int s7), .val (.int e8), .val (.int (2 : Int32)), .val (.ref b41), .unset, .unset] [(.int (2 : Int32))]))
    refine Go.by (fun _ => XS.iconst X48.here hx rfl (hb hby at_114)) ?_
    show Go p e below P (T48.setTop (mkF m 115 #[.val (.int p0), .val (.int p1), .val (.int p2), .val (.int p3), .val (.int p4), .val (.ref b1), .val (.ref b11), .val (.int s7), .val (.int e8), .val (.int (2 : Int32)), .val (.ref b41), .unset, .unset] [(.int (1 : Int32)), (.int (2 : Int32))]))
    have hc115 : (1 : Int32) < (2 : Int32) := by decide
    refine Go.by (fun _ => XS.icmpNo X48.here hx rfl (hb hby at_115) rfl (tlt hc115).2.2.2) ?_
    show Go p e below P (T48.setTop (mkF m 118 #[.val (.int p0), .val (.int p1), .val (.int p2), .val (.int p3), .val (.int p4), .val (.ref b1), .val (.ref b11), .val (.int s7), .val (.int e8), .val (.int (2 : Int32)), .val (.ref b41), .unset, .unset] []))
    refine Go.by (fun _ => XS.aload X48.here hx rfl (hb hby at_118) rfl rfl) ?_
    show Go p e below P (T48.setTop (mkF m 120 #[.val (.int p0), .val (.int p1), .val (.int p2), .val (.int p3), .val (.int p4), .val (.ref b1), .val (.ref b11), .val (.int s7), .val (.int e8), .val (.int (2 : Int32)), .val (.ref b41), .unset, .unset] [(.ref b41)]))
    refine Go.by (fun _ => XS.iconst X48.here hx rfl (hb hby at_120)) ?_
    show Go p e below P (T48.setTop (mkF m 121 #[.val (.int p0), .val (.int p1), .val (.int p2), .val (.int p3), .val (.int p4), .val (.ref b1), .val (.ref b11), .val (.int s7), .val (.int e8), .val (.int (2 : Int32)), .val (.ref b41), .unset, .unset] [(.int (1 : Int32)), (.ref b41)]))
    refine Go.by (fun _ => XS.iloadN X48.here hx rfl (hb hby at_121) rfl) ?_
    show Go p e below P (T48.setTop (mkF m 122 #[.val (.int p0), .val (.int p1), .val (.int p2), .val (.int p3), .val (.int p4), .val (.ref b1), .val (.ref b11), .val (.int s7), .val (.int e8), .val (.int (2 : Int32)), .val (.ref b41), .unset, .unset] [(.int p3), (.int (1 : Int32)), (.ref b41)]))
    obtain ⟨cl55, Ar55, qc55, Sz55, Ng55, Hs55, Gf55⟩ := id (F54)
    have hin55 : ¬ ((1 : Int32) < 0 ∨ cl55.slots.size ≤ ((1 : Int32)).toNatClampNeg) := inb_of Sz55 ⟨by decide, by decide⟩
    obtain ⟨T55, h55, X55, e55, W55, st55⟩ := stI X48 hx hZ e48 Ar55 (j := (1 : Int32)) hin55 (g := (mkF m 122 #[.val (.int p0), .val (.int p1), .val (.int p2), .val (.int p3), .val (.int p4), .val (.ref b1), .val (.ref b11), .val (.int s7), .val (.int e8), .val (.int (2 : Int32)), .val (.ref b41), .unset, .unset] [(.int p3), (.int (1 : Int32)), (.ref b41)])) rfl rfl (hb hby at_122)
    refine Go.by (fun _ => st55 _) ?_
    have F56 : Arv Z h55 b1 k1 .char (4 : Int32) [(.int c0), (.int c1), (.int c2), (.int c3)] (.int (0 : Int32)) := F49.other W55 ne_b1_b41
    have F57 : Exa Z h55 b11 "java/lang/String" := F50.wr W55
    have F58 : Fld Z h55 b11 "java/lang/String" "coder" "B" (.int (0 : Int32)) := F51.other W55 (Or.inl ne_b11_b41)
    have F59 : Fld Z h55 b11 "java/lang/String" "value" "[B" (.ref t15) := F52.other W55 (Or.inl ne_b11_b41)
    have F60 : Arv Z h55 t15 kb15 .byte (4 : Int32) (((([c0, c1, c2, c3] : List Int32)).map (fun c => c.toInt8.toInt32)).map Value.int) (.int (0 : Int32)) := F53.other W55 ne_t15_b41
    have O55 := O48.wr W55 g_b41
    have Z55 : n0 ≤ h55.size := Nat.le_trans Z48 (Keep.of_wr W55).1
    have F61 : Arv Z h55 b41 k41 .int (2 : Int32) [(.int p2), (.int p3)] (.int (0 : Int32)) := Arv.set Ar55 qc55 Sz55 Ng55 Hs55 Gf55 rfl W55 1 rfl (Nat.le_of_ble_eq_true rfl)
    have N55 := Fr.snoc X55 N48 g_b41
    show Go p e below P (T55.setTop (mkF m 123 #[.val (.int p0), .val (.int p1), .val (.int p2), .val (.int p3), .val (.int p4), .val (.ref b1), .val (.ref b11), .val (.int s7), .val (.int e8), .val (.int (2 : Int32)), .val (.ref b41), .unset, .unset] []))
    refine Go.by (fun _ => XS.iload X55.here hx rfl (hb hby at_123) rfl) ?_
    show Go p e below P (T55.setTop (mkF m 125 #[.val (.int p0), .val (.int p1), .val (.int p2), .val (.int p3), .val (.int p4), .val (.ref b1), .val (.ref b11), .val (.int s7), .val (.int e8), .val (.int (2 : Int32)), .val (.ref b41), .unset, .unset] [(.int (2 : Int32))]))
    refine Go.by (fun _ => XS.iconst X55.here hx rfl (hb hby at_125)) ?_
    show Go p e below P (T55.setTop (mkF m 126 #[.val (.int p0), .val (.int p1), .val (.int p2), .val (.int p3), .val (.int p4), .val (.ref b1), .val (.ref b11), .val (.int s7), .val (.int e8), .val (.int (2 : Int32)), .val (.ref b41), .unset, .unset] [(.int (2 : Int32)), (.int (2 : Int32))]))
    have hc126 : ¬ ((2 : Int32) < (2 : Int32)) := by decide
    refine Go.by (fun _ => XS.icmpYes X55.here hx rfl (pc0 := 126) (pc' := 135) rfl (hb hby at_126) rfl (flt hc126).2.2.2 (by decide) (by decide)) ?_
    show Go p e below P (T55.setTop (mkF m 135 #[.val (.int p0), .val (.int p1), .val (.int p2), .val (.int p3), .val (.int p4), .val (.ref b1), .val (.ref b11), .val (.int s7), .val (.int e8), .val (.int (2 : Int32)), .val (.ref b41), .unset, .unset] []))
    refine Go.by (fun _ => XS.aload X55.here hx rfl (hb hby at_135) rfl rfl) ?_
    show Go p e below P (T55.setTop (mkF m 137 #[.val (.int p0), .val (.int p1), .val (.int p2), .val (.int p3), .val (.int p4), .val (.ref b1), .val (.ref b11), .val (.int s7), .val (.int e8), .val (.int (2 : Int32)), .val (.ref b41), .unset, .unset] [(.ref b11)]))
    refine Go.by (fun _ => XS.iload X55.here hx rfl (hb hby at_137) rfl) ?_
    show Go p e below P (T55.setTop (mkF m 139 #[.val (.int p0), .val (.int p1), .val (.int p2), .val (.int p3), .val (.int p4), .val (.ref b1), .val (.ref b11), .val (.int s7), .val (.int e8), .val (.int (2 : Int32)), .val (.ref b41), .unset, .unset] [(.int s7), (.ref b11)]))
    refine Go.by (fun _ => XS.iload X55.here hx rfl (hb hby at_139) rfl) ?_
    show Go p e below P (T55.setTop (mkF m 141 #[.val (.int p0), .val (.int p1), .val (.int p2), .val (.int p3), .val (.int p4), .val (.ref b1), .val (.ref b11), .val (.int s7), .val (.int e8), .val (.int (2 : Int32)), .val (.ref b41), .unset, .unset] [(.int e8), (.int s7), (.ref b11)]))
    refine Go.by (fun _ => XS.aload X55.here hx rfl (hb hby at_141) rfl rfl) ?_
    show Go p e below P (T55.setTop (mkF m 143 #[.val (.int p0), .val (.int p1), .val (.int p2), .val (.int p3), .val (.int p4), .val (.ref b1), .val (.ref b11), .val (.int s7), .val (.int e8), .val (.int (2 : Int32)), .val (.ref b41), .unset, .unset] [(.ref b41), (.int e8), (.int s7), (.ref b11)]))
    obtain ⟨_, _, ⟨T62, L62, k62, n62⟩, -, X62, ⟨Lc62, hQ62, l62, y62, z62⟩, st62⟩ := Jvm.LawKit.callS X55 hx (y := (⟨"com/example/kontoform/kontoform/WeightedSums", "fromRight", "(Ljava/lang/String;II[I)I"⟩ : MethodName)) hown (mvT hZ (hw _ (List.mem_of_getElem? (i := 31) rfl))) (mvT hZ (hw _ (List.mem_of_getElem? (i := 32) rfl))) (mvT hZ (hw _ (List.mem_of_getElem? (i := 33) rfl))) (mvT hZ (hw _ (List.mem_of_getElem? (i := 34) rfl))) (by decide) (backOf (W := 0) (rm_fr l Z a0 hw [] zC fmV hG b11 s7 e8 b41 t15 kb15 k41 ((2 : Int32)) c0 c1 c2 c3 (([p2, p3] : List Int32)) s7.toInt.toNat e8.toInt.toNat h55 n0 Z55 O55 F57 F59 F58 F60 F61 hp (by omega) (by omega) (by omega) (by omega) rfl (Nat.le_of_ble_eq_true rfl)) hZ (hw _ (List.mem_of_getElem? (i := 34) rfl)) (hw _ (List.mem_of_getElem? (i := 33) rfl)) (Nat.le_of_ble_eq_true rfl) (Nat.le_of_ble_eq_true rfl)) (g := (mkF m 143 #[.val (.int p0), .val (.int p1), .val (.int p2), .val (.int p3), .val (.int p4), .val (.ref b1), .val (.ref b11), .val (.int s7), .val (.int e8), .val (.int (2 : Int32)), .val (.ref b41), .unset, .unset] [(.ref b41), (.int e8), (.int s7), (.ref b11)])) rfl (by rw [hml]; rfl) (argsL := [(.ref b11), (.int s7), (.int e8), (.ref b41)]) (rest := []) (lenOf pd_2 rfl) rfl (by show 2 * 0 + _ ≤ _; exact Nat.le_of_eq rfl) (hb hby at_143) (fun _ _ => ⟨rfl, e55, (Nat.le_of_ble_eq_true rfl : 4 + 0 ≤ _), (Nat.le_of_ble_eq_true rfl : 14 + 0 ≤ _)⟩)
    dsimp only [Pt.U, Pt.locs, Pt.cells, Pt.slots] at X62 l62 y62 z62 st62 hQ62
    subst l62 y62 z62
    obtain ⟨rfl, Nq62, eq62⟩ := hQ62
    have N62 := Fr.app N55 Nq62
    refine Go.by (fun _ => st62 _) ?_
    show Go p e below P (T62.setTop (mkF m 146 #[.val (.int p0), .val (.int p1), .val (.int p2), .val (.int p3), .val (.int p4), .val (.ref b1), .val (.ref b11), .val (.int s7), .val (.int e8), .val (.int (2 : Int32)), .val (.ref b41), .unset, .unset] [(.int (frS ([c0, c1, c2, c3] : List Int32) ([p2, p3] : List Int32) s7.toInt.toNat e8.toInt.toNat (e8.toInt.toNat - s7.toInt.toNat)))]))
    refine Go.by (fun _ => XS.istore X62.here hx rfl (hb hby at_146) rfl (l' := #[.val (.int p0), .val (.int p1), .val (.int p2), .val (.int p3), .val (.int p4), .val (.ref b1), .val (.ref b11), .val (.int s7), .val (.int e8), .val (.int (2 : Int32)), .val (.ref b41), .val (.int (frS ([c0, c1, c2, c3] : List Int32) ([p2, p3] : List Int32) s7.toInt.toNat e8.toInt.toNat (e8.toInt.toNat - s7.toInt.toNat))), .unset]) rfl) ?_
    show Go p e below P (T62.setTop (mkF m 148 #[.val (.int p0), .val (.int p1), .val (.int p2), .val (.int p3), .val (.int p4), .val (.ref b1), .val (.ref b11), .val (.int s7), .val (.int e8), .val (.int (2 : Int32)), .val (.ref b41), .val (.int (frS ([c0, c1, c2, c3] : List Int32) ([p2, p3] : List Int32) s7.toInt.toNat e8.toInt.toNat (e8.toInt.toNat - s7.toInt.toNat))), .unset] []))
    refine Go.by (fun _ => XS.aload X62.here hx rfl (hb hby at_148) rfl rfl) ?_
    show Go p e below P (T62.setTop (mkF m 150 #[.val (.int p0), .val (.int p1), .val (.int p2), .val (.int p3), .val (.int p4), .val (.ref b1), .val (.ref b11), .val (.int s7), .val (.int e8), .val (.int (2 : Int32)), .val (.ref b41), .val (.int (frS ([c0, c1, c2, c3] : List Int32) ([p2, p3] : List Int32) s7.toInt.toNat e8.toInt.toNat (e8.toInt.toNat - s7.toInt.toNat))), .unset] [(.ref b1)]))
    refine Go.by (fun _ => XS.iconst X62.here hx rfl (hb hby at_150)) ?_
    show Go p e below P (T62.setTop (mkF m 151 #[.val (.int p0), .val (.int p1), .val (.int p2), .val (.int p3), .val (.int p4), .val (.ref b1), .val (.ref b11), .val (.int s7), .val (.int e8), .val (.int (2 : Int32)), .val (.ref b41), .val (.int (frS ([c0, c1, c2, c3] : List Int32) ([p2, p3] : List Int32) s7.toInt.toNat e8.toInt.toNat (e8.toInt.toNat - s7.toInt.toNat))), .unset] [(.int (0 : Int32)), (.ref b1)]))
    obtain ⟨cl63, Ar63, qc63, Sz63, Ng63, Hs63, Gf63⟩ := id (F56)
    have hin63 : ¬ ((0 : Int32) < 0 ∨ cl63.slots.size ≤ ((0 : Int32)).toNatClampNeg) := inb_of Sz63 ⟨by decide, by decide⟩
    refine Go.by (fun _ => X62.caload hx (j := (0 : Int32)) (v := (.int c0)) (by rw [eq62]; exact Ar63.1) (State.isArrayOf_alike hZ.alike Ar63.2.1) Ar63.2.2 hin63 (Has.at Hs63 hin63 rfl) (g := (mkF m 151 #[.val (.int p0), .val (.int p1), .val (.int p2), .val (.int p3), .val (.int p4), .val (.ref b1), .val (.ref b11), .val (.int s7), .val (.int e8), .val (.int (2 : Int32)), .val (.ref b41), .val (.int (frS ([c0, c1, c2, c3] : List Int32) ([p2, p3] : List Int32) s7.toInt.toNat e8.toInt.toNat (e8.toInt.toNat - s7.toInt.toNat))), .unset] [(.int (0 : Int32)), (.ref b1)])) rfl rfl (hb hby at_151) _) ?_
    show Go p e below P (T62.setTop (mkF m 152 #[.val (.int p0), .val (.int p1), .val (.int p2), .val (.int p3), .val (.int p4), .val (.ref b1), .val (.ref b11), .val (.int s7), .val (.int e8), .val (.int (2 : Int32)), .val (.ref b41), .val (.int (frS ([c0, c1, c2, c3] : List Int32) ([p2, p3] : List Int32) s7.toInt.toNat e8.toInt.toNat (e8.toInt.toNat - s7.toInt.toNat))), .unset] [(.int c0)]))
    refine Go.by (fun _ => XS.iconst X62.here hx rfl (hb hby at_152)) ?_
    show Go p e below P (T62.setTop (mkF m 153 #[.val (.int p0), .val (.int p1), .val (.int p2), .val (.int p3), .val (.int p4), .val (.ref b1), .val (.ref b11), .val (.int s7), .val (.int e8), .val (.int (2 : Int32)), .val (.ref b41), .val (.int (frS ([c0, c1, c2, c3] : List Int32) ([p2, p3] : List Int32) s7.toInt.toNat e8.toInt.toNat (e8.toInt.toNat - s7.toInt.toNat))), .unset] [(.int (0 : Int32)), (.int c0)]))
    refine Go.by (fun _ => XS.iload X62.here hx rfl (hb hby at_153) rfl) ?_
    show Go p e below P (T62.setTop (mkF m 155 #[.val (.int p0), .val (.int p1), .val (.int p2), .val (.int p3), .val (.int p4), .val (.ref b1), .val (.ref b11), .val (.int s7), .val (.int e8), .val (.int (2 : Int32)), .val (.ref b41), .val (.int (frS ([c0, c1, c2, c3] : List Int32) ([p2, p3] : List Int32) s7.toInt.toNat e8.toInt.toNat (e8.toInt.toNat - s7.toInt.toNat))), .unset] [(.int s7), (.int (0 : Int32)), (.int c0)]))
    refine Go.by (fun _ => XS.iload X62.here hx rfl (hb hby at_155) rfl) ?_
    show Go p e below P (T62.setTop (mkF m 157 #[.val (.int p0), .val (.int p1), .val (.int p2), .val (.int p3), .val (.int p4), .val (.ref b1), .val (.ref b11), .val (.int s7), .val (.int e8), .val (.int (2 : Int32)), .val (.ref b41), .val (.int (frS ([c0, c1, c2, c3] : List Int32) ([p2, p3] : List Int32) s7.toInt.toNat e8.toInt.toNat (e8.toInt.toNat - s7.toInt.toNat))), .unset] [(.int e8), (.int s7), (.int (0 : Int32)), (.int c0)]))
    refine Go.by (fun _ => XS.iload X62.here hx rfl (hb hby at_157) rfl) ?_
    show Go p e below P (T62.setTop (mkF m 159 #[.val (.int p0), .val (.int p1), .val (.int p2), .val (.int p3), .val (.int p4), .val (.ref b1), .val (.ref b11), .val (.int s7), .val (.int e8), .val (.int (2 : Int32)), .val (.ref b41), .val (.int (frS ([c0, c1, c2, c3] : List Int32) ([p2, p3] : List Int32) s7.toInt.toNat e8.toInt.toNat (e8.toInt.toNat - s7.toInt.toNat))), .unset] [(.int (2 : Int32)), (.int e8), (.int s7), (.int (0 : Int32)), (.int c0)]))
    refine Go.by (fun _ => XS.iloadN X62.here hx rfl (hb hby at_159) rfl) ?_
    show Go p e below P (T62.setTop (mkF m 160 #[.val (.int p0), .val (.int p1), .val (.int p2), .val (.int p3), .val (.int p4), .val (.ref b1), .val (.ref b11), .val (.int s7), .val (.int e8), .val (.int (2 : Int32)), .val (.ref b41), .val (.int (frS ([c0, c1, c2, c3] : List Int32) ([p2, p3] : List Int32) s7.toInt.toNat e8.toInt.toNat (e8.toInt.toNat - s7.toInt.toNat))), .unset] [(.int p2), (.int (2 : Int32)), (.int e8), (.int s7), (.int (0 : Int32)), (.int c0)]))
    refine Go.by (fun _ => XS.iloadN X62.here hx rfl (hb hby at_160) rfl) ?_
    show Go p e below P (T62.setTop (mkF m 161 #[.val (.int p0), .val (.int p1), .val (.int p2), .val (.int p3), .val (.int p4), .val (.ref b1), .val (.ref b11), .val (.int s7), .val (.int e8), .val (.int (2 : Int32)), .val (.ref b41), .val (.int (frS ([c0, c1, c2, c3] : List Int32) ([p2, p3] : List Int32) s7.toInt.toNat e8.toInt.toNat (e8.toInt.toNat - s7.toInt.toNat))), .unset] [(.int p3), (.int p2), (.int (2 : Int32)), (.int e8), (.int s7), (.int (0 : Int32)), (.int c0)]))
    refine Go.by (fun _ => XS.iload X62.here hx rfl (hb hby at_161) rfl) ?_
    show Go p e below P (T62.setTop (mkF m 163 #[.val (.int p0), .val (.int p1), .val (.int p2), .val (.int p3), .val (.int p4), .val (.ref b1), .val (.ref b11), .val (.int s7), .val (.int e8), .val (.int (2 : Int32)), .val (.ref b41), .val (.int (frS ([c0, c1, c2, c3] : List Int32) ([p2, p3] : List Int32) s7.toInt.toNat e8.toInt.toNat (e8.toInt.toNat - s7.toInt.toNat))), .unset] [(.int p4), (.int p3), (.int p2), (.int (2 : Int32)), (.int e8), (.int s7), (.int (0 : Int32)), (.int c0)]))
    obtain ⟨_, _, ⟨T64, L64, k64, n64⟩, -, X64, ⟨Lc64, hQ64, l64, y64, z64⟩, st64⟩ := Jvm.LawKit.callS X62 hx (y := (⟨"com/example/kontoform/kontoform/WeightedSumsFromRightPinLaw", "term", "(CIIIIIII)I"⟩ : MethodName)) hown (mvT hZ (hw _ (List.mem_of_getElem? (i := 35) rfl))) (mvT hZ (hw _ (List.mem_of_getElem? (i := 36) rfl))) (mvT hZ (hw _ (List.mem_of_getElem? (i := 37) rfl))) (mvT hZ (hw _ (List.mem_of_getElem? (i := 38) rfl))) (by decide) (backOf (W := 0) (rm_tm l Z a0 hw [] zC fmV hG c0 ((0 : Int32)) s7 e8 ((2 : Int32)) p2 p3 p4 h55 n0 Z55 O55  ) hZ (hw _ (List.mem_of_getElem? (i := 38) rfl)) (hw _ (List.mem_of_getElem? (i := 37) rfl)) (Nat.le_of_ble_eq_true rfl) (Nat.le_of_ble_eq_true rfl)) (g := (mkF m 163 #[.val (.int p0), .val (.int p1), .val (.int p2), .val (.int p3), .val (.int p4), .val (.ref b1), .val (.ref b11), .val (.int s7), .val (.int e8), .val (.int (2 : Int32)), .val (.ref b41), .val (.int (frS ([c0, c1, c2, c3] : List Int32) ([p2, p3] : List Int32) s7.toInt.toNat e8.toInt.toNat (e8.toInt.toNat - s7.toInt.toNat))), .unset] [(.int p4), (.int p3), (.int p2), (.int (2 : Int32)), (.int e8), (.int s7), (.int (0 : Int32)), (.int c0)])) rfl (by rw [hml]; rfl) (argsL := [(.int c0), (.int (0 : Int32)), (.int s7), (.int e8), (.int (2 : Int32)), (.int p2), (.int p3), (.int p4)]) (rest := []) (lenOf pd_3 rfl) rfl (by show 2 * 0 + _ ≤ _; exact Nat.le_of_eq rfl) (hb hby at_163) (fun _ _ => ⟨rfl, eq62, (Nat.le_of_ble_eq_true rfl : 4 + 0 ≤ _), (Nat.le_of_ble_eq_true rfl : 14 + 0 ≤ _)⟩)
    dsimp only [Pt.U, Pt.locs, Pt.cells, Pt.slots] at X64 l64 y64 z64 st64 hQ64
    subst l64 y64 z64
    obtain ⟨rfl, Nq64, eq64⟩ := hQ64
    have N64 := Fr.app N62 Nq64
    refine Go.by (fun _ => st64 _) ?_
    show Go p e below P (T64.setTop (mkF m 166 #[.val (.int p0), .val (.int p1), .val (.int p2), .val (.int p3), .val (.int p4), .val (.ref b1), .val (.ref b11), .val (.int s7), .val (.int e8), .val (.int (2 : Int32)), .val (.ref b41), .val (.int (frS ([c0, c1, c2, c3] : List Int32) ([p2, p3] : List Int32) s7.toInt.toNat e8.toInt.toNat (e8.toInt.toNat - s7.toInt.toNat))), .unset] [(.int (tm c0 (0 : Int32) s7 e8 (2 : Int32) p2 p3 p4))]))
    refine Go.by (fun _ => XS.aload X64.here hx rfl (hb hby at_166) rfl rfl) ?_
    show Go p e below P (T64.setTop (mkF m 168 #[.val (.int p0), .val (.int p1), .val (.int p2), .val (.int p3), .val (.int p4), .val (.ref b1), .val (.ref b11), .val (.int s7), .val (.int e8), .val (.int (2 : Int32)), .val (.ref b41), .val (.int (frS ([c0, c1, c2, c3] : List Int32) ([p2, p3] : List Int32) s7.toInt.toNat e8.toInt.toNat (e8.toInt.toNat - s7.toInt.toNat))), .unset] [(.ref b1), (.int (tm c0 (0 : Int32) s7 e8 (2 : Int32) p2 p3 p4))]))
    refine Go.by (fun _ => XS.iconst X64.here hx rfl (hb hby at_168)) ?_
    show Go p e below P (T64.setTop (mkF m 169 #[.val (.int p0), .val (.int p1), .val (.int p2), .val (.int p3), .val (.int p4), .val (.ref b1), .val (.ref b11), .val (.int s7), .val (.int e8), .val (.int (2 : Int32)), .val (.ref b41), .val (.int (frS ([c0, c1, c2, c3] : List Int32) ([p2, p3] : List Int32) s7.toInt.toNat e8.toInt.toNat (e8.toInt.toNat - s7.toInt.toNat))), .unset] [(.int (1 : Int32)), (.ref b1), (.int (tm c0 (0 : Int32) s7 e8 (2 : Int32) p2 p3 p4))]))
    obtain ⟨cl65, Ar65, qc65, Sz65, Ng65, Hs65, Gf65⟩ := id (F56)
    have hin65 : ¬ ((1 : Int32) < 0 ∨ cl65.slots.size ≤ ((1 : Int32)).toNatClampNeg) := inb_of Sz65 ⟨by decide, by decide⟩
    refine Go.by (fun _ => X64.caload hx (j := (1 : Int32)) (v := (.int c1)) (by rw [eq64]; exact Ar65.1) (State.isArrayOf_alike hZ.alike Ar65.2.1) Ar65.2.2 hin65 (Has.at Hs65 hin65 rfl) (g := (mkF m 169 #[.val (.int p0), .val (.int p1), .val (.int p2), .val (.int p3), .val (.int p4), .val (.ref b1), .val (.ref b11), .val (.int s7), .val (.int e8), .val (.int (2 : Int32)), .val (.ref b41), .val (.int (frS ([c0, c1, c2, c3] : List Int32) ([p2, p3] : List Int32) s7.toInt.toNat e8.toInt.toNat (e8.toInt.toNat - s7.toInt.toNat))), .unset] [(.int (1 : Int32)), (.ref b1), (.int (tm c0 (0 : Int32) s7 e8 (2 : Int32) p2 p3 p4))])) rfl rfl (hb hby at_169) _) ?_
    show Go p e below P (T64.setTop (mkF m 170 #[.val (.int p0), .val (.int p1), .val (.int p2), .val (.int p3), .val (.int p4), .val (.ref b1), .val (.ref b11), .val (.int s7), .val (.int e8), .val (.int (2 : Int32)), .val (.ref b41), .val (.int (frS ([c0, c1, c2, c3] : List Int32) ([p2, p3] : List Int32) s7.toInt.toNat e8.toInt.toNat (e8.toInt.toNat - s7.toInt.toNat))), .unset] [(.int c1), (.int (tm c0 (0 : Int32) s7 e8 (2 : Int32) p2 p3 p4))]))
    refine Go.by (fun _ => XS.iconst X64.here hx rfl (hb hby at_170)) ?_
    show Go p e below P (T64.setTop (mkF m 171 #[.val (.int p0), .val (.int p1), .val (.int p2), .val (.int p3), .val (.int p4), .val (.ref b1), .val (.ref b11), .val (.int s7), .val (.int e8), .val (.int (2 : Int32)), .val (.ref b41), .val (.int (frS ([c0, c1, c2, c3] : List Int32) ([p2, p3] : List Int32) s7.toInt.toNat e8.toInt.toNat (e8.toInt.toNat - s7.toInt.toNat))), .unset] [(.int (1 : Int32)), (.int c1), (.int (tm c0 (0 : Int32) s7 e8 (2 : Int32) p2 p3 p4))]))
    refine Go.by (fun _ => XS.iload X64.here hx rfl (hb hby at_171) rfl) ?_
    show Go p e below P (T64.setTop (mkF m 173 #[.val (.int p0), .val (.int p1), .val (.int p2), .val (.int p3), .val (.int p4), .val (.ref b1), .val (.ref b11), .val (.int s7), .val (.int e8), .val (.int (2 : Int32)), .val (.ref b41), .val (.int (frS ([c0, c1, c2, c3] : List Int32) ([p2, p3] : List Int32) s7.toInt.toNat e8.toInt.toNat (e8.toInt.toNat - s7.toInt.toNat))), .unset] [(.int s7), (.int (1 : Int32)), (.int c1), (.int (tm c0 (0 : Int32) s7 e8 (2 : Int32) p2 p3 p4))]))
    refine Go.by (fun _ => XS.iload X64.here hx rfl (hb hby at_173) rfl) ?_
    show Go p e below P (T64.setTop (mkF m 175 #[.val (.int p0), .val (.int p1), .val (.int p2), .val (.int p3), .val (.int p4), .val (.ref b1), .val (.ref b11), .val (.int s7), .val (.int e8), .val (.int (2 : Int32)), .val (.ref b41), .val (.int (frS ([c0, c1, c2, c3] : List Int32) ([p2, p3] : List Int32) s7.toInt.toNat e8.toInt.toNat (e8.toInt.toNat - s7.toInt.toNat))), .unset] [(.int e8), (.int s7), (.int (1 : Int32)), (.int c1), (.int (tm c0 (0 : Int32) s7 e8 (2 : Int32) p2 p3 p4))]))
    refine Go.by (fun _ => XS.iload X64.here hx rfl (hb hby at_175) rfl) ?_
    show Go p e below P (T64.setTop (mkF m 177 #[.val (.int p0), .val (.int p1), .val (.int p2), .val (.int p3), .val (.int p4), .val (.ref b1), .val (.ref b11), .val (.int s7), .val (.int e8), .val (.int (2 : Int32)), .val (.ref b41), .val (.int (frS ([c0, c1, c2, c3] : List Int32) ([p2, p3] : List Int32) s7.toInt.toNat e8.toInt.toNat (e8.toInt.toNat - s7.toInt.toNat))), .unset] [(.int (2 : Int32)), (.int e8), (.int s7), (.int (1 : Int32)), (.int c1), (.int (tm c0 (0 : Int32) s7 e8 (2 : Int32) p2 p3 p4))]))
    refine Go.by (fun _ => XS.iloadN X64.here hx rfl (hb hby at_177) rfl) ?_
    show Go p e below P (T64.setTop (mkF m 178 #[.val (.int p0), .val (.int p1), .val (.int p2), .val (.int p3), .val (.int p4), .val (.ref b1), .val (.ref b11), .val (.int s7), .val (.int e8), .val (.int (2 : Int32)), .val (.ref b41), .val (.int (frS ([c0, c1, c2, c3] : List Int32) ([p2, p3] : List Int32) s7.toInt.toNat e8.toInt.toNat (e8.toInt.toNat - s7.toInt.toNat))), .unset] [(.int p2), (.int (2 : Int32)), (.int e8), (.int s7), (.int (1 : Int32)), (.int c1), (.int (tm c0 (0 : Int32) s7 e8 (2 : Int32) p2 p3 p4))]))
    refine Go.by (fun _ => XS.iloadN X64.here hx rfl (hb hby at_178) rfl) ?_
    show Go p e below P (T64.setTop (mkF m 179 #[.val (.int p0), .val (.int p1), .val (.int p2), .val (.int p3), .val (.int p4), .val (.ref b1), .val (.ref b11), .val (.int s7), .val (.int e8), .val (.int (2 : Int32)), .val (.ref b41), .val (.int (frS ([c0, c1, c2, c3] : List Int32) ([p2, p3] : List Int32) s7.toInt.toNat e8.toInt.toNat (e8.toInt.toNat - s7.toInt.toNat))), .unset] [(.int p3), (.int p2), (.int (2 : Int32)), (.int e8), (.int s7), (.int (1 : Int32)), (.int c1), (.int (tm c0 (0 : Int32) s7 e8 (2 : Int32) p2 p3 p4))]))
    refine Go.by (fun _ => XS.iload X64.here hx rfl (hb hby at_179) rfl) ?_
    show Go p e below P (T64.setTop (mkF m 181 #[.val (.int p0), .val (.int p1), .val (.int p2), .val (.int p3), .val (.int p4), .val (.ref b1), .val (.ref b11), .val (.int s7), .val (.int e8), .val (.int (2 : Int32)), .val (.ref b41), .val (.int (frS ([c0, c1, c2, c3] : List Int32) ([p2, p3] : List Int32) s7.toInt.toNat e8.toInt.toNat (e8.toInt.toNat - s7.toInt.toNat))), .unset] [(.int p4), (.int p3), (.int p2), (.int (2 : Int32)), (.int e8), (.int s7), (.int (1 : Int32)), (.int c1), (.int (tm c0 (0 : Int32) s7 e8 (2 : Int32) p2 p3 p4))]))
    obtain ⟨_, _, ⟨T66, L66, k66, n66⟩, -, X66, ⟨Lc66, hQ66, l66, y66, z66⟩, st66⟩ := Jvm.LawKit.callS X64 hx (y := (⟨"com/example/kontoform/kontoform/WeightedSumsFromRightPinLaw", "term", "(CIIIIIII)I"⟩ : MethodName)) hown (mvT hZ (hw _ (List.mem_of_getElem? (i := 35) rfl))) (mvT hZ (hw _ (List.mem_of_getElem? (i := 36) rfl))) (mvT hZ (hw _ (List.mem_of_getElem? (i := 37) rfl))) (mvT hZ (hw _ (List.mem_of_getElem? (i := 38) rfl))) (by decide) (backOf (W := 1) (rm_tm l Z a0 hw [] zC fmV hG c1 ((1 : Int32)) s7 e8 ((2 : Int32)) p2 p3 p4 h55 n0 Z55 O55  ) hZ (hw _ (List.mem_of_getElem? (i := 38) rfl)) (hw _ (List.mem_of_getElem? (i := 37) rfl)) (Nat.le_of_ble_eq_true rfl) (Nat.le_of_ble_eq_true rfl)) (g := (mkF m 181 #[.val (.int p0), .val (.int p1), .val (.int p2), .val (.int p3), .val (.int p4), .val (.ref b1), .val (.ref b11), .val (.int s7), .val (.int e8), .val (.int (2 : Int32)), .val (.ref b41), .val (.int (frS ([c0, c1, c2, c3] : List Int32) ([p2, p3] : List Int32) s7.toInt.toNat e8.toInt.toNat (e8.toInt.toNat - s7.toInt.toNat))), .unset] [(.int p4), (.int p3), (.int p2), (.int (2 : Int32)), (.int e8), (.int s7), (.int (1 : Int32)), (.int c1), (.int (tm c0 (0 : Int32) s7 e8 (2 : Int32) p2 p3 p4))])) rfl (by rw [hml]; rfl) (argsL := [(.int c1), (.int (1 : Int32)), (.int s7), (.int e8), (.int (2 : Int32)), (.int p2), (.int p3), (.int p4)]) (rest := [(.int (tm c0 (0 : Int32) s7 e8 (2 : Int32) p2 p3 p4))]) (lenOf pd_3 rfl) rfl (by show 2 * 0 + _ ≤ _; exact Nat.le_of_eq rfl) (hb hby at_181) (fun _ _ => ⟨rfl, eq64, (Nat.le_of_ble_eq_true rfl : 4 + 0 ≤ _), (Nat.le_of_ble_eq_true rfl : 14 + 0 ≤ _)⟩)
    dsimp only [Pt.U, Pt.locs, Pt.cells, Pt.slots] at X66 l66 y66 z66 st66 hQ66
    subst l66 y66 z66
    obtain ⟨rfl, Nq66, eq66⟩ := hQ66
    have N66 := Fr.app N64 Nq66
    refine Go.by (fun _ => st66 _) ?_
    show Go p e below P (T66.setTop (mkF m 184 #[.val (.int p0), .val (.int p1), .val (.int p2), .val (.int p3), .val (.int p4), .val (.ref b1), .val (.ref b11), .val (.int s7), .val (.int e8), .val (.int (2 : Int32)), .val (.ref b41), .val (.int (frS ([c0, c1, c2, c3] : List Int32) ([p2, p3] : List Int32) s7.toInt.toNat e8.toInt.toNat (e8.toInt.toNat - s7.toInt.toNat))), .unset] [(.int (tm c1 (1 : Int32) s7 e8 (2 : Int32) p2 p3 p4)), (.int (tm c0 (0 : Int32) s7 e8 (2 : Int32) p2 p3 p4))]))
    refine Go.by (fun _ => XS.iadd X66.here hx rfl (hb hby at_184) rfl) ?_
    show Go p e below P (T66.setTop (mkF m 185 #[.val (.int p0), .val (.int p1), .val (.int p2), .val (.int p3), .val (.int p4), .val (.ref b1), .val (.ref b11), .val (.int s7), .val (.int e8), .val (.int (2 : Int32)), .val (.ref b41), .val (.int (frS ([c0, c1, c2, c3] : List Int32) ([p2, p3] : List Int32) s7.toInt.toNat e8.toInt.toNat (e8.toInt.toNat - s7.toInt.toNat))), .unset] [(.int ((tm c0 (0 : Int32) s7 e8 (2 : Int32) p2 p3 p4) + (tm c1 (1 : Int32) s7 e8 (2 : Int32) p2 p3 p4)))]))
    refine Go.by (fun _ => XS.aload X66.here hx rfl (hb hby at_185) rfl rfl) ?_
    show Go p e below P (T66.setTop (mkF m 187 #[.val (.int p0), .val (.int p1), .val (.int p2), .val (.int p3), .val (.int p4), .val (.ref b1), .val (.ref b11), .val (.int s7), .val (.int e8), .val (.int (2 : Int32)), .val (.ref b41), .val (.int (frS ([c0, c1, c2, c3] : List Int32) ([p2, p3] : List Int32) s7.toInt.toNat e8.toInt.toNat (e8.toInt.toNat - s7.toInt.toNat))), .unset] [(.ref b1), (.int ((tm c0 (0 : Int32) s7 e8 (2 : Int32) p2 p3 p4) + (tm c1 (1 : Int32) s7 e8 (2 : Int32) p2 p3 p4)))]))
    refine Go.by (fun _ => XS.iconst X66.here hx rfl (hb hby at_187)) ?_
    show Go p e below P (T66.setTop (mkF m 188 #[.val (.int p0), .val (.int p1), .val (.int p2), .val (.int p3), .val (.int p4), .val (.ref b1), .val (.ref b11), .val (.int s7), .val (.int e8), .val (.int (2 : Int32)), .val (.ref b41), .val (.int (frS ([c0, c1, c2, c3] : List Int32) ([p2, p3] : List Int32) s7.toInt.toNat e8.toInt.toNat (e8.toInt.toNat - s7.toInt.toNat))), .unset] [(.int (2 : Int32)), (.ref b1), (.int ((tm c0 (0 : Int32) s7 e8 (2 : Int32) p2 p3 p4) + (tm c1 (1 : Int32) s7 e8 (2 : Int32) p2 p3 p4)))]))
    obtain ⟨cl67, Ar67, qc67, Sz67, Ng67, Hs67, Gf67⟩ := id (F56)
    have hin67 : ¬ ((2 : Int32) < 0 ∨ cl67.slots.size ≤ ((2 : Int32)).toNatClampNeg) := inb_of Sz67 ⟨by decide, by decide⟩
    refine Go.by (fun _ => X66.caload hx (j := (2 : Int32)) (v := (.int c2)) (by rw [eq66]; exact Ar67.1) (State.isArrayOf_alike hZ.alike Ar67.2.1) Ar67.2.2 hin67 (Has.at Hs67 hin67 rfl) (g := (mkF m 188 #[.val (.int p0), .val (.int p1), .val (.int p2), .val (.int p3), .val (.int p4), .val (.ref b1), .val (.ref b11), .val (.int s7), .val (.int e8), .val (.int (2 : Int32)), .val (.ref b41), .val (.int (frS ([c0, c1, c2, c3] : List Int32) ([p2, p3] : List Int32) s7.toInt.toNat e8.toInt.toNat (e8.toInt.toNat - s7.toInt.toNat))), .unset] [(.int (2 : Int32)), (.ref b1), (.int ((tm c0 (0 : Int32) s7 e8 (2 : Int32) p2 p3 p4) + (tm c1 (1 : Int32) s7 e8 (2 : Int32) p2 p3 p4)))])) rfl rfl (hb hby at_188) _) ?_
    show Go p e below P (T66.setTop (mkF m 189 #[.val (.int p0), .val (.int p1), .val (.int p2), .val (.int p3), .val (.int p4), .val (.ref b1), .val (.ref b11), .val (.int s7), .val (.int e8), .val (.int (2 : Int32)), .val (.ref b41), .val (.int (frS ([c0, c1, c2, c3] : List Int32) ([p2, p3] : List Int32) s7.toInt.toNat e8.toInt.toNat (e8.toInt.toNat - s7.toInt.toNat))), .unset] [(.int c2), (.int ((tm c0 (0 : Int32) s7 e8 (2 : Int32) p2 p3 p4) + (tm c1 (1 : Int32) s7 e8 (2 : Int32) p2 p3 p4)))]))
    refine Go.by (fun _ => XS.iconst X66.here hx rfl (hb hby at_189)) ?_
    show Go p e below P (T66.setTop (mkF m 190 #[.val (.int p0), .val (.int p1), .val (.int p2), .val (.int p3), .val (.int p4), .val (.ref b1), .val (.ref b11), .val (.int s7), .val (.int e8), .val (.int (2 : Int32)), .val (.ref b41), .val (.int (frS ([c0, c1, c2, c3] : List Int32) ([p2, p3] : List Int32) s7.toInt.toNat e8.toInt.toNat (e8.toInt.toNat - s7.toInt.toNat))), .unset] [(.int (2 : Int32)), (.int c2), (.int ((tm c0 (0 : Int32) s7 e8 (2 : Int32) p2 p3 p4) + (tm c1 (1 : Int32) s7 e8 (2 : Int32) p2 p3 p4)))]))
    refine Go.by (fun _ => XS.iload X66.here hx rfl (hb hby at_190) rfl) ?_
    show Go p e below P (T66.setTop (mkF m 192 #[.val (.int p0), .val (.int p1), .val (.int p2), .val (.int p3), .val (.int p4), .val (.ref b1), .val (.ref b11), .val (.int s7), .val (.int e8), .val (.int (2 : Int32)), .val (.ref b41), .val (.int (frS ([c0, c1, c2, c3] : List Int32) ([p2, p3] : List Int32) s7.toInt.toNat e8.toInt.toNat (e8.toInt.toNat - s7.toInt.toNat))), .unset] [(.int s7), (.int (2 : Int32)), (.int c2), (.int ((tm c0 (0 : Int32) s7 e8 (2 : Int32) p2 p3 p4) + (tm c1 (1 : Int32) s7 e8 (2 : Int32) p2 p3 p4)))]))
    refine Go.by (fun _ => XS.iload X66.here hx rfl (hb hby at_192) rfl) ?_
    show Go p e below P (T66.setTop (mkF m 194 #[.val (.int p0), .val (.int p1), .val (.int p2), .val (.int p3), .val (.int p4), .val (.ref b1), .val (.ref b11), .val (.int s7), .val (.int e8), .val (.int (2 : Int32)), .val (.ref b41), .val (.int (frS ([c0, c1, c2, c3] : List Int32) ([p2, p3] : List Int32) s7.toInt.toNat e8.toInt.toNat (e8.toInt.toNat - s7.toInt.toNat))), .unset] [(.int e8), (.int s7), (.int (2 : Int32)), (.int c2), (.int ((tm c0 (0 : Int32) s7 e8 (2 : Int32) p2 p3 p4) + (tm c1 (1 : Int32) s7 e8 (2 : Int32) p2 p3 p4)))]))
    refine Go.by (fun _ => XS.iload X66.here hx rfl (hb hby at_194) rfl) ?_
    show Go p e below P (T66.setTop (mkF m 196 #[.val (.int p0), .val (.int p1), .val (.int p2), .val (.int p3), .val (.int p4), .val (.ref b1), .val (.ref b11), .val (.int s7), .val (.int e8), .val (.int (2 : Int32)), .val (.ref b41), .val (.int (frS ([c0, c1, c2, c3] : List Int32) ([p2, p3] : List Int32) s7.toInt.toNat e8.toInt.toNat (e8.toInt.toNat - s7.toInt.toNat))), .unset] [(.int (2 : Int32)), (.int e8), (.int s7), (.int (2 : Int32)), (.int c2), (.int ((tm c0 (0 : Int32) s7 e8 (2 : Int32) p2 p3 p4) + (tm c1 (1 : Int32) s7 e8 (2 : Int32) p2 p3 p4)))]))
    refine Go.by (fun _ => XS.iloadN X66.here hx rfl (hb hby at_196) rfl) ?_
    show Go p e below P (T66.setTop (mkF m 197 #[.val (.int p0), .val (.int p1), .val (.int p2), .val (.int p3), .val (.int p4), .val (.ref b1), .val (.ref b11), .val (.int s7), .val (.int e8), .val (.int (2 : Int32)), .val (.ref b41), .val (.int (frS ([c0, c1, c2, c3] : List Int32) ([p2, p3] : List Int32) s7.toInt.toNat e8.toInt.toNat (e8.toInt.toNat - s7.toInt.toNat))), .unset] [(.int p2), (.int (2 : Int32)), (.int e8), (.int s7), (.int (2 : Int32)), (.int c2), (.int ((tm c0 (0 : Int32) s7 e8 (2 : Int32) p2 p3 p4) + (tm c1 (1 : Int32) s7 e8 (2 : Int32) p2 p3 p4)))]))
    refine Go.by (fun _ => XS.iloadN X66.here hx rfl (hb hby at_197) rfl) ?_
    show Go p e below P (T66.setTop (mkF m 198 #[.val (.int p0), .val (.int p1), .val (.int p2), .val (.int p3), .val (.int p4), .val (.ref b1), .val (.ref b11), .val (.int s7), .val (.int e8), .val (.int (2 : Int32)), .val (.ref b41), .val (.int (frS ([c0, c1, c2, c3] : List Int32) ([p2, p3] : List Int32) s7.toInt.toNat e8.toInt.toNat (e8.toInt.toNat - s7.toInt.toNat))), .unset] [(.int p3), (.int p2), (.int (2 : Int32)), (.int e8), (.int s7), (.int (2 : Int32)), (.int c2), (.int ((tm c0 (0 : Int32) s7 e8 (2 : Int32) p2 p3 p4) + (tm c1 (1 : Int32) s7 e8 (2 : Int32) p2 p3 p4)))]))
    refine Go.by (fun _ => XS.iload X66.here hx rfl (hb hby at_198) rfl) ?_
    show Go p e below P (T66.setTop (mkF m 200 #[.val (.int p0), .val (.int p1), .val (.int p2), .val (.int p3), .val (.int p4), .val (.ref b1), .val (.ref b11), .val (.int s7), .val (.int e8), .val (.int (2 : Int32)), .val (.ref b41), .val (.int (frS ([c0, c1, c2, c3] : List Int32) ([p2, p3] : List Int32) s7.toInt.toNat e8.toInt.toNat (e8.toInt.toNat - s7.toInt.toNat))), .unset] [(.int p4), (.int p3), (.int p2), (.int (2 : Int32)), (.int e8), (.int s7), (.int (2 : Int32)), (.int c2), (.int ((tm c0 (0 : Int32) s7 e8 (2 : Int32) p2 p3 p4) + (tm c1 (1 : Int32) s7 e8 (2 : Int32) p2 p3 p4)))]))
    obtain ⟨_, _, ⟨T68, L68, k68, n68⟩, -, X68, ⟨Lc68, hQ68, l68, y68, z68⟩, st68⟩ := Jvm.LawKit.callS X66 hx (y := (⟨"com/example/kontoform/kontoform/WeightedSumsFromRightPinLaw", "term", "(CIIIIIII)I"⟩ : MethodName)) hown (mvT hZ (hw _ (List.mem_of_getElem? (i := 35) rfl))) (mvT hZ (hw _ (List.mem_of_getElem? (i := 36) rfl))) (mvT hZ (hw _ (List.mem_of_getElem? (i := 37) rfl))) (mvT hZ (hw _ (List.mem_of_getElem? (i := 38) rfl))) (by decide) (backOf (W := 1) (rm_tm l Z a0 hw [] zC fmV hG c2 ((2 : Int32)) s7 e8 ((2 : Int32)) p2 p3 p4 h55 n0 Z55 O55  ) hZ (hw _ (List.mem_of_getElem? (i := 38) rfl)) (hw _ (List.mem_of_getElem? (i := 37) rfl)) (Nat.le_of_ble_eq_true rfl) (Nat.le_of_ble_eq_true rfl)) (g := (mkF m 200 #[.val (.int p0), .val (.int p1), .val (.int p2), .val (.int p3), .val (.int p4), .val (.ref b1), .val (.ref b11), .val (.int s7), .val (.int e8), .val (.int (2 : Int32)), .val (.ref b41), .val (.int (frS ([c0, c1, c2, c3] : List Int32) ([p2, p3] : List Int32) s7.toInt.toNat e8.toInt.toNat (e8.toInt.toNat - s7.toInt.toNat))), .unset] [(.int p4), (.int p3), (.int p2), (.int (2 : Int32)), (.int e8), (.int s7), (.int (2 : Int32)), (.int c2), (.int ((tm c0 (0 : Int32) s7 e8 (2 : Int32) p2 p3 p4) + (tm c1 (1 : Int32) s7 e8 (2 : Int32) p2 p3 p4)))])) rfl (by rw [hml]; rfl) (argsL := [(.int c2), (.int (2 : Int32)), (.int s7), (.int e8), (.int (2 : Int32)), (.int p2), (.int p3), (.int p4)]) (rest := [(.int ((tm c0 (0 : Int32) s7 e8 (2 : Int32) p2 p3 p4) + (tm c1 (1 : Int32) s7 e8 (2 : Int32) p2 p3 p4)))]) (lenOf pd_3 rfl) rfl (by show 2 * 0 + _ ≤ _; exact Nat.le_of_eq rfl) (hb hby at_200) (fun _ _ => ⟨rfl, eq66, (Nat.le_of_ble_eq_true rfl : 4 + 0 ≤ _), (Nat.le_of_ble_eq_true rfl : 14 + 0 ≤ _)⟩)
    dsimp only [Pt.U, Pt.locs, Pt.cells, Pt.slots] at X68 l68 y68 z68 st68 hQ68
    subst l68 y68 z68
    obtain ⟨rfl, Nq68, eq68⟩ := hQ68
    have N68 := Fr.app N66 Nq68
    refine Go.by (fun _ => st68 _) ?_
    show Go p e below P (T68.setTop (mkF m 203 #[.val (.int p0), .val (.int p1), .val (.int p2), .val (.int p3), .val (.int p4), .val (.ref b1), .val (.ref b11), .val (.int s7), .val (.int e8), .val (.int (2 : Int32)), .val (.ref b41), .val (.int (frS ([c0, c1, c2, c3] : List Int32) ([p2, p3] : List Int32) s7.toInt.toNat e8.toInt.toNat (e8.toInt.toNat - s7.toInt.toNat))), .unset] [(.int (tm c2 (2 : Int32) s7 e8 (2 : Int32) p2 p3 p4)), (.int ((tm c0 (0 : Int32) s7 e8 (2 : Int32) p2 p3 p4) + (tm c1 (1 : Int32) s7 e8 (2 : Int32) p2 p3 p4)))]))
    refine Go.by (fun _ => XS.iadd X68.here hx rfl (hb hby at_203) rfl) ?_
    show Go p e below P (T68.setTop (mkF m 204 #[.val (.int p0), .val (.int p1), .val (.int p2), .val (.int p3), .val (.int p4), .val (.ref b1), .val (.ref b11), .val (.int s7), .val (.int e8), .val (.int (2 : Int32)), .val (.ref b41), .val (.int (frS ([c0, c1, c2, c3] : List Int32) ([p2, p3] : List Int32) s7.toInt.toNat e8.toInt.toNat (e8.toInt.toNat - s7.toInt.toNat))), .unset] [(.int (((tm c0 (0 : Int32) s7 e8 (2 : Int32) p2 p3 p4) + (tm c1 (1 : Int32) s7 e8 (2 : Int32) p2 p3 p4)) + (tm c2 (2 : Int32) s7 e8 (2 : Int32) p2 p3 p4)))]))
    refine Go.by (fun _ => XS.aload X68.here hx rfl (hb hby at_204) rfl rfl) ?_
    show Go p e below P (T68.setTop (mkF m 206 #[.val (.int p0), .val (.int p1), .val (.int p2), .val (.int p3), .val (.int p4), .val (.ref b1), .val (.ref b11), .val (.int s7), .val (.int e8), .val (.int (2 : Int32)), .val (.ref b41), .val (.int (frS ([c0, c1, c2, c3] : List Int32) ([p2, p3] : List Int32) s7.toInt.toNat e8.toInt.toNat (e8.toInt.toNat - s7.toInt.toNat))), .unset] [(.ref b1), (.int (((tm c0 (0 : Int32) s7 e8 (2 : Int32) p2 p3 p4) + (tm c1 (1 : Int32) s7 e8 (2 : Int32) p2 p3 p4)) + (tm c2 (2 : Int32) s7 e8 (2 : Int32) p2 p3 p4)))]))
    refine Go.by (fun _ => XS.iconst X68.here hx rfl (hb hby at_206)) ?_
    show Go p e below P (T68.setTop (mkF m 207 #[.val (.int p0), .val (.int p1), .val (.int p2), .val (.int p3), .val (.int p4), .val (.ref b1), .val (.ref b11), .val (.int s7), .val (.int e8), .val (.int (2 : Int32)), .val (.ref b41), .val (.int (frS ([c0, c1, c2, c3] : List Int32) ([p2, p3] : List Int32) s7.toInt.toNat e8.toInt.toNat (e8.toInt.toNat - s7.toInt.toNat))), .unset] [(.int (3 : Int32)), (.ref b1), (.int (((tm c0 (0 : Int32) s7 e8 (2 : Int32) p2 p3 p4) + (tm c1 (1 : Int32) s7 e8 (2 : Int32) p2 p3 p4)) + (tm c2 (2 : Int32) s7 e8 (2 : Int32) p2 p3 p4)))]))
    obtain ⟨cl69, Ar69, qc69, Sz69, Ng69, Hs69, Gf69⟩ := id (F56)
    have hin69 : ¬ ((3 : Int32) < 0 ∨ cl69.slots.size ≤ ((3 : Int32)).toNatClampNeg) := inb_of Sz69 ⟨by decide, by decide⟩
    refine Go.by (fun _ => X68.caload hx (j := (3 : Int32)) (v := (.int c3)) (by rw [eq68]; exact Ar69.1) (State.isArrayOf_alike hZ.alike Ar69.2.1) Ar69.2.2 hin69 (Has.at Hs69 hin69 rfl) (g := (mkF m 207 #[.val (.int p0), .val (.int p1), .val (.int p2), .val (.int p3), .val (.int p4), .val (.ref b1), .val (.ref b11), .val (.int s7), .val (.int e8), .val (.int (2 : Int32)), .val (.ref b41), .val (.int (frS ([c0, c1, c2, c3] : List Int32) ([p2, p3] : List Int32) s7.toInt.toNat e8.toInt.toNat (e8.toInt.toNat - s7.toInt.toNat))), .unset] [(.int (3 : Int32)), (.ref b1), (.int (((tm c0 (0 : Int32) s7 e8 (2 : Int32) p2 p3 p4) + (tm c1 (1 : Int32) s7 e8 (2 : Int32) p2 p3 p4)) + (tm c2 (2 : Int32) s7 e8 (2 : Int32) p2 p3 p4)))])) rfl rfl (hb hby at_207) _) ?_
    show Go p e below P (T68.setTop (mkF m 208 #[.val (.int p0), .val (.int p1), .val (.int p2), .val (.int p3), .val (.int p4), .val (.ref b1), .val (.ref b11), .val (.int s7), .val (.int e8), .val (.int (2 : Int32)), .val (.ref b41), .val (.int (frS ([c0, c1, c2, c3] : List Int32) ([p2, p3] : List Int32) s7.toInt.toNat e8.toInt.toNat (e8.toInt.toNat - s7.toInt.toNat))), .unset] [(.int c3), (.int (((tm c0 (0 : Int32) s7 e8 (2 : Int32) p2 p3 p4) + (tm c1 (1 : Int32) s7 e8 (2 : Int32) p2 p3 p4)) + (tm c2 (2 : Int32) s7 e8 (2 : Int32) p2 p3 p4)))]))
    refine Go.by (fun _ => XS.iconst X68.here hx rfl (hb hby at_208)) ?_
    show Go p e below P (T68.setTop (mkF m 209 #[.val (.int p0), .val (.int p1), .val (.int p2), .val (.int p3), .val (.int p4), .val (.ref b1), .val (.ref b11), .val (.int s7), .val (.int e8), .val (.int (2 : Int32)), .val (.ref b41), .val (.int (frS ([c0, c1, c2, c3] : List Int32) ([p2, p3] : List Int32) s7.toInt.toNat e8.toInt.toNat (e8.toInt.toNat - s7.toInt.toNat))), .unset] [(.int (3 : Int32)), (.int c3), (.int (((tm c0 (0 : Int32) s7 e8 (2 : Int32) p2 p3 p4) + (tm c1 (1 : Int32) s7 e8 (2 : Int32) p2 p3 p4)) + (tm c2 (2 : Int32) s7 e8 (2 : Int32) p2 p3 p4)))]))
    refine Go.by (fun _ => XS.iload X68.here hx rfl (hb hby at_209) rfl) ?_
    show Go p e below P (T68.setTop (mkF m 211 #[.val (.int p0), .val (.int p1), .val (.int p2), .val (.int p3), .val (.int p4), .val (.ref b1), .val (.ref b11), .val (.int s7), .val (.int e8), .val (.int (2 : Int32)), .val (.ref b41), .val (.int (frS ([c0, c1, c2, c3] : List Int32) ([p2, p3] : List Int32) s7.toInt.toNat e8.toInt.toNat (e8.toInt.toNat - s7.toInt.toNat))), .unset] [(.int s7), (.int (3 : Int32)), (.int c3), (.int (((tm c0 (0 : Int32) s7 e8 (2 : Int32) p2 p3 p4) + (tm c1 (1 : Int32) s7 e8 (2 : Int32) p2 p3 p4)) + (tm c2 (2 : Int32) s7 e8 (2 : Int32) p2 p3 p4)))]))
    refine Go.by (fun _ => XS.iload X68.here hx rfl (hb hby at_211) rfl) ?_
    show Go p e below P (T68.setTop (mkF m 213 #[.val (.int p0), .val (.int p1), .val (.int p2), .val (.int p3), .val (.int p4), .val (.ref b1), .val (.ref b11), .val (.int s7), .val (.int e8), .val (.int (2 : Int32)), .val (.ref b41), .val (.int (frS ([c0, c1, c2, c3] : List Int32) ([p2, p3] : List Int32) s7.toInt.toNat e8.toInt.toNat (e8.toInt.toNat - s7.toInt.toNat))), .unset] [(.int e8), (.int s7), (.int (3 : Int32)), (.int c3), (.int (((tm c0 (0 : Int32) s7 e8 (2 : Int32) p2 p3 p4) + (tm c1 (1 : Int32) s7 e8 (2 : Int32) p2 p3 p4)) + (tm c2 (2 : Int32) s7 e8 (2 : Int32) p2 p3 p4)))]))
    refine Go.by (fun _ => XS.iload X68.here hx rfl (hb hby at_213) rfl) ?_
    show Go p e below P (T68.setTop (mkF m 215 #[.val (.int p0), .val (.int p1), .val (.int p2), .val (.int p3), .val (.int p4), .val (.ref b1), .val (.ref b11), .val (.int s7), .val (.int e8), .val (.int (2 : Int32)), .val (.ref b41), .val (.int (frS ([c0, c1, c2, c3] : List Int32) ([p2, p3] : List Int32) s7.toInt.toNat e8.toInt.toNat (e8.toInt.toNat - s7.toInt.toNat))), .unset] [(.int (2 : Int32)), (.int e8), (.int s7), (.int (3 : Int32)), (.int c3), (.int (((tm c0 (0 : Int32) s7 e8 (2 : Int32) p2 p3 p4) + (tm c1 (1 : Int32) s7 e8 (2 : Int32) p2 p3 p4)) + (tm c2 (2 : Int32) s7 e8 (2 : Int32) p2 p3 p4)))]))
    refine Go.by (fun _ => XS.iloadN X68.here hx rfl (hb hby at_215) rfl) ?_
    show Go p e below P (T68.setTop (mkF m 216 #[.val (.int p0), .val (.int p1), .val (.int p2), .val (.int p3), .val (.int p4), .val (.ref b1), .val (.ref b11), .val (.int s7), .val (.int e8), .val (.int (2 : Int32)), .val (.ref b41), .val (.int (frS ([c0, c1, c2, c3] : List Int32) ([p2, p3] : List Int32) s7.toInt.toNat e8.toInt.toNat (e8.toInt.toNat - s7.toInt.toNat))), .unset] [(.int p2), (.int (2 : Int32)), (.int e8), (.int s7), (.int (3 : Int32)), (.int c3), (.int (((tm c0 (0 : Int32) s7 e8 (2 : Int32) p2 p3 p4) + (tm c1 (1 : Int32) s7 e8 (2 : Int32) p2 p3 p4)) + (tm c2 (2 : Int32) s7 e8 (2 : Int32) p2 p3 p4)))]))
    refine Go.by (fun _ => XS.iloadN X68.here hx rfl (hb hby at_216) rfl) ?_
    show Go p e below P (T68.setTop (mkF m 217 #[.val (.int p0), .val (.int p1), .val (.int p2), .val (.int p3), .val (.int p4), .val (.ref b1), .val (.ref b11), .val (.int s7), .val (.int e8), .val (.int (2 : Int32)), .val (.ref b41), .val (.int (frS ([c0, c1, c2, c3] : List Int32) ([p2, p3] : List Int32) s7.toInt.toNat e8.toInt.toNat (e8.toInt.toNat - s7.toInt.toNat))), .unset] [(.int p3), (.int p2), (.int (2 : Int32)), (.int e8), (.int s7), (.int (3 : Int32)), (.int c3), (.int (((tm c0 (0 : Int32) s7 e8 (2 : Int32) p2 p3 p4) + (tm c1 (1 : Int32) s7 e8 (2 : Int32) p2 p3 p4)) + (tm c2 (2 : Int32) s7 e8 (2 : Int32) p2 p3 p4)))]))
    refine Go.by (fun _ => XS.iload X68.here hx rfl (hb hby at_217) rfl) ?_
    show Go p e below P (T68.setTop (mkF m 219 #[.val (.int p0), .val (.int p1), .val (.int p2), .val (.int p3), .val (.int p4), .val (.ref b1), .val (.ref b11), .val (.int s7), .val (.int e8), .val (.int (2 : Int32)), .val (.ref b41), .val (.int (frS ([c0, c1, c2, c3] : List Int32) ([p2, p3] : List Int32) s7.toInt.toNat e8.toInt.toNat (e8.toInt.toNat - s7.toInt.toNat))), .unset] [(.int p4), (.int p3), (.int p2), (.int (2 : Int32)), (.int e8), (.int s7), (.int (3 : Int32)), (.int c3), (.int (((tm c0 (0 : Int32) s7 e8 (2 : Int32) p2 p3 p4) + (tm c1 (1 : Int32) s7 e8 (2 : Int32) p2 p3 p4)) + (tm c2 (2 : Int32) s7 e8 (2 : Int32) p2 p3 p4)))]))
    obtain ⟨_, _, ⟨T70, L70, k70, n70⟩, -, X70, ⟨Lc70, hQ70, l70, y70, z70⟩, st70⟩ := Jvm.LawKit.callS X68 hx (y := (⟨"com/example/kontoform/kontoform/WeightedSumsFromRightPinLaw", "term", "(CIIIIIII)I"⟩ : MethodName)) hown (mvT hZ (hw _ (List.mem_of_getElem? (i := 35) rfl))) (mvT hZ (hw _ (List.mem_of_getElem? (i := 36) rfl))) (mvT hZ (hw _ (List.mem_of_getElem? (i := 37) rfl))) (mvT hZ (hw _ (List.mem_of_getElem? (i := 38) rfl))) (by decide) (backOf (W := 1) (rm_tm l Z a0 hw [] zC fmV hG c3 ((3 : Int32)) s7 e8 ((2 : Int32)) p2 p3 p4 h55 n0 Z55 O55  ) hZ (hw _ (List.mem_of_getElem? (i := 38) rfl)) (hw _ (List.mem_of_getElem? (i := 37) rfl)) (Nat.le_of_ble_eq_true rfl) (Nat.le_of_ble_eq_true rfl)) (g := (mkF m 219 #[.val (.int p0), .val (.int p1), .val (.int p2), .val (.int p3), .val (.int p4), .val (.ref b1), .val (.ref b11), .val (.int s7), .val (.int e8), .val (.int (2 : Int32)), .val (.ref b41), .val (.int (frS ([c0, c1, c2, c3] : List Int32) ([p2, p3] : List Int32) s7.toInt.toNat e8.toInt.toNat (e8.toInt.toNat - s7.toInt.toNat))), .unset] [(.int p4), (.int p3), (.int p2), (.int (2 : Int32)), (.int e8), (.int s7), (.int (3 : Int32)), (.int c3), (.int (((tm c0 (0 : Int32) s7 e8 (2 : Int32) p2 p3 p4) + (tm c1 (1 : Int32) s7 e8 (2 : Int32) p2 p3 p4)) + (tm c2 (2 : Int32) s7 e8 (2 : Int32) p2 p3 p4)))])) rfl (by rw [hml]; rfl) (argsL := [(.int c3), (.int (3 : Int32)), (.int s7), (.int e8), (.int (2 : Int32)), (.int p2), (.int p3), (.int p4)]) (rest := [(.int (((tm c0 (0 : Int32) s7 e8 (2 : Int32) p2 p3 p4) + (tm c1 (1 : Int32) s7 e8 (2 : Int32) p2 p3 p4)) + (tm c2 (2 : Int32) s7 e8 (2 : Int32) p2 p3 p4)))]) (lenOf pd_3 rfl) rfl (by show 2 * 0 + _ ≤ _; exact Nat.le_of_eq rfl) (hb hby at_219) (fun _ _ => ⟨rfl, eq68, (Nat.le_of_ble_eq_true rfl : 4 + 0 ≤ _), (Nat.le_of_ble_eq_true rfl : 14 + 0 ≤ _)⟩)
    dsimp only [Pt.U, Pt.locs, Pt.cells, Pt.slots] at X70 l70 y70 z70 st70 hQ70
    subst l70 y70 z70
    obtain ⟨rfl, Nq70, eq70⟩ := hQ70
    have N70 := Fr.app N68 Nq70
    refine Go.by (fun _ => st70 _) ?_
    show Go p e below P (T70.setTop (mkF m 222 #[.val (.int p0), .val (.int p1), .val (.int p2), .val (.int p3), .val (.int p4), .val (.ref b1), .val (.ref b11), .val (.int s7), .val (.int e8), .val (.int (2 : Int32)), .val (.ref b41), .val (.int (frS ([c0, c1, c2, c3] : List Int32) ([p2, p3] : List Int32) s7.toInt.toNat e8.toInt.toNat (e8.toInt.toNat - s7.toInt.toNat))), .unset] [(.int (tm c3 (3 : Int32) s7 e8 (2 : Int32) p2 p3 p4)), (.int (((tm c0 (0 : Int32) s7 e8 (2 : Int32) p2 p3 p4) + (tm c1 (1 : Int32) s7 e8 (2 : Int32) p2 p3 p4)) + (tm c2 (2 : Int32) s7 e8 (2 : Int32) p2 p3 p4)))]))
    refine Go.by (fun _ => XS.iadd X70.here hx rfl (hb hby at_222) rfl) ?_
    show Go p e below P (T70.setTop (mkF m 223 #[.val (.int p0), .val (.int p1), .val (.int p2), .val (.int p3), .val (.int p4), .val (.ref b1), .val (.ref b11), .val (.int s7), .val (.int e8), .val (.int (2 : Int32)), .val (.ref b41), .val (.int (frS ([c0, c1, c2, c3] : List Int32) ([p2, p3] : List Int32) s7.toInt.toNat e8.toInt.toNat (e8.toInt.toNat - s7.toInt.toNat))), .unset] [(.int ((((tm c0 (0 : Int32) s7 e8 (2 : Int32) p2 p3 p4) + (tm c1 (1 : Int32) s7 e8 (2 : Int32) p2 p3 p4)) + (tm c2 (2 : Int32) s7 e8 (2 : Int32) p2 p3 p4)) + (tm c3 (3 : Int32) s7 e8 (2 : Int32) p2 p3 p4)))]))
    refine Go.by (fun _ => XS.istore X70.here hx rfl (hb hby at_223) rfl (l' := #[.val (.int p0), .val (.int p1), .val (.int p2), .val (.int p3), .val (.int p4), .val (.ref b1), .val (.ref b11), .val (.int s7), .val (.int e8), .val (.int (2 : Int32)), .val (.ref b41), .val (.int (frS ([c0, c1, c2, c3] : List Int32) ([p2, p3] : List Int32) s7.toInt.toNat e8.toInt.toNat (e8.toInt.toNat - s7.toInt.toNat))), .val (.int ((((tm c0 (0 : Int32) s7 e8 (2 : Int32) p2 p3 p4) + (tm c1 (1 : Int32) s7 e8 (2 : Int32) p2 p3 p4)) + (tm c2 (2 : Int32) s7 e8 (2 : Int32) p2 p3 p4)) + (tm c3 (3 : Int32) s7 e8 (2 : Int32) p2 p3 p4)))]) rfl) ?_
    show Go p e below P (T70.setTop (mkF m 225 #[.val (.int p0), .val (.int p1), .val (.int p2), .val (.int p3), .val (.int p4), .val (.ref b1), .val (.ref b11), .val (.int s7), .val (.int e8), .val (.int (2 : Int32)), .val (.ref b41), .val (.int (frS ([c0, c1, c2, c3] : List Int32) ([p2, p3] : List Int32) s7.toInt.toNat e8.toInt.toNat (e8.toInt.toNat - s7.toInt.toNat))), .val (.int ((((tm c0 (0 : Int32) s7 e8 (2 : Int32) p2 p3 p4) + (tm c1 (1 : Int32) s7 e8 (2 : Int32) p2 p3 p4)) + (tm c2 (2 : Int32) s7 e8 (2 : Int32) p2 p3 p4)) + (tm c3 (3 : Int32) s7 e8 (2 : Int32) p2 p3 p4)))] []))
    refine Go.by (fun _ => XS.iload X70.here hx rfl (hb hby at_225) rfl) ?_
    show Go p e below P (T70.setTop (mkF m 227 #[.val (.int p0), .val (.int p1), .val (.int p2), .val (.int p3), .val (.int p4), .val (.ref b1), .val (.ref b11), .val (.int s7), .val (.int e8), .val (.int (2 : Int32)), .val (.ref b41), .val (.int (frS ([c0, c1, c2, c3] : List Int32) ([p2, p3] : List Int32) s7.toInt.toNat e8.toInt.toNat (e8.toInt.toNat - s7.toInt.toNat))), .val (.int ((((tm c0 (0 : Int32) s7 e8 (2 : Int32) p2 p3 p4) + (tm c1 (1 : Int32) s7 e8 (2 : Int32) p2 p3 p4)) + (tm c2 (2 : Int32) s7 e8 (2 : Int32) p2 p3 p4)) + (tm c3 (3 : Int32) s7 e8 (2 : Int32) p2 p3 p4)))] [(.int (frS ([c0, c1, c2, c3] : List Int32) ([p2, p3] : List Int32) s7.toInt.toNat e8.toInt.toNat (e8.toInt.toNat - s7.toInt.toNat)))]))
    refine Go.by (fun _ => XS.iload X70.here hx rfl (hb hby at_227) rfl) ?_
    show Go p e below P (T70.setTop (mkF m 229 #[.val (.int p0), .val (.int p1), .val (.int p2), .val (.int p3), .val (.int p4), .val (.ref b1), .val (.ref b11), .val (.int s7), .val (.int e8), .val (.int (2 : Int32)), .val (.ref b41), .val (.int (frS ([c0, c1, c2, c3] : List Int32) ([p2, p3] : List Int32) s7.toInt.toNat e8.toInt.toNat (e8.toInt.toNat - s7.toInt.toNat))), .val (.int ((((tm c0 (0 : Int32) s7 e8 (2 : Int32) p2 p3 p4) + (tm c1 (1 : Int32) s7 e8 (2 : Int32) p2 p3 p4)) + (tm c2 (2 : Int32) s7 e8 (2 : Int32) p2 p3 p4)) + (tm c3 (3 : Int32) s7 e8 (2 : Int32) p2 p3 p4)))] [(.int ((((tm c0 (0 : Int32) s7 e8 (2 : Int32) p2 p3 p4) + (tm c1 (1 : Int32) s7 e8 (2 : Int32) p2 p3 p4)) + (tm c2 (2 : Int32) s7 e8 (2 : Int32) p2 p3 p4)) + (tm c3 (3 : Int32) s7 e8 (2 : Int32) p2 p3 p4))), (.int (frS ([c0, c1, c2, c3] : List Int32) ([p2, p3] : List Int32) s7.toInt.toNat e8.toInt.toNat (e8.toInt.toNat - s7.toInt.toNat)))]))
    have hc229 : (frS ([c0, c1, c2, c3] : List Int32) ([p2, p3] : List Int32) s7.toInt.toNat e8.toInt.toNat (e8.toInt.toNat - s7.toInt.toNat)) = ((((tm c0 (0 : Int32) s7 e8 (2 : Int32) p2 p3 p4) + (tm c1 (1 : Int32) s7 e8 (2 : Int32) p2 p3 p4)) + (tm c2 (2 : Int32) s7 e8 (2 : Int32) p2 p3 p4)) + (tm c3 (3 : Int32) s7 e8 (2 : Int32) p2 p3 p4)) := own_fin2 c0 c1 c2 c3 p2 p3 p4 s7 e8 s7.toInt.toNat e8.toInt.toNat (by omega) (by omega) (by omega) (by omega)
    refine Go.by (fun _ => XS.icmpNo X70.here hx rfl (hb hby at_229) rfl (teq hc229).2) ?_
    show Go p e below P (T70.setTop (mkF m 232 #[.val (.int p0), .val (.int p1), .val (.int p2), .val (.int p3), .val (.int p4), .val (.ref b1), .val (.ref b11), .val (.int s7), .val (.int e8), .val (.int (2 : Int32)), .val (.ref b41), .val (.int (frS ([c0, c1, c2, c3] : List Int32) ([p2, p3] : List Int32) s7.toInt.toNat e8.toInt.toNat (e8.toInt.toNat - s7.toInt.toNat))), .val (.int ((((tm c0 (0 : Int32) s7 e8 (2 : Int32) p2 p3 p4) + (tm c1 (1 : Int32) s7 e8 (2 : Int32) p2 p3 p4)) + (tm c2 (2 : Int32) s7 e8 (2 : Int32) p2 p3 p4)) + (tm c3 (3 : Int32) s7 e8 (2 : Int32) p2 p3 p4)))] []))
    refine Go.by (fun _ => XS.iconst X70.here hx rfl (hb hby at_232)) ?_
    show Go p e below P (T70.setTop (mkF m 233 #[.val (.int p0), .val (.int p1), .val (.int p2), .val (.int p3), .val (.int p4), .val (.ref b1), .val (.ref b11), .val (.int s7), .val (.int e8), .val (.int (2 : Int32)), .val (.ref b41), .val (.int (frS ([c0, c1, c2, c3] : List Int32) ([p2, p3] : List Int32) s7.toInt.toNat e8.toInt.toNat (e8.toInt.toNat - s7.toInt.toNat))), .val (.int ((((tm c0 (0 : Int32) s7 e8 (2 : Int32) p2 p3 p4) + (tm c1 (1 : Int32) s7 e8 (2 : Int32) p2 p3 p4)) + (tm c2 (2 : Int32) s7 e8 (2 : Int32) p2 p3 p4)) + (tm c3 (3 : Int32) s7 e8 (2 : Int32) p2 p3 p4)))] [(.int (1 : Int32))]))
    refine Go.by (fun _ => XS.goto X70.here hx rfl (pc0 := 233) (pc' := 237) rfl (hb hby at_233) (by decide) (by decide)) ?_
    show Go p e below P (T70.setTop (mkF m 237 #[.val (.int p0), .val (.int p1), .val (.int p2), .val (.int p3), .val (.int p4), .val (.ref b1), .val (.ref b11), .val (.int s7), .val (.int e8), .val (.int (2 : Int32)), .val (.ref b41), .val (.int (frS ([c0, c1, c2, c3] : List Int32) ([p2, p3] : List Int32) s7.toInt.toNat e8.toInt.toNat (e8.toInt.toNat - s7.toInt.toNat))), .val (.int ((((tm c0 (0 : Int32) s7 e8 (2 : Int32) p2 p3 p4) + (tm c1 (1 : Int32) s7 e8 (2 : Int32) p2 p3 p4)) + (tm c2 (2 : Int32) s7 e8 (2 : Int32) p2 p3 p4)) + (tm c3 (3 : Int32) s7 e8 (2 : Int32) p2 p3 p4)))] [(.int (1 : Int32))]))
    subst hP
    refine Go.retZ X70 hx (t := .boolean) Bd.returns (by simp) hlk (hb hby at_237) (Nat.le_of_ble_eq_true rfl) (Nat.le_of_ble_eq_true rfl) ?_
    rw [eq70]
    exact ⟨rfl, N70⟩
  · show Go p e below P (T15.setTop (mkF m 101 #[.val (.int p0), .val (.int p1), .val (.int p2), .val (.int p3), .val (.int p4), .val (.ref b1), .val (.ref b11), .val (.int s7), .val (.int e8), .val (.int (3 : Int32)), .unset, .unset, .unset] []))
    refine Go.by (fun _ => XS.iload X15.here hx rfl (hb hby at_101) rfl) ?_
    show Go p e below P (T15.setTop (mkF m 103 #[.val (.int p0), .val (.int p1), .val (.int p2), .val (.int p3), .val (.int p4), .val (.ref b1), .val (.ref b11), .val (.int s7), .val (.int e8), .val (.int (3 : Int32)), .unset, .unset, .unset] [(.int (3 : Int32))]))
    obtain ⟨T71, h71, k71, X71, e71, E71, A71, st71⟩ := newP X15 hx hZ (hw _ (List.mem_of_getElem? (i := 30) rfl)) rfl (g := (mkF m 103 #[.val (.int p0), .val (.int p1), .val (.int p2), .val (.int p3), .val (.int p4), .val (.ref b1), .val (.ref b11), .val (.int s7), .val (.int e8), .val (.int (3 : Int32)), .unset, .unset, .unset] [(.int (3 : Int32))])) rfl (hb hby at_103) rfl (by decide) (cap := 3) (by decide) (Nat.le_of_ble_eq_true rfl) (Nat.le_of_ble_eq_true rfl) (Nat.le_of_ble_eq_true rfl)
    obtain ⟨b71, q71⟩ : ∃ z, z = T15.heap.size := ⟨_, rfl⟩
    rw [← q71] at A71 st71
    refine Go.by (fun _ => st71 _) ?_
    have ne_b1_b71 : b1 ≠ b71 := Nat.ne_of_lt (Nat.lt_of_lt_of_le F16.lt (Nat.le_of_eq q71.symm))
    have ne_b11_b71 : b11 ≠ b71 := Nat.ne_of_lt (Nat.lt_of_lt_of_le FE15.lt (Nat.le_of_eq q71.symm))
    have ne_t15_b71 : t15 ≠ b71 := Nat.ne_of_lt (Nat.lt_of_lt_of_le FA15.lt (Nat.le_of_eq q71.symm))
    have g_b71 : n0 ≤ b71 := Nat.le_trans Z15 (Nat.le_of_eq q71.symm)
    have F72 : Arv Z h71 b1 k1 .char (4 : Int32) [(.int c0), (.int c1), (.int c2), (.int c3)] (.int (0 : Int32)) := F16.ext E71
    have F73 : Exa Z h71 b11 "java/lang/String" := FE15.ext E71
    have F74 : Fld Z h71 b11 "java/lang/String" "coder" "B" (.int (0 : Int32)) := FC15.ext E71
    have F75 : Fld Z h71 b11 "java/lang/String" "value" "[B" (.ref t15) := FV15.ext E71
    have F76 : Arv Z h71 t15 kb15 .byte (4 : Int32) (((([c0, c1, c2, c3] : List Int32)).map (fun c => c.toInt8.toInt32)).map Value.int) (.int (0 : Int32)) := FA15.ext E71
    have O71 := O15.ext E71
    have Z71 : n0 ≤ h71.size := Nat.le_trans Z15 E71.1
    have F77 : Arv Z h71 b71 k71 .int (3 : Int32) [(.int (0 : Int32)), (.int (0 : Int32)), (.int (0 : Int32))] (.int (0 : Int32)) := (Arv.new A71 (by decide)).pad (pad_rep [] (.int (0 : Int32)) 3)
    show Go p e below P (T71.setTop (mkF m 105 #[.val (.int p0), .val (.int p1), .val (.int p2), .val (.int p3), .val (.int p4), .val (.ref b1), .val (.ref b11), .val (.int s7), .val (.int e8), .val (.int (3 : Int32)), .unset, .unset, .unset] [(.ref b71)]))
    refine Go.by (fun _ => XS.astore X71.here hx rfl (hb hby at_105) rfl rfl (l' := #[.val (.int p0), .val (.int p1), .val (.int p2), .val (.int p3), .val (.int p4), .val (.ref b1), .val (.ref b11), .val (.int s7), .val (.int e8), .val (.int (3 : Int32)), .val (.ref b71), .unset, .unset]) rfl) ?_
    show Go p e below P (T71.setTop (mkF m 107 #[.val (.int p0), .val (.int p1), .val (.int p2), .val (.int p3), .val (.int p4), .val (.ref b1), .val (.ref b11), .val (.int s7), .val (.int e8), .val (.int (3 : Int32)), .val (.ref b71), .unset, .unset] []))
    refine Go.by (fun _ => XS.aload X71.here hx rfl (hb hby at_107) rfl rfl) ?_
    show Go p e below P (T71.setTop (mkF m 109 #[.val (.int p0), .val (.int p1), .val (.int p2), .val (.int p3), .val (.int p4), .val (.ref b1), .val (.ref b11), .val (.int s7), .val (.int e8), .val (.int (3 : Int32)), .val (.ref b71), .unset, .unset] [(.ref b71)]))
    refine Go.by (fun _ => XS.iconst X71.here hx rfl (hb hby at_109)) ?_
    show Go p e below P (T71.setTop (mkF m 110 #[.val (.int p0), .val (.int p1), .val (.int p2), .val (.int p3), .val (.int p4), .val (.ref b1), .val (.ref b11), .val (.int s7), .val (.int e8), .val (.int (3 : Int32)), .val (.ref b71), .unset, .unset] [(.int (0 : Int32)), (.ref b71)]))
    refine Go.by (fun _ => XS.iloadN X71.here hx rfl (hb hby at_110) rfl) ?_
    show Go p e below P (T71.setTop (mkF m 111 #[.val (.int p0), .val (.int p1), .val (.int p2), .val (.int p3), .val (.int p4), .val (.ref b1), .val (.ref b11), .val (.int s7), .val (.int e8), .val (.int (3 : Int32)), .val (.ref b71), .unset, .unset] [(.int p2), (.int (0 : Int32)), (.ref b71)]))
    obtain ⟨cl78, Ar78, qc78, Sz78, Ng78, Hs78, Gf78⟩ := id (F77)
    have hin78 : ¬ ((0 : Int32) < 0 ∨ cl78.slots.size ≤ ((0 : Int32)).toNatClampNeg) := inb_of Sz78 ⟨by decide, by decide⟩
    obtain ⟨T78, h78, X78, e78, W78, st78⟩ := stI X71 hx hZ e71 Ar78 (j := (0 : Int32)) hin78 (g := (mkF m 111 #[.val (.int p0), .val (.int p1), .val (.int p2), .val (.int p3), .val (.int p4), .val (.ref b1), .val (.ref b11), .val (.int s7), .val (.int e8), .val (.int (3 : Int32)), .val (.ref b71), .unset, .unset] [(.int p2), (.int (0 : Int32)), (.ref b71)])) rfl rfl (hb hby at_111)
    refine Go.by (fun _ => st78 _) ?_
    have F79 : Arv Z h78 b1 k1 .char (4 : Int32) [(.int c0), (.int c1), (.int c2), (.int c3)] (.int (0 : Int32)) := F72.other W78 ne_b1_b71
    have F80 : Exa Z h78 b11 "java/lang/String" := F73.wr W78
    have F81 : Fld Z h78 b11 "java/lang/String" "coder" "B" (.int (0 : Int32)) := F74.other W78 (Or.inl ne_b11_b71)
    have F82 : Fld Z h78 b11 "java/lang/String" "value" "[B" (.ref t15) := F75.other W78 (Or.inl ne_b11_b71)
    have F83 : Arv Z h78 t15 kb15 .byte (4 : Int32) (((([c0, c1, c2, c3] : List Int32)).map (fun c => c.toInt8.toInt32)).map Value.int) (.int (0 : Int32)) := F76.other W78 ne_t15_b71
    have O78 := O71.wr W78 g_b71
    have Z78 : n0 ≤ h78.size := Nat.le_trans Z71 (Keep.of_wr W78).1
    have F84 : Arv Z h78 b71 k71 .int (3 : Int32) [(.int p2), (.int (0 : Int32)), (.int (0 : Int32))] (.int (0 : Int32)) := Arv.set Ar78 qc78 Sz78 Ng78 Hs78 Gf78 rfl W78 0 rfl (Nat.le_of_ble_eq_true rfl)
    have N78 := Fr.snoc X78 N15 g_b71
    show Go p e below P (T78.setTop (mkF m 112 #[.val (.int p0), .val (.int p1), .val (.int p2), .val (.int p3), .val (.int p4), .val (.ref b1), .val (.ref b11), .val (.int s7), .val (.int e8), .val (.int (3 : Int32)), .val (.ref b71), .unset, .unset] []))
    refine Go.by (fun _ => XS.iload X78.here hx rfl (hb hby at_112) rfl) ?_
    show Go p e below P (T78.setTop (mkF m 114 #[.val (.int p0), .val (.int p1), .val (.int p2), .val (.int p3), .val (.int p4), .val (.ref b1), .val (.ref b11), .val (.int s7), .val (.int e8), .val (.int (3 : Int32)), .val (.ref b71), .unset, .unset] [(.int (3 : Int32))]))
    refine Go.by (fun _ => XS.iconst X78.here hx rfl (hb hby at_114)) ?_
    show Go p e below P (T78.setTop (mkF m 115 #[.val (.int p0), .val (.int p1), .val (.int p2), .val (.int p3), .val (.int p4), .val (.ref b1), .val (.ref b11), .val (.int s7), .val (.int e8), .val (.int (3 : Int32)), .val (.ref b71), .unset, .unset] [(.int (1 : Int32)), (.int (3 : Int32))]))
    have hc115 : (1 : Int32) < (3 : Int32) := by decide
    refine Go.by (fun _ => XS.icmpNo X78.here hx rfl (hb hby at_115) rfl (tlt hc115).2.2.2) ?_
    show Go p e below P (T78.setTop (mkF m 118 #[.val (.int p0), .val (.int p1), .val (.int p2), .val (.int p3), .val (.int p4), .val (.ref b1), .val (.ref b11), .val (.int s7), .val (.int e8), .val (.int (3 : Int32)), .val (.ref b71), .unset, .unset] []))
    refine Go.by (fun _ => XS.aload X78.here hx rfl (hb hby at_118) rfl rfl) ?_
    show Go p e below P (T78.setTop (mkF m 120 #[.val (.int p0), .val (.int p1), .val (.int p2), .val (.int p3), .val (.int p4), .val (.ref b1), .val (.ref b11), .val (.int s7), .val (.int e8), .val (.int (3 : Int32)), .val (.ref b71), .unset, .unset] [(.ref b71)]))
    refine Go.by (fun _ => XS.iconst X78.here hx rfl (hb hby at_120)) ?_
    show Go p e below P (T78.setTop (mkF m 121 #[.val (.int p0), .val (.int p1), .val (.int p2), .val (.int p3), .val (.int p4), .val (.ref b1), .val (.ref b11), .val (.int s7), .val (.int e8), .val (.int (3 : Int32)), .val (.ref b71), .unset, .unset] [(.int (1 : Int32)), (.ref b71)]))
    refine Go.by (fun _ => XS.iloadN X78.here hx rfl (hb hby at_121) rfl) ?_
    show Go p e below P (T78.setTop (mkF m 122 #[.val (.int p0), .val (.int p1), .val (.int p2), .val (.int p3), .val (.int p4), .val (.ref b1), .val (.ref b11), .val (.int s7), .val (.int e8), .val (.int (3 : Int32)), .val (.ref b71), .unset, .unset] [(.int p3), (.int (1 : Int32)), (.ref b71)]))
    obtain ⟨cl85, Ar85, qc85, Sz85, Ng85, Hs85, Gf85⟩ := id (F84)
    have hin85 : ¬ ((1 : Int32) < 0 ∨ cl85.slots.size ≤ ((1 : Int32)).toNatClampNeg) := inb_of Sz85 ⟨by decide, by decide⟩
    obtain ⟨T85, h85, X85, e85, W85, st85⟩ := stI X78 hx hZ e78 Ar85 (j := (1 : Int32)) hin85 (g := (mkF m 122 #[.val (.int p0), .val (.int p1), .val (.int p2), .val (.int p3), .val (.int p4), .val (.ref b1), .val (.ref b11), .val (.int s7), .val (.int e8), .val (.int (3 : Int32)), .val (.ref b71), .unset, .unset] [(.int p3), (.int (1 : Int32)), (.ref b71)])) rfl rfl (hb hby at_122)
    refine Go.by (fun _ => st85 _) ?_
    have F86 : Arv Z h85 b1 k1 .char (4 : Int32) [(.int c0), (.int c1), (.int c2), (.int c3)] (.int (0 : Int32)) := F79.other W85 ne_b1_b71
    have F87 : Exa Z h85 b11 "java/lang/String" := F80.wr W85
    have F88 : Fld Z h85 b11 "java/lang/String" "coder" "B" (.int (0 : Int32)) := F81.other W85 (Or.inl ne_b11_b71)
    have F89 : Fld Z h85 b11 "java/lang/String" "value" "[B" (.ref t15) := F82.other W85 (Or.inl ne_b11_b71)
    have F90 : Arv Z h85 t15 kb15 .byte (4 : Int32) (((([c0, c1, c2, c3] : List Int32)).map (fun c => c.toInt8.toInt32)).map Value.int) (.int (0 : Int32)) := F83.other W85 ne_t15_b71
    have O85 := O78.wr W85 g_b71
    have Z85 : n0 ≤ h85.size := Nat.le_trans Z78 (Keep.of_wr W85).1
    have F91 : Arv Z h85 b71 k71 .int (3 : Int32) [(.int p2), (.int p3), (.int (0 : Int32))] (.int (0 : Int32)) := Arv.set Ar85 qc85 Sz85 Ng85 Hs85 Gf85 rfl W85 1 rfl (Nat.le_of_ble_eq_true rfl)
    have N85 := Fr.snoc X85 N78 g_b71
    show Go p e below P (T85.setTop (mkF m 123 #[.val (.int p0), .val (.int p1), .val (.int p2), .val (.int p3), .val (.int p4), .val (.ref b1), .val (.ref b11), .val (.int s7), .val (.int e8), .val (.int (3 : Int32)), .val (.ref b71), .unset, .unset] []))
    refine Go.by (fun _ => XS.iload X85.here hx rfl (hb hby at_123) rfl) ?_
    show Go p e below P (T85.setTop (mkF m 125 #[.val (.int p0), .val (.int p1), .val (.int p2), .val (.int p3), .val (.int p4), .val (.ref b1), .val (.ref b11), .val (.int s7), .val (.int e8), .val (.int (3 : Int32)), .val (.ref b71), .unset, .unset] [(.int (3 : Int32))]))
    refine Go.by (fun _ => XS.iconst X85.here hx rfl (hb hby at_125)) ?_
    show Go p e below P (T85.setTop (mkF m 126 #[.val (.int p0), .val (.int p1), .val (.int p2), .val (.int p3), .val (.int p4), .val (.ref b1), .val (.ref b11), .val (.int s7), .val (.int e8), .val (.int (3 : Int32)), .val (.ref b71), .unset, .unset] [(.int (2 : Int32)), (.int (3 : Int32))]))
    have hc126 : (2 : Int32) < (3 : Int32) := by decide
    refine Go.by (fun _ => XS.icmpNo X85.here hx rfl (hb hby at_126) rfl (tlt hc126).2.2.2) ?_
    show Go p e below P (T85.setTop (mkF m 129 #[.val (.int p0), .val (.int p1), .val (.int p2), .val (.int p3), .val (.int p4), .val (.ref b1), .val (.ref b11), .val (.int s7), .val (.int e8), .val (.int (3 : Int32)), .val (.ref b71), .unset, .unset] []))
    refine Go.by (fun _ => XS.aload X85.here hx rfl (hb hby at_129) rfl rfl) ?_
    show Go p e below P (T85.setTop (mkF m 131 #[.val (.int p0), .val (.int p1), .val (.int p2), .val (.int p3), .val (.int p4), .val (.ref b1), .val (.ref b11), .val (.int s7), .val (.int e8), .val (.int (3 : Int32)), .val (.ref b71), .unset, .unset] [(.ref b71)]))
    refine Go.by (fun _ => XS.iconst X85.here hx rfl (hb hby at_131)) ?_
    show Go p e below P (T85.setTop (mkF m 132 #[.val (.int p0), .val (.int p1), .val (.int p2), .val (.int p3), .val (.int p4), .val (.ref b1), .val (.ref b11), .val (.int s7), .val (.int e8), .val (.int (3 : Int32)), .val (.ref b71), .unset, .unset] [(.int (2 : Int32)), (.ref b71)]))
    refine Go.by (fun _ => XS.iload X85.here hx rfl (hb hby at_132) rfl) ?_
    show Go p e below P (T85.setTop (mkF m 134 #[.val (.int p0), .val (.int p1), .val (.int p2), .val (.int p3), .val (.int p4), .val (.ref b1), .val (.ref b11), .val (.int s7), .val (.int e8), .val (.int (3 : Int32)), .val (.ref b71), .unset, .unset] [(.int p4), (.int (2 : Int32)), (.ref b71)]))
    obtain ⟨cl92, Ar92, qc92, Sz92, Ng92, Hs92, Gf92⟩ := id (F91)
    have hin92 : ¬ ((2 : Int32) < 0 ∨ cl92.slots.size ≤ ((2 : Int32)).toNatClampNeg) := inb_of Sz92 ⟨by decide, by decide⟩
    obtain ⟨T92, h92, X92, e92, W92, st92⟩ := stI X85 hx hZ e85 Ar92 (j := (2 : Int32)) hin92 (g := (mkF m 134 #[.val (.int p0), .val (.int p1), .val (.int p2), .val (.int p3), .val (.int p4), .val (.ref b1), .val (.ref b11), .val (.int s7), .val (.int e8), .val (.int (3 : Int32)), .val (.ref b71), .unset, .unset] [(.int p4), (.int (2 : Int32)), (.ref b71)])) rfl rfl (hb hby at_134)
    refine Go.by (fun _ => st92 _) ?_
    have F93 : Arv Z h92 b1 k1 .char (4 : Int32) [(.int c0), (.int c1), (.int c2), (.int c3)] (.int (0 : Int32)) := F86.other W92 ne_b1_b71
    have F94 : Exa Z h92 b11 "java/lang/String" := F87.wr W92
    have F95 : Fld Z h92 b11 "java/lang/String" "coder" "B" (.int (0 : Int32)) := F88.other W92 (Or.inl ne_b11_b71)
    have F96 : Fld Z h92 b11 "java/lang/String" "value" "[B" (.ref t15) := F89.other W92 (Or.inl ne_b11_b71)
    have F97 : Arv Z h92 t15 kb15 .byte (4 : Int32) (((([c0, c1, c2, c3] : List Int32)).map (fun c => c.toInt8.toInt32)).map Value.int) (.int (0 : Int32)) := F90.other W92 ne_t15_b71
    have O92 := O85.wr W92 g_b71
    have Z92 : n0 ≤ h92.size := Nat.le_trans Z85 (Keep.of_wr W92).1
    have F98 : Arv Z h92 b71 k71 .int (3 : Int32) [(.int p2), (.int p3), (.int p4)] (.int (0 : Int32)) := Arv.set Ar92 qc92 Sz92 Ng92 Hs92 Gf92 rfl W92 2 rfl (Nat.le_of_ble_eq_true rfl)
    have N92 := Fr.snoc X92 N85 g_b71
    show Go p e below P (T92.setTop (mkF m 135 #[.val (.int p0), .val (.int p1), .val (.int p2), .val (.int p3), .val (.int p4), .val (.ref b1), .val (.ref b11), .val (.int s7), .val (.int e8), .val (.int (3 : Int32)), .val (.ref b71), .unset, .unset] []))
    refine Go.by (fun _ => XS.aload X92.here hx rfl (hb hby at_135) rfl rfl) ?_
    show Go p e below P (T92.setTop (mkF m 137 #[.val (.int p0), .val (.int p1), .val (.int p2), .val (.int p3), .val (.int p4), .val (.ref b1), .val (.ref b11), .val (.int s7), .val (.int e8), .val (.int (3 : Int32)), .val (.ref b71), .unset, .unset] [(.ref b11)]))
    refine Go.by (fun _ => XS.iload X92.here hx rfl (hb hby at_137) rfl) ?_
    show Go p e below P (T92.setTop (mkF m 139 #[.val (.int p0), .val (.int p1), .val (.int p2), .val (.int p3), .val (.int p4), .val (.ref b1), .val (.ref b11), .val (.int s7), .val (.int e8), .val (.int (3 : Int32)), .val (.ref b71), .unset, .unset] [(.int s7), (.ref b11)]))
    refine Go.by (fun _ => XS.iload X92.here hx rfl (hb hby at_139) rfl) ?_
    show Go p e below P (T92.setTop (mkF m 141 #[.val (.int p0), .val (.int p1), .val (.int p2), .val (.int p3), .val (.int p4), .val (.ref b1), .val (.ref b11), .val (.int s7), .val (.int e8), .val (.int (3 : Int32)), .val (.ref b71), .unset, .unset] [(.int e8), (.int s7), (.ref b11)]))
    refine Go.by (fun _ => XS.aload X92.here hx rfl (hb hby at_141) rfl rfl) ?_
    show Go p e below P (T92.setTop (mkF m 143 #[.val (.int p0), .val (.int p1), .val (.int p2), .val (.int p3), .val (.int p4), .val (.ref b1), .val (.ref b11), .val (.int s7), .val (.int e8), .val (.int (3 : Int32)), .val (.ref b71), .unset, .unset] [(.ref b71), (.int e8), (.int s7), (.ref b11)]))
    obtain ⟨_, _, ⟨T99, L99, k99, n99⟩, -, X99, ⟨Lc99, hQ99, l99, y99, z99⟩, st99⟩ := Jvm.LawKit.callS X92 hx (y := (⟨"com/example/kontoform/kontoform/WeightedSums", "fromRight", "(Ljava/lang/String;II[I)I"⟩ : MethodName)) hown (mvT hZ (hw _ (List.mem_of_getElem? (i := 31) rfl))) (mvT hZ (hw _ (List.mem_of_getElem? (i := 32) rfl))) (mvT hZ (hw _ (List.mem_of_getElem? (i := 33) rfl))) (mvT hZ (hw _ (List.mem_of_getElem? (i := 34) rfl))) (by decide) (backOf (W := 0) (rm_fr l Z a0 hw [] zC fmV hG b11 s7 e8 b71 t15 kb15 k71 ((3 : Int32)) c0 c1 c2 c3 (([p2, p3, p4] : List Int32)) s7.toInt.toNat e8.toInt.toNat h92 n0 Z92 O92 F94 F96 F95 F97 F98 hp (by omega) (by omega) (by omega) (by omega) rfl (Nat.le_of_ble_eq_true rfl)) hZ (hw _ (List.mem_of_getElem? (i := 34) rfl)) (hw _ (List.mem_of_getElem? (i := 33) rfl)) (Nat.le_of_ble_eq_true rfl) (Nat.le_of_ble_eq_true rfl)) (g := (mkF m 143 #[.val (.int p0), .val (.int p1), .val (.int p2), .val (.int p3), .val (.int p4), .val (.ref b1), .val (.ref b11), .val (.int s7), .val (.int e8), .val (.int (3 : Int32)), .val (.ref b71), .unset, .unset] [(.ref b71), (.int e8), (.int s7), (.ref b11)])) rfl (by rw [hml]; rfl) (argsL := [(.ref b11), (.int s7), (.int e8), (.ref b71)]) (rest := []) (lenOf pd_2 rfl) rfl (by show 2 * 0 + _ ≤ _; exact Nat.le_of_eq rfl) (hb hby at_143) (fun _ _ => ⟨rfl, e92, (Nat.le_of_ble_eq_true rfl : 4 + 0 ≤ _), (Nat.le_of_ble_eq_true rfl : 15 + 0 ≤ _)⟩)
    dsimp only [Pt.U, Pt.locs, Pt.cells, Pt.slots] at X99 l99 y99 z99 st99 hQ99
    subst l99 y99 z99
    obtain ⟨rfl, Nq99, eq99⟩ := hQ99
    have N99 := Fr.app N92 Nq99
    refine Go.by (fun _ => st99 _) ?_
    show Go p e below P (T99.setTop (mkF m 146 #[.val (.int p0), .val (.int p1), .val (.int p2), .val (.int p3), .val (.int p4), .val (.ref b1), .val (.ref b11), .val (.int s7), .val (.int e8), .val (.int (3 : Int32)), .val (.ref b71), .unset, .unset] [(.int (frS ([c0, c1, c2, c3] : List Int32) ([p2, p3, p4] : List Int32) s7.toInt.toNat e8.toInt.toNat (e8.toInt.toNat - s7.toInt.toNat)))]))
    refine Go.by (fun _ => XS.istore X99.here hx rfl (hb hby at_146) rfl (l' := #[.val (.int p0), .val (.int p1), .val (.int p2), .val (.int p3), .val (.int p4), .val (.ref b1), .val (.ref b11), .val (.int s7), .val (.int e8), .val (.int (3 : Int32)), .val (.ref b71), .val (.int (frS ([c0, c1, c2, c3] : List Int32) ([p2, p3, p4] : List Int32) s7.toInt.toNat e8.toInt.toNat (e8.toInt.toNat - s7.toInt.toNat))), .unset]) rfl) ?_
    show Go p e below P (T99.setTop (mkF m 148 #[.val (.int p0), .val (.int p1), .val (.int p2), .val (.int p3), .val (.int p4), .val (.ref b1), .val (.ref b11), .val (.int s7), .val (.int e8), .val (.int (3 : Int32)), .val (.ref b71), .val (.int (frS ([c0, c1, c2, c3] : List Int32) ([p2, p3, p4] : List Int32) s7.toInt.toNat e8.toInt.toNat (e8.toInt.toNat - s7.toInt.toNat))), .unset] []))
    refine Go.by (fun _ => XS.aload X99.here hx rfl (hb hby at_148) rfl rfl) ?_
    show Go p e below P (T99.setTop (mkF m 150 #[.val (.int p0), .val (.int p1), .val (.int p2), .val (.int p3), .val (.int p4), .val (.ref b1), .val (.ref b11), .val (.int s7), .val (.int e8), .val (.int (3 : Int32)), .val (.ref b71), .val (.int (frS ([c0, c1, c2, c3] : List Int32) ([p2, p3, p4] : List Int32) s7.toInt.toNat e8.toInt.toNat (e8.toInt.toNat - s7.toInt.toNat))), .unset] [(.ref b1)]))
    refine Go.by (fun _ => XS.iconst X99.here hx rfl (hb hby at_150)) ?_
    show Go p e below P (T99.setTop (mkF m 151 #[.val (.int p0), .val (.int p1), .val (.int p2), .val (.int p3), .val (.int p4), .val (.ref b1), .val (.ref b11), .val (.int s7), .val (.int e8), .val (.int (3 : Int32)), .val (.ref b71), .val (.int (frS ([c0, c1, c2, c3] : List Int32) ([p2, p3, p4] : List Int32) s7.toInt.toNat e8.toInt.toNat (e8.toInt.toNat - s7.toInt.toNat))), .unset] [(.int (0 : Int32)), (.ref b1)]))
    obtain ⟨cl100, Ar100, qc100, Sz100, Ng100, Hs100, Gf100⟩ := id (F93)
    have hin100 : ¬ ((0 : Int32) < 0 ∨ cl100.slots.size ≤ ((0 : Int32)).toNatClampNeg) := inb_of Sz100 ⟨by decide, by decide⟩
    refine Go.by (fun _ => X99.caload hx (j := (0 : Int32)) (v := (.int c0)) (by rw [eq99]; exact Ar100.1) (State.isArrayOf_alike hZ.alike Ar100.2.1) Ar100.2.2 hin100 (Has.at Hs100 hin100 rfl) (g := (mkF m 151 #[.val (.int p0), .val (.int p1), .val (.int p2), .val (.int p3), .val (.int p4), .val (.ref b1), .val (.ref b11), .val (.int s7), .val (.int e8), .val (.int (3 : Int32)), .val (.ref b71), .val (.int (frS ([c0, c1, c2, c3] : List Int32) ([p2, p3, p4] : List Int32) s7.toInt.toNat e8.toInt.toNat (e8.toInt.toNat - s7.toInt.toNat))), .unset] [(.int (0 : Int32)), (.ref b1)])) rfl rfl (hb hby at_151) _) ?_
    show Go p e below P (T99.setTop (mkF m 152 #[.val (.int p0), .val (.int p1), .val (.int p2), .val (.int p3), .val (.int p4), .val (.ref b1), .val (.ref b11), .val (.int s7), .val (.int e8), .val (.int (3 : Int32)), .val (.ref b71), .val (.int (frS ([c0, c1, c2, c3] : List Int32) ([p2, p3, p4] : List Int32) s7.toInt.toNat e8.toInt.toNat (e8.toInt.toNat - s7.toInt.toNat))), .unset] [(.int c0)]))
    refine Go.by (fun _ => XS.iconst X99.here hx rfl (hb hby at_152)) ?_
    show Go p e below P (T99.setTop (mkF m 153 #[.val (.int p0), .val (.int p1), .val (.int p2), .val (.int p3), .val (.int p4), .val (.ref b1), .val (.ref b11), .val (.int s7), .val (.int e8), .val (.int (3 : Int32)), .val (.ref b71), .val (.int (frS ([c0, c1, c2, c3] : List Int32) ([p2, p3, p4] : List Int32) s7.toInt.toNat e8.toInt.toNat (e8.toInt.toNat - s7.toInt.toNat))), .unset] [(.int (0 : Int32)), (.int c0)]))
    refine Go.by (fun _ => XS.iload X99.here hx rfl (hb hby at_153) rfl) ?_
    show Go p e below P (T99.setTop (mkF m 155 #[.val (.int p0), .val (.int p1), .val (.int p2), .val (.int p3), .val (.int p4), .val (.ref b1), .val (.ref b11), .val (.int s7), .val (.int e8), .val (.int (3 : Int32)), .val (.ref b71), .val (.int (frS ([c0, c1, c2, c3] : List Int32) ([p2, p3, p4] : List Int32) s7.toInt.toNat e8.toInt.toNat (e8.toInt.toNat - s7.toInt.toNat))), .unset] [(.int s7), (.int (0 : Int32)), (.int c0)]))
    refine Go.by (fun _ => XS.iload X99.here hx rfl (hb hby at_155) rfl) ?_
    show Go p e below P (T99.setTop (mkF m 157 #[.val (.int p0), .val (.int p1), .val (.int p2), .val (.int p3), .val (.int p4), .val (.ref b1), .val (.ref b11), .val (.int s7), .val (.int e8), .val (.int (3 : Int32)), .val (.ref b71), .val (.int (frS ([c0, c1, c2, c3] : List Int32) ([p2, p3, p4] : List Int32) s7.toInt.toNat e8.toInt.toNat (e8.toInt.toNat - s7.toInt.toNat))), .unset] [(.int e8), (.int s7), (.int (0 : Int32)), (.int c0)]))
    refine Go.by (fun _ => XS.iload X99.here hx rfl (hb hby at_157) rfl) ?_
    show Go p e below P (T99.setTop (mkF m 159 #[.val (.int p0), .val (.int p1), .val (.int p2), .val (.int p3), .val (.int p4), .val (.ref b1), .val (.ref b11), .val (.int s7), .val (.int e8), .val (.int (3 : Int32)), .val (.ref b71), .val (.int (frS ([c0, c1, c2, c3] : List Int32) ([p2, p3, p4] : List Int32) s7.toInt.toNat e8.toInt.toNat (e8.toInt.toNat - s7.toInt.toNat))), .unset] [(.int (3 : Int32)), (.int e8), (.int s7), (.int (0 : Int32)), (.int c0)]))
    refine Go.by (fun _ => XS.iloadN X99.here hx rfl (hb hby at_159) rfl) ?_
    show Go p e below P (T99.setTop (mkF m 160 #[.val (.int p0), .val (.int p1), .val (.int p2), .val (.int p3), .val (.int p4), .val (.ref b1), .val (.ref b11), .val (.int s7), .val (.int e8), .val (.int (3 : Int32)), .val (.ref b71), .val (.int (frS ([c0, c1, c2, c3] : List Int32) ([p2, p3, p4] : List Int32) s7.toInt.toNat e8.toInt.toNat (e8.toInt.toNat - s7.toInt.toNat))), .unset] [(.int p2), (.int (3 : Int32)), (.int e8), (.int s7), (.int (0 : Int32)), (.int c0)]))
    refine Go.by (fun _ => XS.iloadN X99.here hx rfl (hb hby at_160) rfl) ?_
    show Go p e below P (T99.setTop (mkF m 161 #[.val (.int p0), .val (.int p1), .val (.int p2), .val (.int p3), .val (.int p4), .val (.ref b1), .val (.ref b11), .val (.int s7), .val (.int e8), .val (.int (3 : Int32)), .val (.ref b71), .val (.int (frS ([c0, c1, c2, c3] : List Int32) ([p2, p3, p4] : List Int32) s7.toInt.toNat e8.toInt.toNat (e8.toInt.toNat - s7.toInt.toNat))), .unset] [(.int p3), (.int p2), (.int (3 : Int32)), (.int e8), (.int s7), (.int (0 : Int32)), (.int c0)]))
    refine Go.by (fun _ => XS.iload X99.here hx rfl (hb hby at_161) rfl) ?_
    show Go p e below P (T99.setTop (mkF m 163 #[.val (.int p0), .val (.int p1), .val (.int p2), .val (.int p3), .val (.int p4), .val (.ref b1), .val (.ref b11), .val (.int s7), .val (.int e8), .val (.int (3 : Int32)), .val (.ref b71), .val (.int (frS ([c0, c1, c2, c3] : List Int32) ([p2, p3, p4] : List Int32) s7.toInt.toNat e8.toInt.toNat (e8.toInt.toNat - s7.toInt.toNat))), .unset] [(.int p4), (.int p3), (.int p2), (.int (3 : Int32)), (.int e8), (.int s7), (.int (0 : Int32)), (.int c0)]))
    obtain ⟨_, _, ⟨T101, L101, k101, n101⟩, -, X101, ⟨Lc101, hQ101, l101, y101, z101⟩, st101⟩ := Jvm.LawKit.callS X99 hx (y := (⟨"com/example/kontoform/kontoform/WeightedSumsFromRightPinLaw", "term", "(CIIIIIII)I"⟩ : MethodName)) hown (mvT hZ (hw _ (List.mem_of_getElem? (i := 35) rfl))) (mvT hZ (hw _ (List.mem_of_getElem? (i := 36) rfl))) (mvT hZ (hw _ (List.mem_of_getElem? (i := 37) rfl))) (mvT hZ (hw _ (List.mem_of_getElem? (i := 38) rfl))) (by decide) (backOf (W := 0) (rm_tm l Z a0 hw [] zC fmV hG c0 ((0 : Int32)) s7 e8 ((3 : Int32)) p2 p3 p4 h92 n0 Z92 O92  ) hZ (hw _ (List.mem_of_getElem? (i := 38) rfl)) (hw _ (List.mem_of_getElem? (i := 37) rfl)) (Nat.le_of_ble_eq_true rfl) (Nat.le_of_ble_eq_true rfl)) (g := (mkF m 163 #[.val (.int p0), .val (.int p1), .val (.int p2), .val (.int p3), .val (.int p4), .val (.ref b1), .val (.ref b11), .val (.int s7), .val (.int e8), .val (.int (3 : Int32)), .val (.ref b71), .val (.int (frS ([c0, c1, c2, c3] : List Int32) ([p2, p3, p4] : List Int32) s7.toInt.toNat e8.toInt.toNat (e8.toInt.toNat - s7.toInt.toNat))), .unset] [(.int p4), (.int p3), (.int p2), (.int (3 : Int32)), (.int e8), (.int s7), (.int (0 : Int32)), (.int c0)])) rfl (by rw [hml]; rfl) (argsL := [(.int c0), (.int (0 : Int32)), (.int s7), (.int e8), (.int (3 : Int32)), (.int p2), (.int p3), (.int p4)]) (rest := []) (lenOf pd_3 rfl) rfl (by show 2 * 0 + _ ≤ _; exact Nat.le_of_eq rfl) (hb hby at_163) (fun _ _ => ⟨rfl, eq99, (Nat.le_of_ble_eq_true rfl : 4 + 0 ≤ _), (Nat.le_of_ble_eq_true rfl : 15 + 0 ≤ _)⟩)
    dsimp only [Pt.U, Pt.locs, Pt.cells, Pt.slots] at X101 l101 y101 z101 st101 hQ101
    subst l101 y101 z101
    obtain ⟨rfl, Nq101, eq101⟩ := hQ101
    have N101 := Fr.app N99 Nq101
    refine Go.by (fun _ => st101 _) ?_
    show Go p e below P (T101.setTop (mkF m 166 #[.val (.int p0), .val (.int p1), .val (.int p2), .val (.int p3), .val (.int p4), .val (.ref b1), .val (.ref b11), .val (.int s7), .val (.int e8), .val (.int (3 : Int32)), .val (.ref b71), .val (.int (frS ([c0, c1, c2, c3] : List Int32) ([p2, p3, p4] : List Int32) s7.toInt.toNat e8.toInt.toNat (e8.toInt.toNat - s7.toInt.toNat))), .unset] [(.int (tm c0 (0 : Int32) s7 e8 (3 : Int32) p2 p3 p4))]))
    refine Go.by (fun _ => XS.aload X101.here hx rfl (hb hby at_166) rfl rfl) ?_
    show Go p e below P (T101.setTop (mkF m 168 #[.val (.int p0), .val (.int p1), .val (.int p2), .val (.int p3), .val (.int p4), .val (.ref b1), .val (.ref b11), .val (.int s7), .val (.int e8), .val (.int (3 : Int32)), .val (.ref b71), .val (.int (frS ([c0, c1, c2, c3] : List Int32) ([p2, p3, p4] : List Int32) s7.toInt.toNat e8.toInt.toNat (e8.toInt.toNat - s7.toInt.toNat))), .unset] [(.ref b1), (.int (tm c0 (0 : Int32) s7 e8 (3 : Int32) p2 p3 p4))]))
    refine Go.by (fun _ => XS.iconst X101.here hx rfl (hb hby at_168)) ?_
    show Go p e below P (T101.setTop (mkF m 169 #[.val (.int p0), .val (.int p1), .val (.int p2), .val (.int p3), .val (.int p4), .val (.ref b1), .val (.ref b11), .val (.int s7), .val (.int e8), .val (.int (3 : Int32)), .val (.ref b71), .val (.int (frS ([c0, c1, c2, c3] : List Int32) ([p2, p3, p4] : List Int32) s7.toInt.toNat e8.toInt.toNat (e8.toInt.toNat - s7.toInt.toNat))), .unset] [(.int (1 : Int32)), (.ref b1), (.int (tm c0 (0 : Int32) s7 e8 (3 : Int32) p2 p3 p4))]))
    obtain ⟨cl102, Ar102, qc102, Sz102, Ng102, Hs102, Gf102⟩ := id (F93)
    have hin102 : ¬ ((1 : Int32) < 0 ∨ cl102.slots.size ≤ ((1 : Int32)).toNatClampNeg) := inb_of Sz102 ⟨by decide, by decide⟩
    refine Go.by (fun _ => X101.caload hx (j := (1 : Int32)) (v := (.int c1)) (by rw [eq101]; exact Ar102.1) (State.isArrayOf_alike hZ.alike Ar102.2.1) Ar102.2.2 hin102 (Has.at Hs102 hin102 rfl) (g := (mkF m 169 #[.val (.int p0), .val (.int p1), .val (.int p2), .val (.int p3), .val (.int p4), .val (.ref b1), .val (.ref b11), .val (.int s7), .val (.int e8), .val (.int (3 : Int32)), .val (.ref b71), .val (.int (frS ([c0, c1, c2, c3] : List Int32) ([p2, p3, p4] : List Int32) s7.toInt.toNat e8.toInt.toNat (e8.toInt.toNat - s7.toInt.toNat))), .unset] [(.int (1 : Int32)), (.ref b1), (.int (tm c0 (0 : Int32) s7 e8 (3 : Int32) p2 p3 p4))])) rfl rfl (hb hby at_169) _) ?_
    show Go p e below P (T101.setTop (mkF m 170 #[.val (.int p0), .val (.int p1), .val (.int p2), .val (.int p3), .val (.int p4), .val (.ref b1), .val (.ref b11), .val (.int s7), .val (.int e8), .val (.int (3 : Int32)), .val (.ref b71), .val (.int (frS ([c0, c1, c2, c3] : List Int32) ([p2, p3, p4] : List Int32) s7.toInt.toNat e8.toInt.toNat (e8.toInt.toNat - s7.toInt.toNat))), .unset] [(.int c1), (.int (tm c0 (0 : Int32) s7 e8 (3 : Int32) p2 p3 p4))]))
    refine Go.by (fun _ => XS.iconst X101.here hx rfl (hb hby at_170)) ?_
    show Go p e below P (T101.setTop (mkF m 171 #[.val (.int p0), .val (.int p1), .val (.int p2), .val (.int p3), .val (.int p4), .val (.ref b1), .val (.ref b11), .val (.int s7), .val (.int e8), .val (.int (3 : Int32)), .val (.ref b71), .val (.int (frS ([c0, c1, c2, c3] : List Int32) ([p2, p3, p4] : List Int32) s7.toInt.toNat e8.toInt.toNat (e8.toInt.toNat - s7.toInt.toNat))), .unset] [(.int (1 : Int32)), (.int c1), (.int (tm c0 (0 : Int32) s7 e8 (3 : Int32) p2 p3 p4))]))
    refine Go.by (fun _ => XS.iload X101.here hx rfl (hb hby at_171) rfl) ?_
    show Go p e below P (T101.setTop (mkF m 173 #[.val (.int p0), .val (.int p1), .val (.int p2), .val (.int p3), .val (.int p4), .val (.ref b1), .val (.ref b11), .val (.int s7), .val (.int e8), .val (.int (3 : Int32)), .val (.ref b71), .val (.int (frS ([c0, c1, c2, c3] : List Int32) ([p2, p3, p4] : List Int32) s7.toInt.toNat e8.toInt.toNat (e8.toInt.toNat - s7.toInt.toNat))), .unset] [(.int s7), (.int (1 : Int32)), (.int c1), (.int (tm c0 (0 : Int32) s7 e8 (3 : Int32) p2 p3 p4))]))
    refine Go.by (fun _ => XS.iload X101.here hx rfl (hb hby at_173) rfl) ?_
    show Go p e below P (T101.setTop (mkF m 175 #[.val (.int p0), .val (.int p1), .val (.int p2), .val (.int p3), .val (.int p4), .val (.ref b1), .val (.ref b11), .val (.int s7), .val (.int e8), .val (.int (3 : Int32)), .val (.ref b71), .val (.int (frS ([c0, c1, c2, c3] : List Int32) ([p2, p3, p4] : List Int32) s7.toInt.toNat e8.toInt.toNat (e8.toInt.toNat - s7.toInt.toNat))), .unset] [(.int e8), (.int s7), (.int (1 : Int32)), (.int c1), (.int (tm c0 (0 : Int32) s7 e8 (3 : Int32) p2 p3 p4))]))
    refine Go.by (fun _ => XS.iload X101.here hx rfl (hb hby at_175) rfl) ?_
    show Go p e below P (T101.setTop (mkF m 177 #[.val (.int p0), .val (.int p1), .val (.int p2), .val (.int p3), .val (.int p4), .val (.ref b1), .val (.ref b11), .val (.int s7), .val (.int e8), .val (.int (3 : Int32)), .val (.ref b71), .val (.int (frS ([c0, c1, c2, c3] : List Int32) ([p2, p3, p4] : List Int32) s7.toInt.toNat e8.toInt.toNat (e8.toInt.toNat - s7.toInt.toNat))), .unset] [(.int (3 : Int32)), (.int e8), (.int s7), (.int (1 : Int32)), (.int c1), (.int (tm c0 (0 : Int32) s7 e8 (3 : Int32) p2 p3 p4))]))
    refine Go.by (fun _ => XS.iloadN X101.here hx rfl (hb hby at_177) rfl) ?_
    show Go p e below P (T101.setTop (mkF m 178 #[.val (.int p0), .val (.int p1), .val (.int p2), .val (.int p3), .val (.int p4), .val (.ref b1), .val (.ref b11), .val (.int s7), .val (.int e8), .val (.int (3 : Int32)), .val (.ref b71), .val (.int (frS ([c0, c1, c2, c3] : List Int32) ([p2, p3, p4] : List Int32) s7.toInt.toNat e8.toInt.toNat (e8.toInt.toNat - s7.toInt.toNat))), .unset] [(.int p2), (.int (3 : Int32)), (.int e8), (.int s7), (.int (1 : Int32)), (.int c1), (.int (tm c0 (0 : Int32) s7 e8 (3 : Int32) p2 p3 p4))]))
    refine Go.by (fun _ => XS.iloadN X101.here hx rfl (hb hby at_178) rfl) ?_
    show Go p e below P (T101.setTop (mkF m 179 #[.val (.int p0), .val (.int p1), .val (.int p2), .val (.int p3), .val (.int p4), .val (.ref b1), .val (.ref b11), .val (.int s7), .val (.int e8), .val (.int (3 : Int32)), .val (.ref b71), .val (.int (frS ([c0, c1, c2, c3] : List Int32) ([p2, p3, p4] : List Int32) s7.toInt.toNat e8.toInt.toNat (e8.toInt.toNat - s7.toInt.toNat))), .unset] [(.int p3), (.int p2), (.int (3 : Int32)), (.int e8), (.int s7), (.int (1 : Int32)), (.int c1), (.int (tm c0 (0 : Int32) s7 e8 (3 : Int32) p2 p3 p4))]))
    refine Go.by (fun _ => XS.iload X101.here hx rfl (hb hby at_179) rfl) ?_
    show Go p e below P (T101.setTop (mkF m 181 #[.val (.int p0), .val (.int p1), .val (.int p2), .val (.int p3), .val (.int p4), .val (.ref b1), .val (.ref b11), .val (.int s7), .val (.int e8), .val (.int (3 : Int32)), .val (.ref b71), .val (.int (frS ([c0, c1, c2, c3] : List Int32) ([p2, p3, p4] : List Int32) s7.toInt.toNat e8.toInt.toNat (e8.toInt.toNat - s7.toInt.toNat))), .unset] [(.int p4), (.int p3), (.int p2), (.int (3 : Int32)), (.int e8), (.int s7), (.int (1 : Int32)), (.int c1), (.int (tm c0 (0 : Int32) s7 e8 (3 : Int32) p2 p3 p4))]))
    obtain ⟨_, _, ⟨T103, L103, k103, n103⟩, -, X103, ⟨Lc103, hQ103, l103, y103, z103⟩, st103⟩ := Jvm.LawKit.callS X101 hx (y := (⟨"com/example/kontoform/kontoform/WeightedSumsFromRightPinLaw", "term", "(CIIIIIII)I"⟩ : MethodName)) hown (mvT hZ (hw _ (List.mem_of_getElem? (i := 35) rfl))) (mvT hZ (hw _ (List.mem_of_getElem? (i := 36) rfl))) (mvT hZ (hw _ (List.mem_of_getElem? (i := 37) rfl))) (mvT hZ (hw _ (List.mem_of_getElem? (i := 38) rfl))) (by decide) (backOf (W := 1) (rm_tm l Z a0 hw [] zC fmV hG c1 ((1 : Int32)) s7 e8 ((3 : Int32)) p2 p3 p4 h92 n0 Z92 O92  ) hZ (hw _ (List.mem_of_getElem? (i := 38) rfl)) (hw _ (List.mem_of_getElem? (i := 37) rfl)) (Nat.le_of_ble_eq_true rfl) (Nat.le_of_ble_eq_true rfl)) (g := (mkF m 181 #[.val (.int p0), .val (.int p1), .val (.int p2), .val (.int p3), .val (.int p4), .val (.ref b1), .val (.ref b11), .val (.int s7), .val (.int e8), .val (.int (3 : Int32)), .val (.ref b71), .val (.int (frS ([c0, c1, c2, c3] : List Int32) ([p2, p3, p4] : List Int32) s7.toInt.toNat e8.toInt.toNat (e8.toInt.toNat - s7.toInt.toNat))), .unset] [(.int p4), (.int p3), (.int p2), (.int (3 : Int32)), (.int e8), (.int s7), (.int (1 : Int32)), (.int c1), (.int (tm c0 (0 : Int32) s7 e8 (3 : Int32) p2 p3 p4))])) rfl (by rw [hml]; rfl) (argsL := [(.int c1), (.int (1 : Int32)), (.int s7), (.int e8), (.int (3 : Int32)), (.int p2), (.int p3), (.int p4)]) (rest := [(.int (tm c0 (0 : Int32) s7 e8 (3 : Int32) p2 p3 p4))]) (lenOf pd_3 rfl) rfl (by show 2 * 0 + _ ≤ _; exact Nat.le_of_eq rfl) (hb hby at_181) (fun _ _ => ⟨rfl, eq101, (Nat.le_of_ble_eq_true rfl : 4 + 0 ≤ _), (Nat.le_of_ble_eq_true rfl : 15 + 0 ≤ _)⟩)
    dsimp only [Pt.U, Pt.locs, Pt.cells, Pt.slots] at X103 l103 y103 z103 st103 hQ103
    subst l103 y103 z103
    obtain ⟨rfl, Nq103, eq103⟩ := hQ103
    have N103 := Fr.app N101 Nq103
    refine Go.by (fun _ => st103 _) ?_
    show Go p e below P (T103.setTop (mkF m 184 #[.val (.int p0), .val (.int p1), .val (.int p2), .val (.int p3), .val (.int p4), .val (.ref b1), .val (.ref b11), .val (.int s7), .val (.int e8), .val (.int (3 : Int32)), .val (.ref b71), .val (.int (frS ([c0, c1, c2, c3] : List Int32) ([p2, p3, p4] : List Int32) s7.toInt.toNat e8.toInt.toNat (e8.toInt.toNat - s7.toInt.toNat))), .unset] [(.int (tm c1 (1 : Int32) s7 e8 (3 : Int32) p2 p3 p4)), (.int (tm c0 (0 : Int32) s7 e8 (3 : Int32) p2 p3 p4))]))
    refine Go.by (fun _ => XS.iadd X103.here hx rfl (hb hby at_184) rfl) ?_
    show Go p e below P (T103.setTop (mkF m 185 #[.val (.int p0), .val (.int p1), .val (.int p2), .val (.int p3), .val (.int p4), .val (.ref b1), .val (.ref b11), .val (.int s7), .val (.int e8), .val (.int (3 : Int32)), .val (.ref b71), .val (.int (frS ([c0, c1, c2, c3] : List Int32) ([p2, p3, p4] : List Int32) s7.toInt.toNat e8.toInt.toNat (e8.toInt.toNat - s7.toInt.toNat))), .unset] [(.int ((tm c0 (0 : Int32) s7 e8 (3 : Int32) p2 p3 p4) + (tm c1 (1 : Int32) s7 e8 (3 : Int32) p2 p3 p4)))]))
    refine Go.by (fun _ => XS.aload X103.here hx rfl (hb hby at_185) rfl rfl) ?_
    show Go p e below P (T103.setTop (mkF m 187 #[.val (.int p0), .val (.int p1), .val (.int p2), .val (.int p3), .val (.int p4), .val (.ref b1), .val (.ref b11), .val (.int s7), .val (.int e8), .val (.int (3 : Int32)), .val (.ref b71), .val (.int (frS ([c0, c1, c2, c3] : List Int32) ([p2, p3, p4] : List Int32) s7.toInt.toNat e8.toInt.toNat (e8.toInt.toNat - s7.toInt.toNat))), .unset] [(.ref b1), (.int ((tm c0 (0 : Int32) s7 e8 (3 : Int32) p2 p3 p4) + (tm c1 (1 : Int32) s7 e8 (3 : Int32) p2 p3 p4)))]))
    refine Go.by (fun _ => XS.iconst X103.here hx rfl (hb hby at_187)) ?_
    show Go p e below P (T103.setTop (mkF m 188 #[.val (.int p0), .val (.int p1), .val (.int p2), .val (.int p3), .val (.int p4), .val (.ref b1), .val (.ref b11), .val (.int s7), .val (.int e8), .val (.int (3 : Int32)), .val (.ref b71), .val (.int (frS ([c0, c1, c2, c3] : List Int32) ([p2, p3, p4] : List Int32) s7.toInt.toNat e8.toInt.toNat (e8.toInt.toNat - s7.toInt.toNat))), .unset] [(.int (2 : Int32)), (.ref b1), (.int ((tm c0 (0 : Int32) s7 e8 (3 : Int32) p2 p3 p4) + (tm c1 (1 : Int32) s7 e8 (3 : Int32) p2 p3 p4)))]))
    obtain ⟨cl104, Ar104, qc104, Sz104, Ng104, Hs104, Gf104⟩ := id (F93)
    have hin104 : ¬ ((2 : Int32) < 0 ∨ cl104.slots.size ≤ ((2 : Int32)).toNatClampNeg) := inb_of Sz104 ⟨by decide, by decide⟩
    refine Go.by (fun _ => X103.caload hx (j := (2 : Int32)) (v := (.int c2)) (by rw [eq103]; exact Ar104.1) (State.isArrayOf_alike hZ.alike Ar104.2.1) Ar104.2.2 hin104 (Has.at Hs104 hin104 rfl) (g := (mkF m 188 #[.val (.int p0), .val (.int p1), .val (.int p2), .val (.int p3), .val (.int p4), .val (.ref b1), .val (.ref b11), .val (.int s7), .val (.int e8), .val (.int (3 : Int32)), .val (.ref b71), .val (.int (frS ([c0, c1, c2, c3] : List Int32) ([p2, p3, p4] : List Int32) s7.toInt.toNat e8.toInt.toNat (e8.toInt.toNat - s7.toInt.toNat))), .unset] [(.int (2 : Int32)), (.ref b1), (.int ((tm c0 (0 : Int32) s7 e8 (3 : Int32) p2 p3 p4) + (tm c1 (1 : Int32) s7 e8 (3 : Int32) p2 p3 p4)))])) rfl rfl (hb hby at_188) _) ?_
    show Go p e below P (T103.setTop (mkF m 189 #[.val (.int p0), .val (.int p1), .val (.int p2), .val (.int p3), .val (.int p4), .val (.ref b1), .val (.ref b11), .val (.int s7), .val (.int e8), .val (.int (3 : Int32)), .val (.ref b71), .val (.int (frS ([c0, c1, c2, c3] : List Int32) ([p2, p3, p4] : List Int32) s7.toInt.toNat e8.toInt.toNat (e8.toInt.toNat - s7.toInt.toNat))), .unset] [(.int c2), (.int ((tm c0 (0 : Int32) s7 e8 (3 : Int32) p2 p3 p4) + (tm c1 (1 : Int32) s7 e8 (3 : Int32) p2 p3 p4)))]))
    refine Go.by (fun _ => XS.iconst X103.here hx rfl (hb hby at_189)) ?_
    show Go p e below P (T103.setTop (mkF m 190 #[.val (.int p0), .val (.int p1), .val (.int p2), .val (.int p3), .val (.int p4), .val (.ref b1), .val (.ref b11), .val (.int s7), .val (.int e8), .val (.int (3 : Int32)), .val (.ref b71), .val (.int (frS ([c0, c1, c2, c3] : List Int32) ([p2, p3, p4] : List Int32) s7.toInt.toNat e8.toInt.toNat (e8.toInt.toNat - s7.toInt.toNat))), .unset] [(.int (2 : Int32)), (.int c2), (.int ((tm c0 (0 : Int32) s7 e8 (3 : Int32) p2 p3 p4) + (tm c1 (1 : Int32) s7 e8 (3 : Int32) p2 p3 p4)))]))
    refine Go.by (fun _ => XS.iload X103.here hx rfl (hb hby at_190) rfl) ?_
    show Go p e below P (T103.setTop (mkF m 192 #[.val (.int p0), .val (.int p1), .val (.int p2), .val (.int p3), .val (.int p4), .val (.ref b1), .val (.ref b11), .val (.int s7), .val (.int e8), .val (.int (3 : Int32)), .val (.ref b71), .val (.int (frS ([c0, c1, c2, c3] : List Int32) ([p2, p3, p4] : List Int32) s7.toInt.toNat e8.toInt.toNat (e8.toInt.toNat - s7.toInt.toNat))), .unset] [(.int s7), (.int (2 : Int32)), (.int c2), (.int ((tm c0 (0 : Int32) s7 e8 (3 : Int32) p2 p3 p4) + (tm c1 (1 : Int32) s7 e8 (3 : Int32) p2 p3 p4)))]))
    refine Go.by (fun _ => XS.iload X103.here hx rfl (hb hby at_192) rfl) ?_
    show Go p e below P (T103.setTop (mkF m 194 #[.val (.int p0), .val (.int p1), .val (.int p2), .val (.int p3), .val (.int p4), .val (.ref b1), .val (.ref b11), .val (.int s7), .val (.int e8), .val (.int (3 : Int32)), .val (.ref b71), .val (.int (frS ([c0, c1, c2, c3] : List Int32) ([p2, p3, p4] : List Int32) s7.toInt.toNat e8.toInt.toNat (e8.toInt.toNat - s7.toInt.toNat))), .unset] [(.int e8), (.int s7), (.int (2 : Int32)), (.int c2), (.int ((tm c0 (0 : Int32) s7 e8 (3 : Int32) p2 p3 p4) + (tm c1 (1 : Int32) s7 e8 (3 : Int32) p2 p3 p4)))]))
    refine Go.by (fun _ => XS.iload X103.here hx rfl (hb hby at_194) rfl) ?_
    show Go p e below P (T103.setTop (mkF m 196 #[.val (.int p0), .val (.int p1), .val (.int p2), .val (.int p3), .val (.int p4), .val (.ref b1), .val (.ref b11), .val (.int s7), .val (.int e8), .val (.int (3 : Int32)), .val (.ref b71), .val (.int (frS ([c0, c1, c2, c3] : List Int32) ([p2, p3, p4] : List Int32) s7.toInt.toNat e8.toInt.toNat (e8.toInt.toNat - s7.toInt.toNat))), .unset] [(.int (3 : Int32)), (.int e8), (.int s7), (.int (2 : Int32)), (.int c2), (.int ((tm c0 (0 : Int32) s7 e8 (3 : Int32) p2 p3 p4) + (tm c1 (1 : Int32) s7 e8 (3 : Int32) p2 p3 p4)))]))
    refine Go.by (fun _ => XS.iloadN X103.here hx rfl (hb hby at_196) rfl) ?_
    show Go p e below P (T103.setTop (mkF m 197 #[.val (.int p0), .val (.int p1), .val (.int p2), .val (.int p3), .val (.int p4), .val (.ref b1), .val (.ref b11), .val (.int s7), .val (.int e8), .val (.int (3 : Int32)), .val (.ref b71), .val (.int (frS ([c0, c1, c2, c3] : List Int32) ([p2, p3, p4] : List Int32) s7.toInt.toNat e8.toInt.toNat (e8.toInt.toNat - s7.toInt.toNat))), .unset] [(.int p2), (.int (3 : Int32)), (.int e8), (.int s7), (.int (2 : Int32)), (.int c2), (.int ((tm c0 (0 : Int32) s7 e8 (3 : Int32) p2 p3 p4) + (tm c1 (1 : Int32) s7 e8 (3 : Int32) p2 p3 p4)))]))
    refine Go.by (fun _ => XS.iloadN X103.here hx rfl (hb hby at_197) rfl) ?_
    show Go p e below P (T103.setTop (mkF m 198 #[.val (.int p0), .val (.int p1), .val (.int p2), .val (.int p3), .val (.int p4), .val (.ref b1), .val (.ref b11), .val (.int s7), .val (.int e8), .val (.int (3 : Int32)), .val (.ref b71), .val (.int (frS ([c0, c1, c2, c3] : List Int32) ([p2, p3, p4] : List Int32) s7.toInt.toNat e8.toInt.toNat (e8.toInt.toNat - s7.toInt.toNat))), .unset] [(.int p3), (.int p2), (.int (3 : Int32)), (.int e8), (.int s7), (.int (2 : Int32)), (.int c2), (.int ((tm c0 (0 : Int32) s7 e8 (3 : Int32) p2 p3 p4) + (tm c1 (1 : Int32) s7 e8 (3 : Int32) p2 p3 p4)))]))
    refine Go.by (fun _ => XS.iload X103.here hx rfl (hb hby at_198) rfl) ?_
    show Go p e below P (T103.setTop (mkF m 200 #[.val (.int p0), .val (.int p1), .val (.int p2), .val (.int p3), .val (.int p4), .val (.ref b1), .val (.ref b11), .val (.int s7), .val (.int e8), .val (.int (3 : Int32)), .val (.ref b71), .val (.int (frS ([c0, c1, c2, c3] : List Int32) ([p2, p3, p4] : List Int32) s7.toInt.toNat e8.toInt.toNat (e8.toInt.toNat - s7.toInt.toNat))), .unset] [(.int p4), (.int p3), (.int p2), (.int (3 : Int32)), (.int e8), (.int s7), (.int (2 : Int32)), (.int c2), (.int ((tm c0 (0 : Int32) s7 e8 (3 : Int32) p2 p3 p4) + (tm c1 (1 : Int32) s7 e8 (3 : Int32) p2 p3 p4)))]))
    obtain ⟨_, _, ⟨T105, L105, k105, n105⟩, -, X105, ⟨Lc105, hQ105, l105, y105, z105⟩, st105⟩ := Jvm.LawKit.callS X103 hx (y := (⟨"com/example/kontoform/kontoform/WeightedSumsFromRightPinLaw", "term", "(CIIIIIII)I"⟩ : MethodName)) hown (mvT hZ (hw _ (List.mem_of_getElem? (i := 35) rfl))) (mvT hZ (hw _ (List.mem_of_getElem? (i := 36) rfl))) (mvT hZ (hw _ (List.mem_of_getElem? (i := 37) rfl))) (mvT hZ (hw _ (List.mem_of_getElem? (i := 38) rfl))) (by decide) (backOf (W := 1) (rm_tm l Z a0 hw [] zC fmV hG c2 ((2 : Int32)) s7 e8 ((3 : Int32)) p2 p3 p4 h92 n0 Z92 O92  ) hZ (hw _ (List.mem_of_getElem? (i := 38) rfl)) (hw _ (List.mem_of_getElem? (i := 37) rfl)) (Nat.le_of_ble_eq_true rfl) (Nat.le_of_ble_eq_true rfl)) (g := (mkF m 200 #[.val (.int p0), .val (.int p1), .val (.int p2), .val (.int p3), .val (.int p4), .val (.ref b1), .val (.ref b11), .val (.int s7), .val (.int e8), .val (.int (3 : Int32)), .val (.ref b71), .val (.int (frS ([c0, c1, c2, c3] : List Int32) ([p2, p3, p4] : List Int32) s7.toInt.toNat e8.toInt.toNat (e8.toInt.toNat - s7.toInt.toNat))), .unset] [(.int p4), (.int p3), (.int p2), (.int (3 : Int32)), (.int e8), (.int s7), (.int (2 : Int32)), (.int c2), (.int ((tm c0 (0 : Int32) s7 e8 (3 : Int32) p2 p3 p4) + (tm c1 (1 : Int32) s7 e8 (3 : Int32) p2 p3 p4)))])) rfl (by rw [hml]; rfl) (argsL := [(.int c2), (.int (2 : Int32)), (.int s7), (.int e8), (.int (3 : Int32)), (.int p2), (.int p3), (.int p4)]) (rest := [(.int ((tm c0 (0 : Int32) s7 e8 (3 : Int32) p2 p3 p4) + (tm c1 (1 : Int32) s7 e8 (3 : Int32) p2 p3 p4)))]) (lenOf pd_3 rfl) rfl (by show 2 * 0 + _ ≤ _; exact Nat.le_of_eq rfl) (hb hby at_200) (fun _ _ => ⟨rfl, eq103, (Nat.le_of_ble_eq_true rfl : 4 + 0 ≤ _), (Nat.le_of_ble_eq_true rfl : 15 + 0 ≤ _)⟩)
    dsimp only [Pt.U, Pt.locs, Pt.cells, Pt.slots] at X105 l105 y105 z105 st105 hQ105
    subst l105 y105 z105
    obtain ⟨rfl, Nq105, eq105⟩ := hQ105
    have N105 := Fr.app N103 Nq105
    refine Go.by (fun _ => st105 _) ?_
    show Go p e below P (T105.setTop (mkF m 203 #[.val (.int p0), .val (.int p1), .val (.int p2), .val (.int p3), .val (.int p4), .val (.ref b1), .val (.ref b11), .val (.int s7), .val (.int e8), .val (.int (3 : Int32)), .val (.ref b71), .val (.int (frS ([c0, c1, c2, c3] : List Int32) ([p2, p3, p4] : List Int32) s7.toInt.toNat e8.toInt.toNat (e8.toInt.toNat - s7.toInt.toNat))), .unset] [(.int (tm c2 (2 : Int32) s7 e8 (3 : Int32) p2 p3 p4)), (.int ((tm c0 (0 : Int32) s7 e8 (3 : Int32) p2 p3 p4) + (tm c1 (1 : Int32) s7 e8 (3 : Int32) p2 p3 p4)))]))
    refine Go.by (fun _ => XS.iadd X105.here hx rfl (hb hby at_203) rfl) ?_
    show Go p e below P (T105.setTop (mkF m 204 #[.val (.int p0), .val (.int p1), .val (.int p2), .val (.int p3), .val (.int p4), .val (.ref b1), .val (.ref b11), .val (.int s7), .val (.int e8), .val (.int (3 : Int32)), .val (.ref b71), .val (.int (frS ([c0, c1, c2, c3] : List Int32) ([p2, p3, p4] : List Int32) s7.toInt.toNat e8.toInt.toNat (e8.toInt.toNat - s7.toInt.toNat))), .unset] [(.int (((tm c0 (0 : Int32) s7 e8 (3 : Int32) p2 p3 p4) + (tm c1 (1 : Int32) s7 e8 (3 : Int32) p2 p3 p4)) + (tm c2 (2 : Int32) s7 e8 (3 : Int32) p2 p3 p4)))]))
    refine Go.by (fun _ => XS.aload X105.here hx rfl (hb hby at_204) rfl rfl) ?_
    show Go p e below P (T105.setTop (mkF m 206 #[.val (.int p0), .val (.int p1), .val (.int p2), .val (.int p3), .val (.int p4), .val (.ref b1), .val (.ref b11), .val (.int s7), .val (.int e8), .val (.int (3 : Int32)), .val (.ref b71), .val (.int (frS ([c0, c1, c2, c3] : List Int32) ([p2, p3, p4] : List Int32) s7.toInt.toNat e8.toInt.toNat (e8.toInt.toNat - s7.toInt.toNat))), .unset] [(.ref b1), (.int (((tm c0 (0 : Int32) s7 e8 (3 : Int32) p2 p3 p4) + (tm c1 (1 : Int32) s7 e8 (3 : Int32) p2 p3 p4)) + (tm c2 (2 : Int32) s7 e8 (3 : Int32) p2 p3 p4)))]))
    refine Go.by (fun _ => XS.iconst X105.here hx rfl (hb hby at_206)) ?_
    show Go p e below P (T105.setTop (mkF m 207 #[.val (.int p0), .val (.int p1), .val (.int p2), .val (.int p3), .val (.int p4), .val (.ref b1), .val (.ref b11), .val (.int s7), .val (.int e8), .val (.int (3 : Int32)), .val (.ref b71), .val (.int (frS ([c0, c1, c2, c3] : List Int32) ([p2, p3, p4] : List Int32) s7.toInt.toNat e8.toInt.toNat (e8.toInt.toNat - s7.toInt.toNat))), .unset] [(.int (3 : Int32)), (.ref b1), (.int (((tm c0 (0 : Int32) s7 e8 (3 : Int32) p2 p3 p4) + (tm c1 (1 : Int32) s7 e8 (3 : Int32) p2 p3 p4)) + (tm c2 (2 : Int32) s7 e8 (3 : Int32) p2 p3 p4)))]))
    obtain ⟨cl106, Ar106, qc106, Sz106, Ng106, Hs106, Gf106⟩ := id (F93)
    have hin106 : ¬ ((3 : Int32) < 0 ∨ cl106.slots.size ≤ ((3 : Int32)).toNatClampNeg) := inb_of Sz106 ⟨by decide, by decide⟩
    refine Go.by (fun _ => X105.caload hx (j := (3 : Int32)) (v := (.int c3)) (by rw [eq105]; exact Ar106.1) (State.isArrayOf_alike hZ.alike Ar106.2.1) Ar106.2.2 hin106 (Has.at Hs106 hin106 rfl) (g := (mkF m 207 #[.val (.int p0), .val (.int p1), .val (.int p2), .val (.int p3), .val (.int p4), .val (.ref b1), .val (.ref b11), .val (.int s7), .val (.int e8), .val (.int (3 : Int32)), .val (.ref b71), .val (.int (frS ([c0, c1, c2, c3] : List Int32) ([p2, p3, p4] : List Int32) s7.toInt.toNat e8.toInt.toNat (e8.toInt.toNat - s7.toInt.toNat))), .unset] [(.int (3 : Int32)), (.ref b1), (.int (((tm c0 (0 : Int32) s7 e8 (3 : Int32) p2 p3 p4) + (tm c1 (1 : Int32) s7 e8 (3 : Int32) p2 p3 p4)) + (tm c2 (2 : Int32) s7 e8 (3 : Int32) p2 p3 p4)))])) rfl rfl (hb hby at_207) _) ?_
    show Go p e below P (T105.setTop (mkF m 208 #[.val (.int p0), .val (.int p1), .val (.int p2), .val (.int p3), .val (.int p4), .val (.ref b1), .val (.ref b11), .val (.int s7), .val (.int e8), .val (.int (3 : Int32)), .val (.ref b71), .val (.int (frS ([c0, c1, c2, c3] : List Int32) ([p2, p3, p4] : List Int32) s7.toInt.toNat e8.toInt.toNat (e8.toInt.toNat - s7.toInt.toNat))), .unset] [(.int c3), (.int (((tm c0 (0 : Int32) s7 e8 (3 : Int32) p2 p3 p4) + (tm c1 (1 : Int32) s7 e8 (3 : Int32) p2 p3 p4)) + (tm c2 (2 : Int32) s7 e8 (3 : Int32) p2 p3 p4)))]))
    refine Go.by (fun _ => XS.iconst X105.here hx rfl (hb hby at_208)) ?_
    show Go p e below P (T105.setTop (mkF m 209 #[.val (.int p0), .val (.int p1), .val (.int p2), .val (.int p3), .val (.int p4), .val (.ref b1), .val (.ref b11), .val (.int s7), .val (.int e8), .val (.int (3 : Int32)), .val (.ref b71), .val (.int (frS ([c0, c1, c2, c3] : List Int32) ([p2, p3, p4] : List Int32) s7.toInt.toNat e8.toInt.toNat (e8.toInt.toNat - s7.toInt.toNat))), .unset] [(.int (3 : Int32)), (.int c3), (.int (((tm c0 (0 : Int32) s7 e8 (3 : Int32) p2 p3 p4) + (tm c1 (1 : Int32) s7 e8 (3 : Int32) p2 p3 p4)) + (tm c2 (2 : Int32) s7 e8 (3 : Int32) p2 p3 p4)))]))
    refine Go.by (fun _ => XS.iload X105.here hx rfl (hb hby at_209) rfl) ?_
    show Go p e below P (T105.setTop (mkF m 211 #[.val (.int p0), .val (.int p1), .val (.int p2), .val (.int p3), .val (.int p4), .val (.ref b1), .val (.ref b11), .val (.int s7), .val (.int e8), .val (.int (3 : Int32)), .val (.ref b71), .val (.int (frS ([c0, c1, c2, c3] : List Int32) ([p2, p3, p4] : List Int32) s7.toInt.toNat e8.toInt.toNat (e8.toInt.toNat - s7.toInt.toNat))), .unset] [(.int s7), (.int (3 : Int32)), (.int c3), (.int (((tm c0 (0 : Int32) s7 e8 (3 : Int32) p2 p3 p4) + (tm c1 (1 : Int32) s7 e8 (3 : Int32) p2 p3 p4)) + (tm c2 (2 : Int32) s7 e8 (3 : Int32) p2 p3 p4)))]))
    refine Go.by (fun _ => XS.iload X105.here hx rfl (hb hby at_211) rfl) ?_
    show Go p e below P (T105.setTop (mkF m 213 #[.val (.int p0), .val (.int p1), .val (.int p2), .val (.int p3), .val (.int p4), .val (.ref b1), .val (.ref b11), .val (.int s7), .val (.int e8), .val (.int (3 : Int32)), .val (.ref b71), .val (.int (frS ([c0, c1, c2, c3] : List Int32) ([p2, p3, p4] : List Int32) s7.toInt.toNat e8.toInt.toNat (e8.toInt.toNat - s7.toInt.toNat))), .unset] [(.int e8), (.int s7), (.int (3 : Int32)), (.int c3), (.int (((tm c0 (0 : Int32) s7 e8 (3 : Int32) p2 p3 p4) + (tm c1 (1 : Int32) s7 e8 (3 : Int32) p2 p3 p4)) + (tm c2 (2 : Int32) s7 e8 (3 : Int32) p2 p3 p4)))]))
    refine Go.by (fun _ => XS.iload X105.here hx rfl (hb hby at_213) rfl) ?_
    show Go p e below P (T105.setTop (mkF m 215 #[.val (.int p0), .val (.int p1), .val (.int p2), .val (.int p3), .val (.int p4), .val (.ref b1), .val (.ref b11), .val (.int s7), .val (.int e8), .val (.int (3 : Int32)), .val (.ref b71), .val (.int (frS ([c0, c1, c2, c3] : List Int32) ([p2, p3, p4] : List Int32) s7.toInt.toNat e8.toInt.toNat (e8.toInt.toNat - s7.toInt.toNat))), .unset] [(.int (3 : Int32)), (.int e8), (.int s7), (.int (3 : Int32)), (.int c3), (.int (((tm c0 (0 : Int32) s7 e8 (3 : Int32) p2 p3 p4) + (tm c1 (1 : Int32) s7 e8 (3 : Int32) p2 p3 p4)) + (tm c2 (2 : Int32) s7 e8 (3 : Int32) p2 p3 p4)))]))
    refine Go.by (fun _ => XS.iloadN X105.here hx rfl (hb hby at_215) rfl) ?_
    show Go p e below P (T105.setTop (mkF m 216 #[.val (.int p0), .val (.int p1), .val (.int p2), .val (.int p3), .val (.int p4), .val (.ref b1), .val (.ref b11), .val (.int s7), .val (.int e8), .val (.int (3 : Int32)), .val (.ref b71), .val (.int (frS ([c0, c1, c2, c3] : List Int32) ([p2, p3, p4] : List Int32) s7.toInt.toNat e8.toInt.toNat (e8.toInt.toNat - s7.toInt.toNat))), .unset] [(.int p2), (.int (3 : Int32)), (.int e8), (.int s7), (.int (3 : Int32)), (.int c3), (.int (((tm c0 (0 : Int32) s7 e8 (3 : Int32) p2 p3 p4) + (tm c1 (1 : Int32) s7 e8 (3 : Int32) p2 p3 p4)) + (tm c2 (2 : Int32) s7 e8 (3 : Int32) p2 p3 p4)))]))
    refine Go.by (fun _ => XS.iloadN X105.here hx rfl (hb hby at_216) rfl) ?_
    show Go p e below P (T105.setTop (mkF m 217 #[.val (.int p0), .val (.int p1), .val (.int p2), .val (.int p3), .val (.int p4), .val (.ref b1), .val (.ref b11), .val (.int s7), .val (.int e8), .val (.int (3 : Int32)), .val (.ref b71), .val (.int (frS ([c0, c1, c2, c3] : List Int32) ([p2, p3, p4] : List Int32) s7.toInt.toNat e8.toInt.toNat (e8.toInt.toNat - s7.toInt.toNat))), .unset] [(.int p3), (.int p2), (.int (3 : Int32)), (.int e8), (.int s7), (.int (3 : Int32)), (.int c3), (.int (((tm c0 (0 : Int32) s7 e8 (3 : Int32) p2 p3 p4) + (tm c1 (1 : Int32) s7 e8 (3 : Int32) p2 p3 p4)) + (tm c2 (2 : Int32) s7 e8 (3 : Int32) p2 p3 p4)))]))
    refine Go.by (fun _ => XS.iload X105.here hx rfl (hb hby at_217) rfl) ?_
    show Go p e below P (T105.setTop (mkF m 219 #[.val (.int p0), .val (.int p1), .val (.int p2), .val (.int p3), .val (.int p4), .val (.ref b1), .val (.ref b11), .val (.int s7), .val (.int e8), .val (.int (3 : Int32)), .val (.ref b71), .val (.int (frS ([c0, c1, c2, c3] : List Int32) ([p2, p3, p4] : List Int32) s7.toInt.toNat e8.toInt.toNat (e8.toInt.toNat - s7.toInt.toNat))), .unset] [(.int p4), (.int p3), (.int p2), (.int (3 : Int32)), (.int e8), (.int s7), (.int (3 : Int32)), (.int c3), (.int (((tm c0 (0 : Int32) s7 e8 (3 : Int32) p2 p3 p4) + (tm c1 (1 : Int32) s7 e8 (3 : Int32) p2 p3 p4)) + (tm c2 (2 : Int32) s7 e8 (3 : Int32) p2 p3 p4)))]))
    obtain ⟨_, _, ⟨T107, L107, k107, n107⟩, -, X107, ⟨Lc107, hQ107, l107, y107, z107⟩, st107⟩ := Jvm.LawKit.callS X105 hx (y := (⟨"com/example/kontoform/kontoform/WeightedSumsFromRightPinLaw", "term", "(CIIIIIII)I"⟩ : MethodName)) hown (mvT hZ (hw _ (List.mem_of_getElem? (i := 35) rfl))) (mvT hZ (hw _ (List.mem_of_getElem? (i := 36) rfl))) (mvT hZ (hw _ (List.mem_of_getElem? (i := 37) rfl))) (mvT hZ (hw _ (List.mem_of_getElem? (i := 38) rfl))) (by decide) (backOf (W := 1) (rm_tm l Z a0 hw [] zC fmV hG c3 ((3 : Int32)) s7 e8 ((3 : Int32)) p2 p3 p4 h92 n0 Z92 O92  ) hZ (hw _ (List.mem_of_getElem? (i := 38) rfl)) (hw _ (List.mem_of_getElem? (i := 37) rfl)) (Nat.le_of_ble_eq_true rfl) (Nat.le_of_ble_eq_true rfl)) (g := (mkF m 219 #[.val (.int p0), .val (.int p1), .val (.int p2), .val (.int p3), .val (.int p4), .val (.ref b1), .val (.ref b11), .val (.int s7), .val (.int e8), .val (.int (3 : Int32)), .val (.ref b71), .val (.int (frS ([c0, c1, c2, c3] : List Int32) ([p2, p3, p4] : List Int32) s7.toInt.toNat e8.toInt.toNat (e8.toInt.toNat - s7.toInt.toNat))), .unset] [(.int p4), (.int p3), (.int p2), (.int (3 : Int32)), (.int e8), (.int s7), (.int (3 : Int32)), (.int c3), (.int (((tm c0 (0 : Int32) s7 e8 (3 : Int32) p2 p3 p4) + (tm c1 (1 : Int32) s7 e8 (3 : Int32) p2 p3 p4)) + (tm c2 (2 : Int32) s7 e8 (3 : Int32) p2 p3 p4)))])) rfl (by rw [hml]; rfl) (argsL := [(.int c3), (.int (3 : Int32)), (.int s7), (.int e8), (.int (3 : Int32)), (.int p2), (.int p3), (.int p4)]) (rest := [(.int (((tm c0 (0 : Int32) s7 e8 (3 : Int32) p2 p3 p4) + (tm c1 (1 : Int32) s7 e8 (3 : Int32) p2 p3 p4)) + (tm c2 (2 : Int32) s7 e8 (3 : Int32) p2 p3 p4)))]) (lenOf pd_3 rfl) rfl (by show 2 * 0 + _ ≤ _; exact Nat.le_of_eq rfl) (hb hby at_219) (fun _ _ => ⟨rfl, eq105, (Nat.le_of_ble_eq_true rfl : 4 + 0 ≤ _), (Nat.le_of_ble_eq_true rfl : 15 + 0 ≤ _)⟩)
    dsimp only [Pt.U, Pt.locs, Pt.cells, Pt.slots] at X107 l107 y107 z107 st107 hQ107
    subst l107 y107 z107
    obtain ⟨rfl, Nq107, eq107⟩ := hQ107
    have N107 := Fr.app N105 Nq107
    refine Go.by (fun _ => st107 _) ?_
    show Go p e below P (T107.setTop (mkF m 222 #[.val (.int p0), .val (.int p1), .val (.int p2), .val (.int p3), .val (.int p4), .val (.ref b1), .val (.ref b11), .val (.int s7), .val (.int e8), .val (.int (3 : Int32)), .val (.ref b71), .val (.int (frS ([c0, c1, c2, c3] : List Int32) ([p2, p3, p4] : List Int32) s7.toInt.toNat e8.toInt.toNat (e8.toInt.toNat - s7.toInt.toNat))), .unset] [(.int (tm c3 (3 : Int32) s7 e8 (3 : Int32) p2 p3 p4)), (.int (((tm c0 (0 : Int32) s7 e8 (3 : Int32) p2 p3 p4) + (tm c1 (1 : Int32) s7 e8 (3 : Int32) p2 p3 p4)) + (tm c2 (2 : Int32) s7 e8 (3 : Int32) p2 p3 p4)))]))
    refine Go.by (fun _ => XS.iadd X107.here hx rfl (hb hby at_222) rfl) ?_
    show Go p e below P (T107.setTop (mkF m 223 #[.val (.int p0), .val (.int p1), .val (.int p2), .val (.int p3), .val (.int p4), .val (.ref b1), .val (.ref b11), .val (.int s7), .val (.int e8), .val (.int (3 : Int32)), .val (.ref b71), .val (.int (frS ([c0, c1, c2, c3] : List Int32) ([p2, p3, p4] : List Int32) s7.toInt.toNat e8.toInt.toNat (e8.toInt.toNat - s7.toInt.toNat))), .unset] [(.int ((((tm c0 (0 : Int32) s7 e8 (3 : Int32) p2 p3 p4) + (tm c1 (1 : Int32) s7 e8 (3 : Int32) p2 p3 p4)) + (tm c2 (2 : Int32) s7 e8 (3 : Int32) p2 p3 p4)) + (tm c3 (3 : Int32) s7 e8 (3 : Int32) p2 p3 p4)))]))
    refine Go.by (fun _ => XS.istore X107.here hx rfl (hb hby at_223) rfl (l' := #[.val (.int p0), .val (.int p1), .val (.int p2), .val (.int p3), .val (.int p4), .val (.ref b1), .val (.ref b11), .val (.int s7), .val (.int e8), .val (.int (3 : Int32)), .val (.ref b71), .val (.int (frS ([c0, c1, c2, c3] : List Int32) ([p2, p3, p4] : List Int32) s7.toInt.toNat e8.toInt.toNat (e8.toInt.toNat - s7.toInt.toNat))), .val (.int ((((tm c0 (0 : Int32) s7 e8 (3 : Int32) p2 p3 p4) + (tm c1 (1 : Int32) s7 e8 (3 : Int32) p2 p3 p4)) + (tm c2 (2 : Int32) s7 e8 (3 : Int32) p2 p3 p4)) + (tm c3 (3 : Int32) s7 e8 (3 : Int32) p2 p3 p4)))]) rfl) ?_
    show Go p e below P (T107.setTop (mkF m 225 #[.val (.int p0), .val (.int p1), .val (.int p2), .val (.int p3), .val (.int p4), .val (.ref b1), .val (.ref b11), .val (.int s7), .val (.int e8), .val (.int (3 : Int32)), .val (.ref b71), .val (.int (frS ([c0, c1, c2, c3] : List Int32) ([p2, p3, p4] : List Int32) s7.toInt.toNat e8.toInt.toNat (e8.toInt.toNat - s7.toInt.toNat))), .val (.int ((((tm c0 (0 : Int32) s7 e8 (3 : Int32) p2 p3 p4) + (tm c1 (1 : Int32) s7 e8 (3 : Int32) p2 p3 p4)) + (tm c2 (2 : Int32) s7 e8 (3 : Int32) p2 p3 p4)) + (tm c3 (3 : Int32) s7 e8 (3 : Int32) p2 p3 p4)))] []))
    refine Go.by (fun _ => XS.iload X107.here hx rfl (hb hby at_225) rfl) ?_
    show Go p e below P (T107.setTop (mkF m 227 #[.val (.int p0), .val (.int p1), .val (.int p2), .val (.int p3), .val (.int p4), .val (.ref b1), .val (.ref b11), .val (.int s7), .val (.int e8), .val (.int (3 : Int32)), .val (.ref b71), .val (.int (frS ([c0, c1, c2, c3] : List Int32) ([p2, p3, p4] : List Int32) s7.toInt.toNat e8.toInt.toNat (e8.toInt.toNat - s7.toInt.toNat))), .val (.int ((((tm c0 (0 : Int32) s7 e8 (3 : Int32) p2 p3 p4) + (tm c1 (1 : Int32) s7 e8 (3 : Int32) p2 p3 p4)) + (tm c2 (2 : Int32) s7 e8 (3 : Int32) p2 p3 p4)) + (tm c3 (3 : Int32) s7 e8 (3 : Int32) p2 p3 p4)))] [(.int (frS ([c0, c1, c2, c3] : List Int32) ([p2, p3, p4] : List Int32) s7.toInt.toNat e8.toInt.toNat (e8.toInt.toNat - s7.toInt.toNat)))]))
    refine Go.by (fun _ => XS.iload X107.here hx rfl (hb hby at_227) rfl) ?_
    show Go p e below P (T107.setTop (mkF m 229 #[.val (.int p0), .val (.int p1), .val (.int p2), .val (.int p3), .val (.int p4), .val (.ref b1), .val (.ref b11), .val (.int s7), .val (.int e8), .val (.int (3 : Int32)), .val (.ref b71), .val (.int (frS ([c0, c1, c2, c3] : List Int32) ([p2, p3, p4] : List Int32) s7.toInt.toNat e8.toInt.toNat (e8.toInt.toNat - s7.toInt.toNat))), .val (.int ((((tm c0 (0 : Int32) s7 e8 (3 : Int32) p2 p3 p4) + (tm c1 (1 : Int32) s7 e8 (3 : Int32) p2 p3 p4)) + (tm c2 (2 : Int32) s7 e8 (3 : Int32) p2 p3 p4)) + (tm c3 (3 : Int32) s7 e8 (3 : Int32) p2 p3 p4)))] [(.int ((((tm c0 (0 : Int32) s7 e8 (3 : Int32) p2 p3 p4) + (tm c1 (1 : Int32) s7 e8 (3 : Int32) p2 p3 p4)) + (tm c2 (2 : Int32) s7 e8 (3 : Int32) p2 p3 p4)) + (tm c3 (3 : Int32) s7 e8 (3 : Int32) p2 p3 p4))), (.int (frS ([c0, c1, c2, c3] : List Int32) ([p2, p3, p4] : List Int32) s7.toInt.toNat e8.toInt.toNat (e8.toInt.toNat - s7.toInt.toNat)))]))
    have hc229 : (frS ([c0, c1, c2, c3] : List Int32) ([p2, p3, p4] : List Int32) s7.toInt.toNat e8.toInt.toNat (e8.toInt.toNat - s7.toInt.toNat)) = ((((tm c0 (0 : Int32) s7 e8 (3 : Int32) p2 p3 p4) + (tm c1 (1 : Int32) s7 e8 (3 : Int32) p2 p3 p4)) + (tm c2 (2 : Int32) s7 e8 (3 : Int32) p2 p3 p4)) + (tm c3 (3 : Int32) s7 e8 (3 : Int32) p2 p3 p4)) := own_fin3 c0 c1 c2 c3 p2 p3 p4 s7 e8 s7.toInt.toNat e8.toInt.toNat (by omega) (by omega) (by omega) (by omega)
    refine Go.by (fun _ => XS.icmpNo X107.here hx rfl (hb hby at_229) rfl (teq hc229).2) ?_
    show Go p e below P (T107.setTop (mkF m 232 #[.val (.int p0), .val (.int p1), .val (.int p2), .val (.int p3), .val (.int p4), .val (.ref b1), .val (.ref b11), .val (.int s7), .val (.int e8), .val (.int (3 : Int32)), .val (.ref b71), .val (.int (frS ([c0, c1, c2, c3] : List Int32) ([p2, p3, p4] : List Int32) s7.toInt.toNat e8.toInt.toNat (e8.toInt.toNat - s7.toInt.toNat))), .val (.int ((((tm c0 (0 : Int32) s7 e8 (3 : Int32) p2 p3 p4) + (tm c1 (1 : Int32) s7 e8 (3 : Int32) p2 p3 p4)) + (tm c2 (2 : Int32) s7 e8 (3 : Int32) p2 p3 p4)) + (tm c3 (3 : Int32) s7 e8 (3 : Int32) p2 p3 p4)))] []))
    refine Go.by (fun _ => XS.iconst X107.here hx rfl (hb hby at_232)) ?_
    show Go p e below P (T107.setTop (mkF m 233 #[.val (.int p0), .val (.int p1), .val (.int p2), .val (.int p3), .val (.int p4), .val (.ref b1), .val (.ref b11), .val (.int s7), .val (.int e8), .val (.int (3 : Int32)), .val (.ref b71), .val (.int (frS ([c0, c1, c2, c3] : List Int32) ([p2, p3, p4] : List Int32) s7.toInt.toNat e8.toInt.toNat (e8.toInt.toNat - s7.toInt.toNat))), .val (.int ((((tm c0 (0 : Int32) s7 e8 (3 : Int32) p2 p3 p4) + (tm c1 (1 : Int32) s7 e8 (3 : Int32) p2 p3 p4)) + (tm c2 (2 : Int32) s7 e8 (3 : Int32) p2 p3 p4)) + (tm c3 (3 : Int32) s7 e8 (3 : Int32) p2 p3 p4)))] [(.int (1 : Int32))]))
    refine Go.by (fun _ => XS.goto X107.here hx rfl (pc0 := 233) (pc' := 237) rfl (hb hby at_233) (by decide) (by decide)) ?_
    show Go p e below P (T107.setTop (mkF m 237 #[.val (.int p0), .val (.int p1), .val (.int p2), .val (.int p3), .val (.int p4), .val (.ref b1), .val (.ref b11), .val (.int s7), .val (.int e8), .val (.int (3 : Int32)), .val (.ref b71), .val (.int (frS ([c0, c1, c2, c3] : List Int32) ([p2, p3, p4] : List Int32) s7.toInt.toNat e8.toInt.toNat (e8.toInt.toNat - s7.toInt.toNat))), .val (.int ((((tm c0 (0 : Int32) s7 e8 (3 : Int32) p2 p3 p4) + (tm c1 (1 : Int32) s7 e8 (3 : Int32) p2 p3 p4)) + (tm c2 (2 : Int32) s7 e8 (3 : Int32) p2 p3 p4)) + (tm c3 (3 : Int32) s7 e8 (3 : Int32) p2 p3 p4)))] [(.int (1 : Int32))]))
    subst hP
    refine Go.retZ X107 hx (t := .boolean) Bd.returns (by simp) hlk (hb hby at_237) (Nat.le_of_ble_eq_true rfl) (Nat.le_of_ble_eq_true rfl) ?_
    rw [eq107]
    exact ⟨rfl, N107⟩
set_option maxRecDepth 65536 in
set_option maxHeartbeats 40000000 in
theorem comes_1 {Post : Tables → Env → Array Value → State → Outcome → State → Prop} (hpost : ∀ tb e args s v u, (limb_1_1.after args s (.returned v) u = true ∧ limb_1_2.after args s (.returned v) u = true ∧ True) → FrameEnd s (.returned v) u (Jvm.fieldLocs frame_1_writes args s ++ Jvm.arrayLocs frame_1_arrays args s ++ Jvm.staticLocs frame_1_statics s) 16 128 → Post tb e args s (.returned v) u) :
    ArmFor flags0 classFile x code maxLocals ret World_1 tables_1 room_1 Calls_1 rest_1 Pre_1 Post := by
  intro l hfl _ _ p e ha hc hk s m args below hf hA hF happ hP
  obtain ⟨hcalls, hrest, hpre⟩ := hP
  obtain ⟨-, -, -, hnamed, -, -, -, hat⟩ := (Spec.applies_iff hf).mp happ
  obtain ⟨hg, hn⟩ := and_e (Cond.before_iff.mp (show (Jvm.Cond.and given_1 narrow_1).before args s = true from hpre))
  obtain ⟨hg0, hr0⟩ := and_e hg
  obtain ⟨hg1, hr1⟩ := and_e hr0
  obtain ⟨hg2, hr2⟩ := and_e hr1
  obtain ⟨hg3, hr3⟩ := and_e hr2
  obtain ⟨hg4, hr4⟩ := and_e hr3
  obtain ⟨w0, w1, w2, w3, w4, rfl⟩ : ∃ w0 w1 w2 w3 w4 : Value, args = #[w0, w1, w2, w3, w4] := by
    have hs : args.size = 5 := by simpa [Cond.value, given_1] using hg0
    obtain ⟨L⟩ := args
    match L, hs with
    | [w0, w1, w2, w3, w4], _ => exact ⟨w0, w1, w2, w3, w4, rfl⟩
  have hw := fun d (hd : d ∈ tables_1) => atoms_spec (ws := Jvm.Cond.code x code maxLocals ret :: tables_1) hat d (List.mem_cons_of_mem _ hd)
  have hfit : Fit s := fun {y c} hc i hi => by
    obtain ⟨ha, rfl⟩ := Array.getElem?_eq_some_iff.mp hc
    have q := List.all_eq_true.mp ((Array.all_eq_true_iff_forall_mem.mp hF) _ (Array.getElem_mem ha)) i (List.mem_range.mpr hi)
    simpa [Array.getElem?_eq_getElem hi] using q
  obtain ⟨hsets, hown0⟩ := atoms_of _ (rest_1_c_eq ▸ (show rest_1_c.before _ s = true from hrest))
  have hr0 := Cond.before_iff.mp hown0
  obtain ⟨i0, ei0⟩ := is_v hg1
  obtain rfl : w0 = (.int i0) := Option.some.inj ei0
  obtain ⟨i1, ei1⟩ := is_v hg2
  obtain rfl : w1 = (.int i1) := Option.some.inj ei1
  obtain ⟨i2, ei2⟩ := is_v hg3
  obtain rfl : w2 = (.int i2) := Option.some.inj ei2
  obtain ⟨i3, ei3⟩ := is_v hg4
  obtain rfl : w3 = (.int i3) := Option.some.inj ei3
  obtain ⟨i4, ei4⟩ := is_v hr4
  obtain rfl : w4 = (.int i4) := Option.some.inj ei4
  obtain ⟨zC, ezC⟩ := is_v (Cond.before_iff.mp (hsets _ (List.mem_of_getElem? (i := 1) rfl)))
  have nzC := not_v (Cond.before_iff.mp (hsets _ (List.mem_of_getElem? (i := 2) rfl)))
  obtain ⟨fmV, efm, rfm⟩ := isR_v (Cond.before_iff.mp (hsets _ (List.mem_of_getElem? (i := 8) rfl)))
  have hG : Glob s zC fmV := ⟨Sta.start ezC (Or.inl (hsets _ (List.mem_of_getElem? (i := 0) rfl))), Sta.start efm (Or.inl (hsets _ (List.mem_of_getElem? (i := 7) rfl))), gotF (Cond.eq_ints ezC (Term.int_eval (0))) nzC, rfm⟩
  obtain ⟨n, o, h1, h2, h3, _, L, rfl, ⟨rfl, N⟩, hq⟩ := rm_law l s _ hw tables_1 zC fmV hG i0 i1 i2 i3 i4  s.heap s.heap.size (Nat.le_refl _) (Old.start s)  p e ha hc hk s m _ below hf ((Spec.applies_iff_loose hf).mp happ).1 ⟨rfl, State.Warmed39.refl s, rfl⟩ trivial
  refine ⟨n, _, h1, h2, h3, hpost _ _ _ _ _ _ ⟨Cond.after_iff.mpr rfl, Cond.after_iff.mpr (eq_i res_at (Term.int_eval (1)) rfl), trivial⟩ ⟨hq.1, hq.2.1, (hq.2.2.sift fun y hy => Or.inr (N y hy)).mono (Nat.le_of_ble_eq_true rfl) (Nat.le_of_ble_eq_true rfl)⟩⟩
theorem main_1_1 : Claimed_1_1 := comes_1 fun _ _ _ _ _ _ h hF => ⟨h.1, hF⟩
theorem main_1_2 : Claimed_1_2 := comes_1 fun _ _ _ _ _ _ h hF => ⟨h.2.1, hF⟩
end Jvm.Pilot.@@N@@
namespace Jvm.Pilot.@@N@@
open Jvm Jvm.ClassFile Sem Op Lib Jvm.Free Jvm.Stand Jvm.Pilot.@@N@@.Jvm.D
/-! MADE BY PROGRAM (witnessworld.py) out of the Statement's table words and the real class files: 20 classes; the members and pool entries that the words name. The judged class is class 1, her method 1. -/
namespace start1
open Jvm.ClassFile
def u (s : String) : CpInfo := .utf8 (stringToUtf16 s)
/-- a pool by its gaps: so many unusable entries, then the entry; so many at the end -/
def gap : Nat → List CpInfo → List CpInfo
  | 0, r => r
  | n + 1, r => .unusable :: gap n r
def poolList (es : List (Nat × CpInfo)) (last : Nat) : List CpInfo := es.foldr (fun e r => gap e.1 (e.2 :: r)) (gap last [])
def pool (es : List (Nat × CpInfo)) (last : Nat) : Array CpInfo := ⟨poolList es last⟩
def fileOf (pool : Array CpInfo) (this : Nat) (attrs : Array Attribute := #[]) (ms : Array MethodInfo := #[]) (fl : Nat := 33) (sup : Nat := 0) (ifs : Array Nat := #[]) (fds : Array FieldInfo := #[]) : ClassFile where
  minorVersion := 0
  majorVersion := 65
  constantPool := pool
  accessFlags := fl
  thisClass := this
  superClass := sup
  interfaces := ifs
  fields := fds
  methods := ms
  attributes := attrs
def plain (name : String) (sup : Option ClassId) : Class where
  name := name
  kind := .ordinary
  loader := none
  accessFlags := 33
  super := sup
  interfaces := #[]
  cf := none
  fields := #[]
  methods := #[]
  instanceTypes := #[]
  staticTypes := #[]
  resolved := #[]
  callSites := []
  init := .initialized
  statics := none
  mirror := none

def pool0 : Array CpInfo := pool [(5, u "<init>"), (0, u "()V"), (1, .class_ 10), (1, u "java/lang/Object")] 113

def k0c0 : Code := { maxStack := 0, maxLocals := 1, code := object_method_1_code, exceptionTable := #[], attributes := #[] }
def k0m0 : Method := { name := "<init>", desc := "()V", sig := { parameters := [], returnType := none }, accessFlags := 1, code := some k0c0 }
/-- java/lang/Object -/
def k0 : Class := { plain "java/lang/Object" none with
  accessFlags := 33
  interfaces := #[]
  cf := some (fileOf pool0 8 #[] #[{ accessFlags := 1, nameIndex := 5, descriptorIndex := 6, attributes := #[] }] 33 0 #[] #[])
  fields := #[]
  methods := #[k0m0]
  instanceTypes := #[]
  staticTypes := #[]
  resolved := Array.replicate 124 none
  statics := none }

def pool1 : Array CpInfo := pool [(2, .class_ 4), (1, u "java/lang/Object"), (0, u "<init>"), (0, u "()V"), (0, .class_ 8), (0, u "java/lang/String"), (0, .methodref 7 10), (0, .nameAndType 5 11), (0, u "([C)V"), (0, .methodref 13 14), (0, .class_ 15), (0, .nameAndType 16 17), (0, u "com/example/kontoform/kontoform/WeightedSums"), (0, u "fromRight"), (0, u "(Ljava/lang/String;II[I)I"), (0, .methodref 19 20), (0, .class_ 21), (0, .nameAndType 22 23), (0, u "com/example/kontoform/kontoform/WeightedSumsFromRightPinLaw"), (0, u "term"), (0, u "(CIIIIIII)I"), (2, u "law"), (0, u "(IIIII)Z")] 7

def k1m0 : Method := { name := "<init>", desc := "()V", sig := { parameters := [], returnType := none }, accessFlags := 1, code := none }
def k1c1 : Code := { maxStack := 9, maxLocals := 13, code := code, exceptionTable := #[], attributes := #[] }
def k1m1 : Method := { name := "law", desc := "(IIIII)Z", sig := { parameters := [.int, .int, .int, .int, .int], returnType := some .boolean }, accessFlags := 9, code := some k1c1 }
def k1c2 : Code := { maxStack := 3, maxLocals := 10, code := method_3_code, exceptionTable := #[], attributes := #[] }
def k1m2 : Method := { name := "term", desc := "(CIIIIIII)I", sig := { parameters := [.char, .int, .int, .int, .int, .int, .int, .int], returnType := some .int }, accessFlags := 10, code := some k1c2 }
/-- com/example/kontoform/kontoform/WeightedSumsFromRightPinLaw -/
def k1 : Class := { plain "com/example/kontoform/kontoform/WeightedSumsFromRightPinLaw" (some 0) with
  accessFlags := 49
  interfaces := #[]
  cf := some (fileOf pool1 19 #[] #[{ accessFlags := 1, nameIndex := 5, descriptorIndex := 6, attributes := #[] }, { accessFlags := 9, nameIndex := 26, descriptorIndex := 27, attributes := #[] }, { accessFlags := 10, nameIndex := 22, descriptorIndex := 23, attributes := #[] }] 49 2 #[] #[])
  fields := #[]
  methods := #[k1m0, k1m1, k1m2]
  instanceTypes := #[]
  staticTypes := #[]
  resolved := Array.replicate 35 none
  statics := none }

def pool2 : Array CpInfo := pool [(1, .class_ 2), (0, u "java/io/Serializable"), (0, .class_ 4), (0, u "java/lang/Object")] 2

/-- java/io/Serializable -/
def k2 : Class := { plain "java/io/Serializable" (some 0) with
  accessFlags := 1537
  interfaces := #[]
  cf := some (fileOf pool2 1 #[] #[] 1537 3 #[] #[])
  fields := #[]
  methods := #[]
  instanceTypes := #[]
  staticTypes := #[]
  resolved := Array.replicate 7 none
  statics := none }

def pool3 : Array CpInfo := pool [(1, .class_ 2), (0, u "java/lang/Comparable"), (0, .class_ 4), (0, u "java/lang/Object")] 7

/-- java/lang/Comparable -/
def k3 : Class := { plain "java/lang/Comparable" (some 0) with
  accessFlags := 1537
  interfaces := #[]
  cf := some (fileOf pool3 1 #[] #[] 1537 3 #[] #[])
  fields := #[]
  methods := #[]
  instanceTypes := #[]
  staticTypes := #[]
  resolved := Array.replicate 12 none
  statics := none }

def pool4 : Array CpInfo := pool [(2, .class_ 4), (1, u "java/lang/CharSequence"), (42, .class_ 48), (0, u "java/lang/CharSequence$1CodePointIterator"), (10, .class_ 60), (0, u "java/lang/CharSequence$1CharIterator"), (5, .class_ 67), (0, u "java/lang/Object")] 63

/-- java/lang/CharSequence -/
def k4 : Class := { plain "java/lang/CharSequence" (some 0) with
  accessFlags := 1537
  interfaces := #[]
  cf := some (fileOf pool4 2 #[.nestMembers #[47, 59]] #[] 1537 66 #[] #[])
  fields := #[]
  methods := #[]
  instanceTypes := #[]
  staticTypes := #[]
  resolved := Array.replicate 131 none
  statics := none }

def pool5 : Array CpInfo := pool [(1, .class_ 2), (0, u "java/lang/constant/Constable"), (0, .class_ 4), (0, u "java/lang/Object")] 6

/-- java/lang/constant/Constable -/
def k5 : Class := { plain "java/lang/constant/Constable" (some 0) with
  accessFlags := 1537
  interfaces := #[]
  cf := some (fileOf pool5 1 #[] #[] 1537 3 #[] #[])
  fields := #[]
  methods := #[]
  instanceTypes := #[]
  staticTypes := #[]
  resolved := Array.replicate 11 none
  statics := none }

def pool6 : Array CpInfo := pool [(1, .class_ 2), (0, u "java/lang/constant/ConstantDesc"), (0, .class_ 4), (0, u "java/lang/Object")] 32

/-- java/lang/constant/ConstantDesc -/
def k6 : Class := { plain "java/lang/constant/ConstantDesc" (some 0) with
  accessFlags := 1537
  interfaces := #[]
  cf := some (fileOf pool6 1 #[] #[] 1537 3 #[] #[])
  fields := #[]
  methods := #[]
  instanceTypes := #[]
  staticTypes := #[]
  resolved := Array.replicate 37 none
  statics := none }

def pool7 : Array CpInfo := pool [(1, .methodref 2 3), (0, .class_ 4), (0, .nameAndType 5 6), (0, u "java/lang/Object"), (0, u "<init>"), (0, u "()V"), (2, .fieldref 10 11), (0, .class_ 12), (0, .nameAndType 13 14), (0, u "java/lang/String"), (0, u "value"), (0, u "[B"), (0, .fieldref 10 16), (0, .nameAndType 17 18), (0, u "coder"), (0, u "B"), (2, u "hash"), (0, u "I"), (2, u "hashIsZero"), (0, u "Z"), (0, .methodref 10 28), (0, .nameAndType 5 29), (0, u "([CIILjava/lang/Void;)V"), (8, .fieldref 10 39), (0, .nameAndType 40 26), (0, u "COMPACT_STRINGS"), (1, .class_ 44), (1, u "java/lang/StringUTF16"), (0, u "compress"), (1, .methodref 42 48), (0, .nameAndType 49 50), (0, u "coderFromArrayLen"), (0, u "([BI)B"), (56, .class_ 109), (1, u "java/lang/StringLatin1"), (32, u "()Z"), (34, .methodref 42 178), (0, .nameAndType 45 179), (0, u "([CII)[B"), (183, u "([BI)C"), (27, u "(II)V"), (35, u "(I)C"), (64, .methodref 10 493), (0, .nameAndType 494 142), (0, u "isLatin1"), (0, .methodref 107 496), (0, .nameAndType 497 363), (0, u "charAt"), (3, u "checkIndex"), (73, .class_ 576), (0, u "java/lang/CharSequence"), (22, u "CASE_INSENSITIVE_ORDER"), (0, u "Ljava/util/Comparator;"), (409, u "([C)V"), (42, .fieldref 1054 1055), (0, .class_ 1056), (0, .nameAndType 1057 1058), (0, u "jdk/internal/util/Preconditions"), (0, u "SIOOBE_FORMATTER"), (0, u "Ljava/util/function/BiFunction;"), (0, .methodref 1054 1060), (0, .nameAndType 501 1061), (0, u "(IILjava/util/function/BiFunction;)I"), (39, u "serialPersistentFields"), (0, u "[Ljava/io/ObjectStreamField;"), (0, .class_ 1104), (0, u "java/lang/String$CaseInsensitiveComparator"), (1, .class_ 1107), (0, u "java/io/Serializable"), (0, .class_ 1109), (0, u "java/lang/Comparable"), (0, .class_ 1111), (0, u "java/lang/constant/Constable"), (0, .class_ 1113), (0, u "java/lang/constant/ConstantDesc"), (2, u "serialVersionUID"), (0, u "J"), (3, u "REPL"), (0, u "C"), (2, u "LATIN1"), (1, u "UTF16")] 323

def k7m0 : Method := { name := "<init>", desc := "()V", sig := { parameters := [], returnType := none }, accessFlags := 1, code := none }
def k7c1 : Code := { maxStack := 5, maxLocals := 2, code := jdk_42_method_3_code, exceptionTable := #[], attributes := #[] }
def k7m1 : Method := { name := "<init>", desc := "([C)V", sig := { parameters := [(.array .char)], returnType := none }, accessFlags := 1, code := some k7c1 }
def k7c2 : Code := { maxStack := 2, maxLocals := 2, code := jdk_42_method_56_code, exceptionTable := #[], attributes := #[] }
def k7m2 : Method := { name := "charAt", desc := "(I)C", sig := { parameters := [.int], returnType := some .char }, accessFlags := 1, code := some k7c2 }
def k7c3 : Code := { maxStack := 4, maxLocals := 6, code := jdk_42_method_149_code, exceptionTable := #[], attributes := #[] }
def k7m3 : Method := { name := "<init>", desc := "([CIILjava/lang/Void;)V", sig := { parameters := [(.array .char), .int, .int, (.object "java/lang/Void")], returnType := none }, accessFlags := 2, code := some k7c3 }
def k7c4 : Code := { maxStack := 1, maxLocals := 1, code := jdk_42_method_154_code, exceptionTable := #[], attributes := #[] }
def k7m4 : Method := { name := "isLatin1", desc := "()Z", sig := { parameters := [], returnType := some .boolean }, accessFlags := 0, code := some k7c4 }
def k7c5 : Code := { maxStack := 3, maxLocals := 2, code := jdk_42_method_155_code, exceptionTable := #[], attributes := #[] }
def k7m5 : Method := { name := "checkIndex", desc := "(II)V", sig := { parameters := [.int, .int], returnType := none }, accessFlags := 8, code := some k7c5 }
/-- java/lang/String -/
def k7 : Class := { plain "java/lang/String" (some 0) with
  accessFlags := 49
  interfaces := #[2, 3, 4, 5, 6]
  cf := some (fileOf pool7 10 #[.nestMembers #[1103]] #[{ accessFlags := 1, nameIndex := 5, descriptorIndex := 6, attributes := #[] }, { accessFlags := 1, nameIndex := 5, descriptorIndex := 1010, attributes := #[] }, { accessFlags := 1, nameIndex := 497, descriptorIndex := 427, attributes := #[] }, { accessFlags := 2, nameIndex := 5, descriptorIndex := 29, attributes := #[] }, { accessFlags := 0, nameIndex := 494, descriptorIndex := 142, attributes := #[] }, { accessFlags := 8, nameIndex := 501, descriptorIndex := 391, attributes := #[] }] 49 2 #[1106, 1108, 575, 1110, 1112] #[{ accessFlags := 18, nameIndex := 13, descriptorIndex := 14, attributes := #[] }, { accessFlags := 18, nameIndex := 17, descriptorIndex := 18, attributes := #[] }, { accessFlags := 2, nameIndex := 21, descriptorIndex := 22, attributes := #[] }, { accessFlags := 2, nameIndex := 25, descriptorIndex := 26, attributes := #[] }, { accessFlags := 26, nameIndex := 1116, descriptorIndex := 1117, attributes := #[] }, { accessFlags := 24, nameIndex := 40, descriptorIndex := 26, attributes := #[] }, { accessFlags := 26, nameIndex := 1101, descriptorIndex := 1102, attributes := #[] }, { accessFlags := 26, nameIndex := 1121, descriptorIndex := 1122, attributes := #[] }, { accessFlags := 25, nameIndex := 599, descriptorIndex := 600, attributes := #[] }, { accessFlags := 24, nameIndex := 1125, descriptorIndex := 18, attributes := #[] }, { accessFlags := 24, nameIndex := 1127, descriptorIndex := 18, attributes := #[] }])
  fields := #[{ name := "value", type := (.array .byte), accessFlags := 18, slot := 0, constantValue := 0 }, { name := "coder", type := .byte, accessFlags := 18, slot := 1, constantValue := 0 }, { name := "hash", type := .int, accessFlags := 2, slot := 2, constantValue := 0 }, { name := "hashIsZero", type := .boolean, accessFlags := 2, slot := 3, constantValue := 0 }, { name := "serialVersionUID", type := .long, accessFlags := 26, slot := 0, constantValue := 0 }, { name := "COMPACT_STRINGS", type := .boolean, accessFlags := 24, slot := 1, constantValue := 0 }, { name := "serialPersistentFields", type := (.array (.object "java/io/ObjectStreamField")), accessFlags := 26, slot := 2, constantValue := 0 }, { name := "REPL", type := .char, accessFlags := 26, slot := 3, constantValue := 0 }, { name := "CASE_INSENSITIVE_ORDER", type := (.object "java/util/Comparator"), accessFlags := 25, slot := 4, constantValue := 0 }, { name := "LATIN1", type := .byte, accessFlags := 24, slot := 5, constantValue := 0 }, { name := "UTF16", type := .byte, accessFlags := 24, slot := 6, constantValue := 0 }]
  methods := #[k7m0, k7m1, k7m2, k7m3, k7m4, k7m5]
  instanceTypes := #[(.array .byte), .byte, .int, .boolean]
  staticTypes := #[.long, .boolean, (.array (.object "java/io/ObjectStreamField")), .char, (.object "java/util/Comparator"), .byte, .byte]
  resolved := Array.replicate 1451 none
  statics := some 0 }

def pool8 : Array CpInfo := pool [(6, .class_ 8), (1, u "java/lang/Object"), (0, u "<init>"), (0, u "()V"), (1, .class_ 14), (1, u "java/lang/StringUTF16"), (31, u "$assertionsDisabled"), (0, u "Z"), (13, u "HI_BYTE_SHIFT"), (0, u "I"), (2, u "LO_BYTE_SHIFT"), (49, .methodref 12 116), (0, .nameAndType 117 118), (0, u "compress"), (0, u "([CI[BII)I"), (3, u "([CII)[B"), (138, u "coderFromArrayLen"), (0, u "([BI)B"), (106, .class_ 371), (1, u "java/lang/StringUTF16$LinesSpliterator"), (58, u "MAX_LENGTH"), (196, .class_ 628), (0, u "java/lang/StringUTF16$CodePointsSpliterator"), (0, .class_ 630), (0, u "java/lang/StringUTF16$CharsSpliterator")] 4

def k8m0 : Method := { name := "<init>", desc := "()V", sig := { parameters := [], returnType := none }, accessFlags := 0, code := none }
def k8c1 : Code := { maxStack := 2, maxLocals := 2, code := jdk_52_method_15_code, exceptionTable := #[], attributes := #[] }
def k8m1 : Method := { name := "coderFromArrayLen", desc := "([BI)B", sig := { parameters := [(.array .byte), .int], returnType := some .byte }, accessFlags := 8, code := some k8c1 }
def k8c2 : Code := { maxStack := 5, maxLocals := 6, code := jdk_52_method_16_code, exceptionTable := #[], attributes := #[] }
def k8m2 : Method := { name := "compress", desc := "([CII)[B", sig := { parameters := [(.array .char), .int, .int], returnType := some (.array .byte) }, accessFlags := 9, code := some k8c2 }
def k8c3 : Code := { maxStack := 3, maxLocals := 7, code := jdk_52_method_21_code, exceptionTable := #[], attributes := #[] }
def k8m3 : Method := { name := "compress", desc := "([CI[BII)I", sig := { parameters := [(.array .char), .int, (.array .byte), .int, .int], returnType := some .int }, accessFlags := 9, code := some k8c3 }
/-- java/lang/StringUTF16 -/
def k8 : Class := { plain "java/lang/StringUTF16" (some 0) with
  accessFlags := 48
  interfaces := #[]
  cf := some (fileOf pool8 12 #[.nestMembers #[627, 629, 369]] #[{ accessFlags := 0, nameIndex := 9, descriptorIndex := 10, attributes := #[] }, { accessFlags := 8, nameIndex := 261, descriptorIndex := 262, attributes := #[] }, { accessFlags := 9, nameIndex := 117, descriptorIndex := 122, attributes := #[] }, { accessFlags := 9, nameIndex := 117, descriptorIndex := 118, attributes := #[] }] 48 6 #[] #[{ accessFlags := 26, nameIndex := 61, descriptorIndex := 62, attributes := #[] }, { accessFlags := 26, nameIndex := 65, descriptorIndex := 62, attributes := #[] }, { accessFlags := 24, nameIndex := 430, descriptorIndex := 62, attributes := #[] }, { accessFlags := 4120, nameIndex := 46, descriptorIndex := 47, attributes := #[] }])
  fields := #[{ name := "HI_BYTE_SHIFT", type := .int, accessFlags := 26, slot := 0, constantValue := 0 }, { name := "LO_BYTE_SHIFT", type := .int, accessFlags := 26, slot := 1, constantValue := 0 }, { name := "MAX_LENGTH", type := .int, accessFlags := 24, slot := 2, constantValue := 0 }, { name := "$assertionsDisabled", type := .boolean, accessFlags := 4120, slot := 3, constantValue := 0 }]
  methods := #[k8m0, k8m1, k8m2, k8m3]
  instanceTypes := #[]
  staticTypes := #[.int, .int, .int, .boolean]
  resolved := Array.replicate 635 none
  statics := none }

def pool9 : Array CpInfo := pool [(2, .class_ 4), (1, u "java/lang/Object"), (0, u "<init>"), (0, u "()V"), (0, .methodref 8 9), (0, .class_ 10), (0, .nameAndType 11 12), (0, u "java/lang/String"), (0, u "charAt"), (0, u "(I)C"), (1, .class_ 16), (1, u "com/example/kontoform/kontoform/WeightedSums"), (11, u "(Ljava/lang/String;II[I)I"), (1, u "fromRight")] 5

def k9m0 : Method := { name := "<init>", desc := "()V", sig := { parameters := [], returnType := none }, accessFlags := 2, code := none }
def k9c1 : Code := { maxStack := 4, maxLocals := 6, code := prog_35_method_3_code, exceptionTable := #[], attributes := #[] }
def k9m1 : Method := { name := "fromRight", desc := "(Ljava/lang/String;II[I)I", sig := { parameters := [(.object "java/lang/String"), .int, .int, (.array .int)], returnType := some .int }, accessFlags := 8, code := some k9c1 }
/-- com/example/kontoform/kontoform/WeightedSums -/
def k9 : Class := { plain "com/example/kontoform/kontoform/WeightedSums" (some 0) with
  accessFlags := 48
  interfaces := #[]
  cf := some (fileOf pool9 14 #[] #[{ accessFlags := 2, nameIndex := 5, descriptorIndex := 6, attributes := #[] }, { accessFlags := 8, nameIndex := 30, descriptorIndex := 28, attributes := #[] }] 48 2 #[] #[])
  fields := #[]
  methods := #[k9m0, k9m1]
  instanceTypes := #[]
  staticTypes := #[]
  resolved := Array.replicate 36 none
  statics := none }

def pool10 : Array CpInfo := pool [(1, .class_ 2), (0, u "java/lang/String"), (1, .class_ 6), (1, u "java/lang/Object"), (0, u "<init>"), (0, u "()V"), (0, .methodref 1 10), (0, .nameAndType 11 12), (0, u "checkIndex"), (0, u "(II)V"), (1, .class_ 16), (1, u "java/lang/StringLatin1"), (36, u "([BI)C"), (67, u "$assertionsDisabled"), (0, u "Z"), (98, .class_ 223), (1, u "java/lang/StringLatin1$LinesSpliterator"), (28, u "charAt"), (137, .class_ 391), (0, u "java/lang/StringLatin1$CharsSpliterator")] 3

def k10m0 : Method := { name := "<init>", desc := "()V", sig := { parameters := [], returnType := none }, accessFlags := 0, code := none }
def k10c1 : Code := { maxStack := 2, maxLocals := 2, code := jdk_43_method_2_code, exceptionTable := #[], attributes := #[] }
def k10m1 : Method := { name := "charAt", desc := "([BI)C", sig := { parameters := [(.array .byte), .int], returnType := some .char }, accessFlags := 9, code := some k10c1 }
/-- java/lang/StringLatin1 -/
def k10 : Class := { plain "java/lang/StringLatin1" (some 0) with
  accessFlags := 48
  interfaces := #[]
  cf := some (fileOf pool10 14 #[.nestMembers #[390, 221]] #[{ accessFlags := 0, nameIndex := 7, descriptorIndex := 8, attributes := #[] }, { accessFlags := 9, nameIndex := 252, descriptorIndex := 53, attributes := #[] }] 48 4 #[] #[{ accessFlags := 4120, nameIndex := 121, descriptorIndex := 122, attributes := #[] }])
  fields := #[{ name := "$assertionsDisabled", type := .boolean, accessFlags := 4120, slot := 0, constantValue := 0 }]
  methods := #[k10m0, k10m1]
  instanceTypes := #[]
  staticTypes := #[.boolean]
  resolved := Array.replicate 395 none
  statics := none }

def pool11 : Array CpInfo := pool [(2, .class_ 4), (1, u "java/lang/Object"), (0, u "<init>"), (0, u "()V"), (17, .class_ 26), (1, u "jdk/internal/util/Preconditions"), (6, u "checkIndex"), (21, .class_ 56), (0, u "jdk/internal/util/Preconditions$4"), (57, .class_ 115), (0, u "jdk/internal/util/Preconditions$1"), (7, u "SIOOBE_FORMATTER"), (0, u "Ljava/util/function/BiFunction;"), (0, .class_ 126), (0, u "jdk/internal/util/Preconditions$2"), (3, u "AIOOBE_FORMATTER"), (0, .class_ 132), (0, u "jdk/internal/util/Preconditions$3"), (3, u "IOOBE_FORMATTER"), (41, u "(IILjava/util/function/BiFunction;)I")] 15

def k11m0 : Method := { name := "<init>", desc := "()V", sig := { parameters := [], returnType := none }, accessFlags := 1, code := none }
def k11c1 : Code := { maxStack := 3, maxLocals := 3, code := jdk_41_method_11_code, exceptionTable := #[], attributes := #[] }
def k11m1 : Method := { name := "checkIndex", desc := "(IILjava/util/function/BiFunction;)I", sig := { parameters := [.int, .int, (.object "java/util/function/BiFunction")], returnType := some .int }, accessFlags := 9, code := some k11c1 }
/-- jdk/internal/util/Preconditions -/
def k11 : Class := { plain "jdk/internal/util/Preconditions" (some 0) with
  accessFlags := 33
  interfaces := #[]
  cf := some (fileOf pool11 24 #[.nestMembers #[55, 131, 125, 114]] #[{ accessFlags := 1, nameIndex := 5, descriptorIndex := 6, attributes := #[] }, { accessFlags := 9, nameIndex := 33, descriptorIndex := 178, attributes := #[] }] 33 2 #[] #[{ accessFlags := 25, nameIndex := 123, descriptorIndex := 124, attributes := #[] }, { accessFlags := 25, nameIndex := 130, descriptorIndex := 124, attributes := #[] }, { accessFlags := 25, nameIndex := 136, descriptorIndex := 124, attributes := #[] }])
  fields := #[{ name := "SIOOBE_FORMATTER", type := (.object "java/util/function/BiFunction"), accessFlags := 25, slot := 0, constantValue := 0 }, { name := "AIOOBE_FORMATTER", type := (.object "java/util/function/BiFunction"), accessFlags := 25, slot := 1, constantValue := 0 }, { name := "IOOBE_FORMATTER", type := (.object "java/util/function/BiFunction"), accessFlags := 25, slot := 2, constantValue := 0 }]
  methods := #[k11m0, k11m1]
  instanceTypes := #[]
  staticTypes := #[(.object "java/util/function/BiFunction"), (.object "java/util/function/BiFunction"), (.object "java/util/function/BiFunction")]
  resolved := Array.replicate 194 none
  statics := some 1 }

def pool12 : Array CpInfo := pool [(9, u "<init>"), (6, .class_ 18), (1, u "java/lang/Object"), (0, u "()V"), (1, .class_ 23), (1, u "jdk/internal/util/ArraysSupport"), (0, u "LOG2_ARRAY_LONG_INDEX_SCALE"), (0, u "I"), (2, u "U"), (0, u "Ljdk/internal/misc/Unsafe;"), (8, u "BIG_ENDIAN"), (0, u "Z"), (8, u "LOG2_BYTE_BIT_SIZE"), (4, u "LOG2_ARRAY_INT_INDEX_SCALE"), (54, u "JLA"), (0, u "Ljdk/internal/access/JavaLangAccess;"), (11, u "LOG2_ARRAY_BOOLEAN_INDEX_SCALE"), (9, u "LOG2_ARRAY_BYTE_INDEX_SCALE"), (5, u "LOG2_ARRAY_CHAR_INDEX_SCALE"), (5, u "LOG2_ARRAY_SHORT_INDEX_SCALE"), (18, u "LOG2_ARRAY_FLOAT_INDEX_SCALE"), (24, u "LOG2_ARRAY_DOUBLE_INDEX_SCALE"), (89, u "T_BOOLEAN"), (2, u "T_CHAR"), (1, u "T_FLOAT"), (1, u "T_DOUBLE"), (1, u "T_BYTE"), (1, u "T_SHORT"), (1, u "T_INT"), (1, u "T_LONG"), (1, u "SOFT_MAX_ARRAY_LENGTH")] 83

def k12m0 : Method := { name := "<init>", desc := "()V", sig := { parameters := [], returnType := none }, accessFlags := 2, code := none }
/-- jdk/internal/util/ArraysSupport -/
def k12 : Class := { plain "jdk/internal/util/ArraysSupport" (some 0) with
  accessFlags := 33
  interfaces := #[]
  cf := some (fileOf pool12 21 #[] #[{ accessFlags := 2, nameIndex := 9, descriptorIndex := 19, attributes := #[] }] 33 16 #[] #[{ accessFlags := 24, nameIndex := 28, descriptorIndex := 29, attributes := #[] }, { accessFlags := 26, nameIndex := 38, descriptorIndex := 39, attributes := #[] }, { accessFlags := 25, nameIndex := 121, descriptorIndex := 25, attributes := #[] }, { accessFlags := 25, nameIndex := 131, descriptorIndex := 25, attributes := #[] }, { accessFlags := 25, nameIndex := 137, descriptorIndex := 25, attributes := #[] }, { accessFlags := 25, nameIndex := 143, descriptorIndex := 25, attributes := #[] }, { accessFlags := 25, nameIndex := 53, descriptorIndex := 25, attributes := #[] }, { accessFlags := 25, nameIndex := 24, descriptorIndex := 25, attributes := #[] }, { accessFlags := 25, nameIndex := 162, descriptorIndex := 25, attributes := #[] }, { accessFlags := 25, nameIndex := 187, descriptorIndex := 25, attributes := #[] }, { accessFlags := 26, nameIndex := 48, descriptorIndex := 25, attributes := #[] }, { accessFlags := 25, nameIndex := 277, descriptorIndex := 25, attributes := #[] }, { accessFlags := 25, nameIndex := 280, descriptorIndex := 25, attributes := #[] }, { accessFlags := 25, nameIndex := 282, descriptorIndex := 25, attributes := #[] }, { accessFlags := 25, nameIndex := 284, descriptorIndex := 25, attributes := #[] }, { accessFlags := 25, nameIndex := 286, descriptorIndex := 25, attributes := #[] }, { accessFlags := 25, nameIndex := 288, descriptorIndex := 25, attributes := #[] }, { accessFlags := 25, nameIndex := 290, descriptorIndex := 25, attributes := #[] }, { accessFlags := 25, nameIndex := 292, descriptorIndex := 25, attributes := #[] }, { accessFlags := 26, nameIndex := 108, descriptorIndex := 109, attributes := #[] }, { accessFlags := 25, nameIndex := 294, descriptorIndex := 25, attributes := #[] }])
  fields := #[{ name := "U", type := (.object "jdk/internal/misc/Unsafe"), accessFlags := 24, slot := 0, constantValue := 0 }, { name := "BIG_ENDIAN", type := .boolean, accessFlags := 26, slot := 1, constantValue := 0 }, { name := "LOG2_ARRAY_BOOLEAN_INDEX_SCALE", type := .int, accessFlags := 25, slot := 2, constantValue := 0 }, { name := "LOG2_ARRAY_BYTE_INDEX_SCALE", type := .int, accessFlags := 25, slot := 3, constantValue := 0 }, { name := "LOG2_ARRAY_CHAR_INDEX_SCALE", type := .int, accessFlags := 25, slot := 4, constantValue := 0 }, { name := "LOG2_ARRAY_SHORT_INDEX_SCALE", type := .int, accessFlags := 25, slot := 5, constantValue := 0 }, { name := "LOG2_ARRAY_INT_INDEX_SCALE", type := .int, accessFlags := 25, slot := 6, constantValue := 0 }, { name := "LOG2_ARRAY_LONG_INDEX_SCALE", type := .int, accessFlags := 25, slot := 7, constantValue := 0 }, { name := "LOG2_ARRAY_FLOAT_INDEX_SCALE", type := .int, accessFlags := 25, slot := 8, constantValue := 0 }, { name := "LOG2_ARRAY_DOUBLE_INDEX_SCALE", type := .int, accessFlags := 25, slot := 9, constantValue := 0 }, { name := "LOG2_BYTE_BIT_SIZE", type := .int, accessFlags := 26, slot := 10, constantValue := 0 }, { name := "T_BOOLEAN", type := .int, accessFlags := 25, slot := 11, constantValue := 0 }, { name := "T_CHAR", type := .int, accessFlags := 25, slot := 12, constantValue := 0 }, { name := "T_FLOAT", type := .int, accessFlags := 25, slot := 13, constantValue := 0 }, { name := "T_DOUBLE", type := .int, accessFlags := 25, slot := 14, constantValue := 0 }, { name := "T_BYTE", type := .int, accessFlags := 25, slot := 15, constantValue := 0 }, { name := "T_SHORT", type := .int, accessFlags := 25, slot := 16, constantValue := 0 }, { name := "T_INT", type := .int, accessFlags := 25, slot := 17, constantValue := 0 }, { name := "T_LONG", type := .int, accessFlags := 25, slot := 18, constantValue := 0 }, { name := "JLA", type := (.object "jdk/internal/access/JavaLangAccess"), accessFlags := 26, slot := 19, constantValue := 0 }, { name := "SOFT_MAX_ARRAY_LENGTH", type := .int, accessFlags := 25, slot := 20, constantValue := 0 }]
  methods := #[k12m0]
  instanceTypes := #[]
  staticTypes := #[(.object "jdk/internal/misc/Unsafe"), .boolean, .int, .int, .int, .int, .int, .int, .int, .int, .int, .int, .int, .int, .int, .int, .int, .int, .int, (.object "jdk/internal/access/JavaLangAccess"), .int]
  resolved := Array.replicate 378 none
  statics := none }

def pool13 : Array CpInfo := pool [(1, u "java/lang/Cloneable"), (0, .class_ 1), (0, u "java/lang/Object"), (0, .class_ 3)] 3

/-- java/lang/Cloneable -/
def k13 : Class := { plain "java/lang/Cloneable" (some 0) with
  accessFlags := 1537
  interfaces := #[]
  cf := some (fileOf pool13 2 #[] #[] 1537 4 #[] #[])
  fields := #[]
  methods := #[]
  instanceTypes := #[]
  staticTypes := #[]
  resolved := Array.replicate 8 none
  statics := none }

/-- the primitive byte -/
def k14 : Class := { plain "byte" none with kind := .primitive 'B', accessFlags := 0x411 }
/-- [B -/
def k15 : Class := { plain "[B" (some 0) with kind := .array 14 .byte, interfaces := #[13, 2], accessFlags := 1041 }

/-- the primitive char -/
def k16 : Class := { plain "char" none with kind := .primitive 'C', accessFlags := 0x411 }
/-- [C -/
def k17 : Class := { plain "[C" (some 0) with kind := .array 16 .char, interfaces := #[13, 2], accessFlags := 1041 }

/-- the primitive int -/
def k18 : Class := { plain "int" none with kind := .primitive 'I', accessFlags := 0x411 }
/-- [I -/
def k19 : Class := { plain "[I" (some 0) with kind := .array 18 .int, interfaces := #[13, 2], accessFlags := 1041 }

def heap : Heap := #[{ cls := 7, slots := #[.long 0, .int 1, .null, .int 0, .null, .int 0, .int 0], vm := .statics 7 },
  { cls := 11, slots := #[.null, .null, .null], vm := .statics 11 }]
def classes : Array Class := #[k0, k1, k2, k3, k4, k5, k6, k7, k8, k9, k10, k11, k12, k13, k14, k15, k16, k17, k18, k19]
def interned : List (Array UInt16 × Addr) := []
def slotsUsed : Nat := 10
def theMethod : MethodId := ⟨1, 1⟩
def args0 : Array Value := #[.int 5, .int 5, .int 5, .int 5, .int 5]
def aboutOver (below : List Frame) : State where
  vm := { classes := classes, interned := interned.toArray }
  heap := heap
  slotsUsed := slotsUsed
  threads := #[{ frames := .invoking theMethod args0 :: below }]
def below0 : List Frame := [.native { method := ⟨0, 0⟩, args := #[] }]
def about1 : State := aboutOver below0
def p0 : Program := .bare "" "" ""
def e0 : Env := launch0.env 0 0 0
theorem w_frames : about1.frames = Frame.invoking theMethod args0 :: below0 := rfl
set_option maxRecDepth 65536 in
theorem w_args : argsFit about1.vm theMethod args0 = true := by decide +kernel
set_option maxRecDepth 65536 in
theorem w_heap : heapFits about1 = true := by decide +kernel
set_option maxRecDepth 65536 in
theorem w_runnable : about1.curStatus? = some .runnable := by decide +kernel
set_option maxRecDepth 65536 in
theorem w_alone : about1.alone = true := by decide +kernel
set_option maxRecDepth 65536 in
theorem w_named : about1.methodNamed? x = some theMethod := by decide +kernel
set_option maxRecDepth 65536 in
theorem w_hears : about1.hears theMethod below0 = true := by decide +kernel
set_option maxRecDepth 65536 in
theorem w_ripe : about1.ripe theMethod args0 below0 = true := by decide +kernel
theorem w_running : about1.status = .running := rfl
set_option maxRecDepth 65536 in
theorem w_room : about1.hasRoom e0.platform room_1 = true :=
  launch0.hasRoom_least _ room_1 (by decide +kernel) (by decide +kernel) (by decide +kernel) (by decide +kernel) (by decide +kernel) (by decide +kernel)
theorem allAtoms_all (ts : List Jvm.Cond) (a : Array Jvm.Value) (st : Jvm.State) : (allAtoms ts).before a st = ts.all (fun c => c.before a st) := by
  induction ts with
  | nil => rfl
  | cons c t ih =>
    show (Jvm.Cond.and c (allAtoms t)).before a st = _
    rw [Jvm.Cond.before_and, ih, List.all_cons]
def words1 : List Jvm.Cond := Jvm.Cond.code x code maxLocals ret :: tables_1
/-- a 'code' word, met by the world's own term for the bytes: nothing is compared byte by byte -/
theorem code_word {y : MethodName} {bytes : ByteArray} {mx : Nat} {rt : Option FieldType} {a : Array Value} {s : State} {m : MethodId} {meth : Method} {c : Code} (h1 : s.methodNamed? y = some m) (h2 : s.vm.method? m = some meth) (h3 : meth.code = some c) (h4 : c.code = bytes)
    (h5 : (c.maxLocals == mx && c.exceptionTable.isEmpty && decide (c.maxStack ≤ mostOperands) && decide (meth.sig.returnType = rt) && !meth.locks && decide (parseMethodDescriptor y.desc = some meth.sig)) = true) : (Jvm.Cond.code y bytes mx rt).before a s = true := by
  simp only [Bool.and_eq_true, beq_iff_eq, Bool.not_eq_true', decide_eq_true_eq] at h5
  obtain ⟨⟨⟨⟨⟨g1, g2⟩, g3⟩, g4⟩, g5⟩, g6⟩ := h5
  simp [Cond.before, Cond.holds, Cond.value, h1, h2, h3, h4, g1, g2, g3, g4, g5, g6]
def isCode : Jvm.Cond → Bool
  | .code _ _ _ _ => true
  | _ => false
theorem all_split {L : List Jvm.Cond} {P : Jvm.Cond → Bool} (h1 : L.all (fun c => isCode c || P c) = true) (h2 : ∀ c ∈ L.filter isCode, P c = true) : L.all P = true := by
  refine List.all_eq_true.mpr fun c hc => ?_
  have h := List.all_eq_true.mp h1 c hc
  rcases Bool.eq_false_or_eq_true (isCode c) with hi | hi
  · exact h2 c (List.mem_filter.mpr ⟨hc, hi⟩)
  · simpa [hi] using h
set_option maxRecDepth 65536 in
theorem w_c0 : (Jvm.Cond.code x code maxLocals ret).before args0 about1 = true := code_word (m := ⟨1, 1⟩) (meth := k1m1) (c := k1c1) (by decide +kernel) rfl rfl rfl (by decide +kernel)
set_option maxRecDepth 65536 in
theorem w_c1 : (Jvm.Cond.code ({ cls := "java/lang/String", name := "<init>", desc := "([C)V" } : Jvm.MethodName) jdk_42_method_3_code (2 : Nat) (Option.none : Option Jvm.ClassFile.FieldType)).before args0 about1 = true := code_word (m := ⟨7, 1⟩) (meth := k7m1) (c := k7c1) (by decide +kernel) rfl rfl rfl (by decide +kernel)
set_option maxRecDepth 65536 in
theorem w_c2 : (Jvm.Cond.code ({ cls := "java/lang/String", name := "<init>", desc := "([CIILjava/lang/Void;)V" } : Jvm.MethodName) jdk_42_method_149_code (6 : Nat) (Option.none : Option Jvm.ClassFile.FieldType)).before args0 about1 = true := code_word (m := ⟨7, 3⟩) (meth := k7m3) (c := k7c3) (by decide +kernel) rfl rfl rfl (by decide +kernel)
set_option maxRecDepth 65536 in
theorem w_c3 : (Jvm.Cond.code ({ cls := "java/lang/Object", name := "<init>", desc := "()V" } : Jvm.MethodName) object_method_1_code (1 : Nat) (Option.none : Option Jvm.ClassFile.FieldType)).before args0 about1 = true := code_word (m := ⟨0, 0⟩) (meth := k0m0) (c := k0c0) (by decide +kernel) rfl rfl rfl (by decide +kernel)
set_option maxRecDepth 65536 in
theorem w_c4 : (Jvm.Cond.code ({ cls := "java/lang/StringUTF16", name := "compress", desc := "([CII)[B" } : Jvm.MethodName) jdk_52_method_16_code (6 : Nat) (Option.some (Jvm.ClassFile.FieldType.array Jvm.ClassFile.FieldType.byte))).before args0 about1 = true := code_word (m := ⟨8, 2⟩) (meth := k8m2) (c := k8c2) (by decide +kernel) rfl rfl rfl (by decide +kernel)
set_option maxRecDepth 65536 in
theorem w_c5 : (Jvm.Cond.code ({ cls := "java/lang/StringUTF16", name := "compress", desc := "([CI[BII)I" } : Jvm.MethodName) jdk_52_method_21_code (7 : Nat) (Option.some Jvm.ClassFile.FieldType.int)).before args0 about1 = true := code_word (m := ⟨8, 3⟩) (meth := k8m3) (c := k8c3) (by decide +kernel) rfl rfl rfl (by decide +kernel)
set_option maxRecDepth 65536 in
theorem w_c6 : (Jvm.Cond.code ({ cls := "java/lang/StringUTF16", name := "coderFromArrayLen", desc := "([BI)B" } : Jvm.MethodName) jdk_52_method_15_code (2 : Nat) (Option.some Jvm.ClassFile.FieldType.byte)).before args0 about1 = true := code_word (m := ⟨8, 1⟩) (meth := k8m1) (c := k8c1) (by decide +kernel) rfl rfl rfl (by decide +kernel)
set_option maxRecDepth 65536 in
theorem w_c7 : (Jvm.Cond.code ({ cls := "com/example/kontoform/kontoform/WeightedSums", name := "fromRight", desc := "(Ljava/lang/String;II[I)I" } : Jvm.MethodName) prog_35_method_3_code (6 : Nat) (Option.some Jvm.ClassFile.FieldType.int)).before args0 about1 = true := code_word (m := ⟨9, 1⟩) (meth := k9m1) (c := k9c1) (by decide +kernel) rfl rfl rfl (by decide +kernel)
set_option maxRecDepth 65536 in
theorem w_c8 : (Jvm.Cond.code ({ cls := "com/example/kontoform/kontoform/WeightedSumsFromRightPinLaw", name := "term", desc := "(CIIIIIII)I" } : Jvm.MethodName) method_3_code (10 : Nat) (Option.some Jvm.ClassFile.FieldType.int)).before args0 about1 = true := code_word (m := ⟨1, 2⟩) (meth := k1m2) (c := k1c2) (by decide +kernel) rfl rfl rfl (by decide +kernel)
set_option maxRecDepth 65536 in
theorem w_c9 : (Jvm.Cond.code ({ cls := "java/lang/String", name := "charAt", desc := "(I)C" } : Jvm.MethodName) jdk_42_method_56_code (2 : Nat) (Option.some Jvm.ClassFile.FieldType.char)).before args0 about1 = true := code_word (m := ⟨7, 2⟩) (meth := k7m2) (c := k7c2) (by decide +kernel) rfl rfl rfl (by decide +kernel)
set_option maxRecDepth 65536 in
theorem w_c10 : (Jvm.Cond.code ({ cls := "java/lang/String", name := "isLatin1", desc := "()Z" } : Jvm.MethodName) jdk_42_method_154_code (1 : Nat) (Option.some Jvm.ClassFile.FieldType.boolean)).before args0 about1 = true := code_word (m := ⟨7, 4⟩) (meth := k7m4) (c := k7c4) (by decide +kernel) rfl rfl rfl (by decide +kernel)
set_option maxRecDepth 65536 in
theorem w_c11 : (Jvm.Cond.code ({ cls := "java/lang/StringLatin1", name := "charAt", desc := "([BI)C" } : Jvm.MethodName) jdk_43_method_2_code (2 : Nat) (Option.some Jvm.ClassFile.FieldType.char)).before args0 about1 = true := code_word (m := ⟨10, 1⟩) (meth := k10m1) (c := k10c1) (by decide +kernel) rfl rfl rfl (by decide +kernel)
set_option maxRecDepth 65536 in
theorem w_c12 : (Jvm.Cond.code ({ cls := "java/lang/String", name := "checkIndex", desc := "(II)V" } : Jvm.MethodName) jdk_42_method_155_code (2 : Nat) (Option.none : Option Jvm.ClassFile.FieldType)).before args0 about1 = true := code_word (m := ⟨7, 5⟩) (meth := k7m5) (c := k7c5) (by decide +kernel) rfl rfl rfl (by decide +kernel)
set_option maxRecDepth 65536 in
theorem w_c13 : (Jvm.Cond.code ({ cls := "jdk/internal/util/Preconditions", name := "checkIndex", desc := "(IILjava/util/function/BiFunction;)I" } : Jvm.MethodName) jdk_41_method_11_code (3 : Nat) (Option.some Jvm.ClassFile.FieldType.int)).before args0 about1 = true := code_word (m := ⟨11, 1⟩) (meth := k11m1) (c := k11c1) (by decide +kernel) rfl rfl rfl (by decide +kernel)
def codes1 : List Jvm.Cond := [Jvm.Cond.code x code maxLocals ret, Jvm.Cond.code ({ cls := "java/lang/String", name := "<init>", desc := "([C)V" } : Jvm.MethodName) jdk_42_method_3_code (2 : Nat) (Option.none : Option Jvm.ClassFile.FieldType), Jvm.Cond.code ({ cls := "java/lang/String", name := "<init>", desc := "([CIILjava/lang/Void;)V" } : Jvm.MethodName) jdk_42_method_149_code (6 : Nat) (Option.none : Option Jvm.ClassFile.FieldType), Jvm.Cond.code ({ cls := "java/lang/Object", name := "<init>", desc := "()V" } : Jvm.MethodName) object_method_1_code (1 : Nat) (Option.none : Option Jvm.ClassFile.FieldType), Jvm.Cond.code ({ cls := "java/lang/StringUTF16", name := "compress", desc := "([CII)[B" } : Jvm.MethodName) jdk_52_method_16_code (6 : Nat) (Option.some (Jvm.ClassFile.FieldType.array Jvm.ClassFile.FieldType.byte)), Jvm.Cond.code ({ cls := "java/lang/StringUTF16", name := "compress", desc := "([CI[BII)I" } : Jvm.MethodName) jdk_52_method_21_code (7 : Nat) (Option.some Jvm.ClassFile.FieldType.int), Jvm.Cond.code ({ cls := "java/lang/StringUTF16", name := "coderFromArrayLen", desc := "([BI)B" } : Jvm.MethodName) jdk_52_method_15_code (2 : Nat) (Option.some Jvm.ClassFile.FieldType.byte), Jvm.Cond.code ({ cls := "com/example/kontoform/kontoform/WeightedSums", name := "fromRight", desc := "(Ljava/lang/String;II[I)I" } : Jvm.MethodName) prog_35_method_3_code (6 : Nat) (Option.some Jvm.ClassFile.FieldType.int), Jvm.Cond.code ({ cls := "com/example/kontoform/kontoform/WeightedSumsFromRightPinLaw", name := "term", desc := "(CIIIIIII)I" } : Jvm.MethodName) method_3_code (10 : Nat) (Option.some Jvm.ClassFile.FieldType.int), Jvm.Cond.code ({ cls := "java/lang/String", name := "charAt", desc := "(I)C" } : Jvm.MethodName) jdk_42_method_56_code (2 : Nat) (Option.some Jvm.ClassFile.FieldType.char), Jvm.Cond.code ({ cls := "java/lang/String", name := "isLatin1", desc := "()Z" } : Jvm.MethodName) jdk_42_method_154_code (1 : Nat) (Option.some Jvm.ClassFile.FieldType.boolean), Jvm.Cond.code ({ cls := "java/lang/StringLatin1", name := "charAt", desc := "([BI)C" } : Jvm.MethodName) jdk_43_method_2_code (2 : Nat) (Option.some Jvm.ClassFile.FieldType.char), Jvm.Cond.code ({ cls := "java/lang/String", name := "checkIndex", desc := "(II)V" } : Jvm.MethodName) jdk_42_method_155_code (2 : Nat) (Option.none : Option Jvm.ClassFile.FieldType), Jvm.Cond.code ({ cls := "jdk/internal/util/Preconditions", name := "checkIndex", desc := "(IILjava/util/function/BiFunction;)I" } : Jvm.MethodName) jdk_41_method_11_code (3 : Nat) (Option.some Jvm.ClassFile.FieldType.int)]
set_option maxRecDepth 65536 in
theorem codes_eq : words1.filter isCode = codes1 := rfl
theorem w_codes : ∀ c ∈ words1.filter isCode, c.before args0 about1 = true := by
  rw [codes_eq]
  intro c hc
  simp only [codes1, List.mem_cons, List.not_mem_nil, or_false] at hc
  rcases hc with rfl | rfl | rfl | rfl | rfl | rfl | rfl | rfl | rfl | rfl | rfl | rfl | rfl | rfl
  · exact w_c0
  · exact w_c1
  · exact w_c2
  · exact w_c3
  · exact w_c4
  · exact w_c5
  · exact w_c6
  · exact w_c7
  · exact w_c8
  · exact w_c9
  · exact w_c10
  · exact w_c11
  · exact w_c12
  · exact w_c13
set_option maxRecDepth 65536 in
theorem w_t1 : (words1.take 24).all (fun c => isCode c || c.before args0 about1) = true := by decide +kernel
set_option maxRecDepth 65536 in
theorem w_t2 : ((words1.drop 24).take 24).all (fun c => isCode c || c.before args0 about1) = true := by decide +kernel
set_option maxRecDepth 65536 in
theorem w_t3 : ((words1.drop 24).drop 24).all (fun c => isCode c || c.before args0 about1) = true := by decide +kernel
theorem w_tables : (allAtoms (Jvm.Cond.code x code maxLocals ret :: tables_1)).before args0 about1 = true := by
  rw [allAtoms_all]
  show words1.all (fun c => c.before args0 about1) = true
  refine all_split ?_ w_codes
  rw [← List.take_append_drop 24 words1, List.all_append, w_t1, ← List.take_append_drop 24 (words1.drop 24), List.all_append, w_t2, w_t3]
  rfl
set_option maxRecDepth 65536 in
theorem w_rest : rest_1_c.before args0 about1 = true := by decide +kernel
set_option maxRecDepth 65536 in
theorem w_case : (Jvm.Cond.and given_1 narrow_1).before args0 about1 = true := by decide +kernel
theorem w_applies : (headSpec (Jvm.Cond.code x code maxLocals ret :: tables_1) room_1).applies x e0.platform about1 = true :=
  (Spec.applies_iff w_frames).mpr ⟨w_running, w_runnable, w_alone, w_named, w_hears, w_ripe, w_room, w_tables⟩
theorem atStart : AtStart classFile x code maxLocals ret World_1 tables_1 room_1 Calls_1 rest_1 Pre_1 launch0 p0 e0 about1 theMethod args0 below0 :=
  ⟨lists_1, trivial, launch0.admits_env _ _ _, launch0.least_env, fairChoices_fair.cas, fairChoices_fair.clock, w_frames, w_args, w_heap, w_applies, trivial, w_rest, w_case⟩
end start1
theorem witness_1 : WitnessClaimed_1 := ⟨start1.p0, start1.e0, start1.about1, start1.theMethod, start1.args0, start1.below0, start1.atStart⟩
end Jvm.Pilot.@@N@@

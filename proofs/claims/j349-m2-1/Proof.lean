import JvmDerived
import JvmDerived.Pilot.@@N@@Statement
import JvmDerived.Pilot.@@N@@Code
set_option linter.unusedVariables false
set_option linter.unusedSimpArgs false
/- laws to paste: Road.backV, Road.eqW, Road.codOf (cut by pick.py; bodies as the Statement names them) -/
namespace Jvm.Pilot.@@N@@
namespace StrChars
open Jvm Sem ClassFile Op Lib Jvm.Stand Jvm.Free.XT Jvm.Free.ALB Jvm.Free.JM Jvm.Free
open Jvm.Lib.Cold (StaticIs)
/-- a char array whose places are chars -/
def Ch (a : Addr) (A : Cell) (U : State) : Prop := Arr .char a A U ∧ Typed .char A
theorem Ch.mv {a : Addr} {A : Cell} {U U' : State} (h : Ch a A U) (hal : U.vm.Alike U'.vm) (hh : U'.heap = U.heap) : Ch a A U' := ⟨h.1.mv hal hh, h.2⟩
theorem Ch.keep {a : Addr} {A : Cell} {U U' : State} (h : Ch a A U) (hal : U.vm.Alike U'.vm) (hk : U'.heap[a]? = some A) : Ch a A U' := ⟨h.1.keep hal hk, h.2⟩
/-- what place i of a char[]'s cell holds -/
def cv (A : Cell) (i : Nat) : Int32 := match A.slots[i]? with | some (.int x) => x | _ => 0
theorem Ch.get {a : Addr} {A : Cell} {U : State} (h : Ch a A U) {i : Nat} (hi : i < A.slots.size) : A.slots[i]? = some (.int (cv A i)) := by
  have e := Array.getElem?_eq_getElem hi
  have f := h.2 i _ e
  unfold cv; rw [e]
  generalize A.slots[i] = v at f
  cases v <;> simp [fits] at f ⊢
/-- the byte that i2b leaves of a char -/
def lo8 (x : Int32) : Int32 := x.toInt8.toInt32
theorem fits_lo8 (y : Int32) : fits .byte (.int (lo8 y)) = true := by
  have h1 := y.toInt8.le_toInt
  have h2 := y.toInt8.toInt_lt
  simp only [lo8, fits, Bool.and_eq_true, decide_eq_true_eq, Int32.le_iff_toInt_le, Int8.toInt_toInt32, show (-128 : Int32).toInt = -128 from by decide, show (127 : Int32).toInt = 127 from by decide]
  omega
/-- A' is A but that each place j of lo .. hi - 1 holds f j -/
def Laid (A A' : Cell) (lo hi : Nat) (f : Nat → Value) : Prop := A'.cls = A.cls ∧ A'.vm = A.vm ∧ A'.slots.size = A.slots.size ∧ ∀ i, A'.slots[i]? = if lo ≤ i ∧ i < hi then some (f i) else A.slots[i]?
theorem Laid.zero (A : Cell) (lo : Nat) (f : Nat → Value) : Laid A A lo (lo + 0) f := ⟨rfl, rfl, rfl, fun i => by rw [if_neg (by omega)]⟩
theorem Laid.step {A Ak : Cell} {lo k : Nat} {f : Nat → Value} {v : Value} (h : Laid A Ak lo k f) (hlo : lo ≤ k) (hk : k < Ak.slots.size) (hv : v = f k) : Laid A (Ak.setSlot k v) lo (k + 1) f := by
  refine ⟨h.1, h.2.1, by simpa [Cell.setSlot] using h.2.2.1, fun i => ?_⟩
  by_cases e : k = i
  · subst e; rw [Cell.slots_setSlot_self v hk, if_pos (by omega), hv]
  · rw [Cell.slots_setSlot_ne v e, h.2.2.2 i]
    by_cases q : lo ≤ i ∧ i < k
    · rw [if_pos q, if_pos (by omega)]
    · rw [if_neg q, if_neg (by omega)]
def U16 : String := "java/lang/StringUTF16"
namespace Cmp5
def yN : MethodName := ⟨"java/lang/StringUTF16", "compress", "([CI[BII)I"⟩
abbrev yB : ByteArray := jdk_52_method_21_code
theorem d0 : decode yB 0 = .ok (.iconst 0, 1) := by decide +kernel
theorem d1 : decode yB 1 = .ok (.istore 5, 2) := by decide +kernel
theorem d3 : decode yB 3 = .ok (.iload 5, 2) := by decide +kernel
theorem d5 : decode yB 5 = .ok (.iload 4, 2) := by decide +kernel
theorem d7 : decode yB 7 = .ok (.if_icmp (.ge) 37, 3) := by decide +kernel
theorem d10 : decode yB 10 = .ok (.aload_n 0, 1) := by decide +kernel
theorem d11 : decode yB 11 = .ok (.iload_n 1, 1) := by decide +kernel
theorem d12 : decode yB 12 = .ok (.caload, 1) := by decide +kernel
theorem d13 : decode yB 13 = .ok (.istore 6, 2) := by decide +kernel
theorem d15 : decode yB 15 = .ok (.iload 6, 2) := by decide +kernel
theorem d17 : decode yB 17 = .ok (.sipush 255, 3) := by decide +kernel
theorem d20 : decode yB 20 = .ok (.if_icmp (.le) 6, 3) := by decide +kernel
theorem d26 : decode yB 26 = .ok (.aload_n 2, 1) := by decide +kernel
theorem d27 : decode yB 27 = .ok (.iload_n 3, 1) := by decide +kernel
theorem d28 : decode yB 28 = .ok (.iload 6, 2) := by decide +kernel
theorem d30 : decode yB 30 = .ok (.i2b, 1) := by decide +kernel
theorem d31 : decode yB 31 = .ok (.bastore, 1) := by decide +kernel
theorem d32 : decode yB 32 = .ok (.iinc 1 1, 3) := by decide +kernel
theorem d35 : decode yB 35 = .ok (.iinc 3 1, 3) := by decide +kernel
theorem d38 : decode yB 38 = .ok (.iinc 5 1, 3) := by decide +kernel
theorem d41 : decode yB 41 = .ok (.goto (-38), 3) := by decide +kernel
theorem d44 : decode yB 44 = .ok (.iload 4, 2) := by decide +kernel
theorem d46 : decode yB 46 = .ok (.ireturn, 1) := by decide +kernel
def site : List Cond := []
def tab : Cond := tabOf yN yB 7 (some .int) site
def P (b : Addr) (A : Cell) (d : Addr) (B : Cell) (o q len : Nat) (args : Array Value) (s : State) : Prop := args = #[.ref b, .int (Int32.ofNat o), .ref d, .int (Int32.ofNat q), .int (Int32.ofNat len)] ∧ Ch b A s ∧ Arr .byte d B s ∧ b ≠ d ∧ o + len ≤ A.slots.size ∧ q + len ≤ B.slots.size ∧ ∀ i, i < len → ¬ 255 < cv A (o + i)
def E (b : Addr) (A : Cell) (d : Addr) (B : Cell) (o q len : Nat) (r : Option Value) (s u : State) : Prop := r = some (.int (Int32.ofNat len)) ∧ ∃ B', Put d B' s u ∧ Laid B B' q (q + len) (fun j => Value.int (lo8 (cv A (o + (j - q)))))
/-- no char of the range above 255: len; the places written hold each char's low byte -/
theorem law (l : Launch) (b : Addr) (A : Cell) (d : Addr) (B : Cell) (o q len : Nat) : Law l yN 5 5 0 0 yB 7 (some .int) site (P b A d B o q len) (E b A d B o q len) (copyLocs d q len) 0 0 := by
  refine Law.of_walk (plainFor_of_name (by decide +kernel)) (by decide +kernel) (by decide +kernel) (by decide) (fun _ _ h => by rw [h.1]; rfl) (fun _ U U' hal hh h => ⟨h.1, h.2.1.mv hal hh, h.2.2.1.mv hal hh, h.2.2.2⟩) (fun r U U' V V' h1 hal h2 h => ⟨h.1, h.2.elim fun B' q => ⟨B', q.1.mv h1 h2, q.2⟩⟩) ?_
  intro p e s m args below meth c s₁ X0 hexec hbytes hml hret hlk hnm hown hh0 W hP
  obtain ⟨rfl, hA, hB, hne, l1, l2, hp⟩ := hP
  have c1 : Steps p.tables e below (s₁.setTop (entryFrame m #[.ref b, .int (Int32.ofNat o), .ref d, .int (Int32.ofNat q), .int (Int32.ofNat len)] 7)) (s₁.setTop (mkF m 0 #[.val (.ref b), .val (.int (Int32.ofNat o)), .val (.ref d), .val (.int (Int32.ofNat q)), .val (.int (Int32.ofNat len)), .unset, .unset] [])) := entry rfl
  have hA0 := hA.1.mv X0.warmed.alike hh0
  have hB0 := hB.mv X0.warmed.alike hh0
  have a31 := hA.1.2.2.2
  have c2 : Steps p.tables e below (s₁.setTop (entryFrame m #[.ref b, .int (Int32.ofNat o), .ref d, .int (Int32.ofNat q), .int (Int32.ofNat len)] 7)) (s₁.setTop (mkF m 3 #[.val (.ref b), .val (.int (Int32.ofNat o)), .val (.ref d), .val (.int (Int32.ofNat q)), .val (.int (Int32.ofNat len)), .val (.int 0), .unset] [])) := c1.trans (by
    refine iconstV X0.here hexec rfl 0 (hb hbytes d0) (by decide) ?_
    refine XS.istore X0.here hexec rfl (hb hbytes d1) rfl rfl ?_
    exact Steps.refl _)
  have loop : ∀ (r i : Nat), i + r = len → ∀ (z : Slot), (z = .unset ∨ ∃ w, z = .val w ∧ w.category = 1) → ∀ (Tl : State) (Bk : Cell), Stand p l e { frames := 0, locals := 0, cells := 0, slots := 0 } s m #[.ref b, .int (Int32.ofNat o), .ref d, .int (Int32.ofNat q), .int (Int32.ofNat len)] below meth c Tl ([] ++ copyLocs d q i) 0 0 → Put d Bk s₁ Tl → Laid B Bk q (q + i) (fun j => Value.int (lo8 (cv A (o + (j - q))))) →
      Steps p.tables e below (s₁.setTop (entryFrame m #[.ref b, .int (Int32.ofNat o), .ref d, .int (Int32.ofNat q), .int (Int32.ofNat len)] 7)) (Tl.setTop (mkF m 3 #[.val (.ref b), .val (.int (Int32.ofNat (o + i))), .val (.ref d), .val (.int (Int32.ofNat (q + i))), .val (.int (Int32.ofNat len)), .val (.int (Int32.ofNat i)), z] [])) → ∃ (T' : State) (B' : Cell) (z' : Slot), Stand p l e { frames := 0, locals := 0, cells := 0, slots := 0 } s m #[.ref b, .int (Int32.ofNat o), .ref d, .int (Int32.ofNat q), .int (Int32.ofNat len)] below meth c T' ([] ++ copyLocs d q len) 0 0 ∧ Put d B' s₁ T' ∧ Laid B B' q (q + len) (fun j => Value.int (lo8 (cv A (o + (j - q))))) ∧
      Steps p.tables e below (s₁.setTop (entryFrame m #[.ref b, .int (Int32.ofNat o), .ref d, .int (Int32.ofNat q), .int (Int32.ofNat len)] 7)) (T'.setTop (mkF m 3 #[.val (.ref b), .val (.int (Int32.ofNat (o + len))), .val (.ref d), .val (.int (Int32.ofNat (q + len))), .val (.int (Int32.ofNat len)), .val (.int (Int32.ofNat len)), z'] [])) := by
    intro r
    induction r with
    | zero =>
      intro i hi z hz Tl Bk Xl pl fl cl
      have hil : i = len := by omega
      rw [hil] at Xl fl cl
      exact ⟨Tl, Bk, z, Xl, pl, fl, cl⟩
    | succ r ih =>
      intro i hi z hz Tl Bk Xl pl fl cl
      have all := X0.warmed.alike.symm.trans Xl.warmed.alike
      have hAl := hA0.keep all (pl.other hne hA0.1)
      have hBk := hB0.like all pl.1 fl.1 fl.2.1 fl.2.2.1
      have hlt : q + i < Bk.slots.size := by rw [fl.2.2.1]; omega
      have c3 : Steps p.tables e below (s₁.setTop (entryFrame m #[.ref b, .int (Int32.ofNat o), .ref d, .int (Int32.ofNat q), .int (Int32.ofNat len)] 7)) (Tl.setTop (mkF m 12 #[.val (.ref b), .val (.int (Int32.ofNat (o + i))), .val (.ref d), .val (.int (Int32.ofNat (q + i))), .val (.int (Int32.ofNat len)), .val (.int (Int32.ofNat i)), z] [.int (Int32.ofNat (o + i)), .ref b])) := cl.trans (by
        refine XS.iload Xl.here hexec rfl (hb hbytes d3) rfl ?_
        refine XS.iload Xl.here hexec rfl (hb hbytes d5) rfl ?_
        refine XS.icmpNo Xl.here hexec rfl (hb hbytes d7) rfl (ii_ge_f (lt32 (by omega) (by omega))) ?_
        refine XS.aloadN Xl.here hexec rfl (hb hbytes d10) rfl rfl ?_
        refine XS.iloadN Xl.here hexec rfl (hb hbytes d11) rfl ?_
        exact Steps.refl _)
      have c4 : Steps p.tables e below (s₁.setTop (entryFrame m #[.ref b, .int (Int32.ofNat o), .ref d, .int (Int32.ofNat q), .int (Int32.ofNat len)] 7)) (Tl.setTop (mkF m 13 #[.val (.ref b), .val (.int (Int32.ofNat (o + i))), .val (.ref d), .val (.int (Int32.ofNat (q + i))), .val (.int (Int32.ofNat len)), .val (.int (Int32.ofNat i)), z] [.int (cv A (o + i))])) := c3.trans (by
        refine Xl.aget hexec hAl rfl (hA.get (i := o + i) (by omega)) rfl rfl (hb hbytes d12) ?_
        exact Steps.refl _)
      have c5 : Steps p.tables e below (s₁.setTop (entryFrame m #[.ref b, .int (Int32.ofNat o), .ref d, .int (Int32.ofNat q), .int (Int32.ofNat len)] 7)) (Tl.setTop (mkF m 15 #[.val (.ref b), .val (.int (Int32.ofNat (o + i))), .val (.ref d), .val (.int (Int32.ofNat (q + i))), .val (.int (Int32.ofNat len)), .val (.int (Int32.ofNat i)), .val (.int (cv A (o + i)))] [])) := c4.trans (by
        refine XS.istoreS Xl.here hexec rfl (hb hbytes d13) rfl rfl hz ?_
        exact Steps.refl _)
      have c6 : Steps p.tables e below (s₁.setTop (entryFrame m #[.ref b, .int (Int32.ofNat o), .ref d, .int (Int32.ofNat q), .int (Int32.ofNat len)] 7)) (Tl.setTop (mkF m 31 #[.val (.ref b), .val (.int (Int32.ofNat (o + i))), .val (.ref d), .val (.int (Int32.ofNat (q + i))), .val (.int (Int32.ofNat len)), .val (.int (Int32.ofNat i)), .val (.int (cv A (o + i)))] [.int (lo8 (cv A (o + i))), .int (Int32.ofNat (q + i)), .ref d])) := c5.trans (by
        refine XS.iload Xl.here hexec rfl (hb hbytes d15) rfl ?_
        refine sipushV Xl.here hexec rfl 255 (hb hbytes d17) (by decide) ?_
        refine XS.icmpYes Xl.here hexec rfl (pc0 := 20) rfl (hb hbytes d20) rfl (ii_le_t (hp i (by omega))) (by decide) rfl ?_
        refine XS.aloadN Xl.here hexec rfl (hb hbytes d26) rfl rfl ?_
        refine XS.iloadN Xl.here hexec rfl (hb hbytes d27) rfl ?_
        refine XS.iload Xl.here hexec rfl (hb hbytes d28) rfl ?_
        refine i2b Xl.here hexec rfl (hb hbytes d30) rfl ?_
        exact Steps.refl _)
      obtain ⟨T7, X7, p7, st7⟩ := Xl.aput hexec hBk rfl hlt rfl (fits_lo8 (cv A (o + i))) (g := (mkF m 31 #[.val (.ref b), .val (.int (Int32.ofNat (o + i))), .val (.ref d), .val (.int (Int32.ofNat (q + i))), .val (.int (Int32.ofNat len)), .val (.int (Int32.ofNat i)), .val (.int (cv A (o + i)))] [.int (lo8 (cv A (o + i))), .int (Int32.ofNat (q + i)), .ref d])) rfl (rest := []) rfl (hb hbytes d31)
      have c8 : Steps p.tables e below (s₁.setTop (entryFrame m #[.ref b, .int (Int32.ofNat o), .ref d, .int (Int32.ofNat q), .int (Int32.ofNat len)] 7)) (T7.setTop (mkF m 32 #[.val (.ref b), .val (.int (Int32.ofNat (o + i))), .val (.ref d), .val (.int (Int32.ofNat (q + i))), .val (.int (Int32.ofNat len)), .val (.int (Int32.ofNat i)), .val (.int (cv A (o + i)))] [])) := c6.trans (st7 _ (Steps.refl _))
      have c9 : Steps p.tables e below (s₁.setTop (entryFrame m #[.ref b, .int (Int32.ofNat o), .ref d, .int (Int32.ofNat q), .int (Int32.ofNat len)] 7)) (T7.setTop (mkF m 3 #[.val (.ref b), .val (.int (Int32.ofNat (o + i) + 1)), .val (.ref d), .val (.int (Int32.ofNat (q + i) + 1)), .val (.int (Int32.ofNat len)), .val (.int (Int32.ofNat i + 1)), .val (.int (cv A (o + i)))] [])) := c8.trans (by
        refine iincV X7.here hexec rfl 1 (hb hbytes d32) (by decide) rfl rfl ?_
        refine iincV X7.here hexec rfl 1 (hb hbytes d35) (by decide) rfl rfl ?_
        refine iincV X7.here hexec rfl 1 (hb hbytes d38) (by decide) rfl rfl ?_
        refine XS.goto X7.here hexec rfl (pc0 := 41) rfl (hb hbytes d41) (by decide) rfl ?_
        exact Steps.refl _)
      have c10 : Steps p.tables e below (s₁.setTop (entryFrame m #[.ref b, .int (Int32.ofNat o), .ref d, .int (Int32.ofNat q), .int (Int32.ofNat len)] 7)) (T7.setTop (mkF m 3 #[.val (.ref b), .val (.int (Int32.ofNat (o + (i + 1)))), .val (.ref d), .val (.int (Int32.ofNat (q + (i + 1)))), .val (.int (Int32.ofNat len)), .val (.int (Int32.ofNat (i + 1))), .val (.int (cv A (o + i)))] [])) := by
        have := c9
        rw [succ32, succ32, succ32] at this
        exact this
      exact ih (i + 1) (by omega) _ (Or.inr ⟨_, rfl, rfl⟩) T7 _ (by rw [copyLocs_step, ← List.append_assoc]; exact X7) (pl.trans p7) (fl.step (by omega) hlt (by simp)) c10
  obtain ⟨T9, B9, z9, X9, p9, f9, g9⟩ := loop len 0 (by omega) .unset (Or.inl rfl) s₁ B (by simpa [copyLocs] using X0) ⟨hB0.1, fun _ _ => rfl, rfl⟩ (Laid.zero _ _ _) c2
  have c11 : Steps p.tables e below (s₁.setTop (entryFrame m #[.ref b, .int (Int32.ofNat o), .ref d, .int (Int32.ofNat q), .int (Int32.ofNat len)] 7)) (T9.setTop (mkF m 46 #[.val (.ref b), .val (.int (Int32.ofNat (o + len))), .val (.ref d), .val (.int (Int32.ofNat (q + len))), .val (.int (Int32.ofNat len)), .val (.int (Int32.ofNat len)), z9] [.int (Int32.ofNat len)])) := g9.trans (by
    refine XS.iload X9.here hexec rfl (hb hbytes d3) rfl ?_
    refine XS.iload X9.here hexec rfl (hb hbytes d5) rfl ?_
    refine XS.icmpYes X9.here hexec rfl (pc0 := 7) rfl (hb hbytes d7) rfl (ii_ge_t (nlt32 (by omega) (Nat.le_refl _))) (by decide) rfl ?_
    refine XS.iload X9.here hexec rfl (hb hbytes d44) rfl ?_
    exact Steps.refl _)
  exact ⟨T9, some (.int (Int32.ofNat len)), _, _, _, X9, by simp, rfl, rfl, (fun h => by cases h), ⟨rfl, B9, p9.from hh0, f9⟩, fun fs hl => c11.trans (X9.ireturnOut hexec hret rfl (Or.inl rfl) (hb hbytes d46) hl)⟩
end Cmp5
namespace Cmp3
def yN : MethodName := ⟨"java/lang/StringUTF16", "compress", "([CII)[B"⟩
abbrev yB : ByteArray := jdk_52_method_16_code
theorem d0 : decode yB 0 = .ok (.iload_n 2, 1) := by decide +kernel
theorem d1 : decode yB 1 = .ok (.newarray .byte, 2) := by decide +kernel
theorem d3 : decode yB 3 = .ok (.astore_n 3, 1) := by decide +kernel
theorem d4 : decode yB 4 = .ok (.aload_n 0, 1) := by decide +kernel
theorem d5 : decode yB 5 = .ok (.iload_n 1, 1) := by decide +kernel
theorem d6 : decode yB 6 = .ok (.aload_n 3, 1) := by decide +kernel
theorem d7 : decode yB 7 = .ok (.iconst 0, 1) := by decide +kernel
theorem d8 : decode yB 8 = .ok (.iload_n 2, 1) := by decide +kernel
theorem d9 : decode yB 9 = .ok (.invokestatic 115, 3) := by decide +kernel
theorem d12 : decode yB 12 = .ok (.istore 4, 2) := by decide +kernel
theorem d14 : decode yB 14 = .ok (.iload 4, 2) := by decide +kernel
theorem d16 : decode yB 16 = .ok (.iload_n 2, 1) := by decide +kernel
theorem d17 : decode yB 17 = .ok (.if_icmp (.eq) 40, 3) := by decide +kernel
theorem d57 : decode yB 57 = .ok (.aload_n 3, 1) := by decide +kernel
theorem d58 : decode yB 58 = .ok (.areturn, 1) := by decide +kernel
def site : List Cond := [.arrayClass .byte, Cmp5.tab] ++ staticW U16 115 Cmp5.yN
def tab : Cond := tabOf yN yB 6 (some (.array .byte)) site
def P (b : Addr) (A : Cell) (o len : Nat) (args : Array Value) (s : State) : Prop := args = #[.ref b, .int (Int32.ofNat o), .int (Int32.ofNat len)] ∧ Ch b A s ∧ o + len ≤ A.slots.size ∧ len ≤ 536870912 ∧ ∀ i, i < len → ¬ 255 < cv A (o + i)
def E (b : Addr) (A : Cell) (o len : Nat) (r : Option Value) (s u : State) : Prop := NewArr .byte "[B" len (fun j => .int (lo8 (cv A (o + j)))) r s u ∧ u.heap.size = s.heap.size + 1
/-- no char of the range above 255: a new byte[] of their low bytes -/
theorem law (l : Launch) (b : Addr) (A : Cell) (o len : Nat) : Law l yN 3 3 1 18 yB 6 (some (.array .byte)) site (P b A o len) (E b A o len) [] 1 len := by
  refine Law.of_walk (plainFor_of_name (by decide +kernel)) (by decide +kernel) (by decide +kernel) (by decide) (fun _ _ h => by rw [h.1]; rfl) (fun _ U U' hal hh h => ⟨h.1, h.2.1.mv hal hh, h.2.2⟩) (fun r U U' V V' h1 hal h2 h => ⟨NewArr.mv r U U' V V' h1 hal h2 h.1, by rw [h1, h2]; exact h.2⟩) ?_
  intro p e s m args below meth c s₁ X0 hexec hbytes hml hret hlk hnm hown hh0 W hP
  obtain ⟨rfl, hA, l1, l2, hp⟩ := hP
  have a31 := hA.1.2.2.2
  have c1 : Steps p.tables e below (s₁.setTop (entryFrame m #[.ref b, .int (Int32.ofNat o), .int (Int32.ofNat len)] 6)) (s₁.setTop (mkF m 0 #[.val (.ref b), .val (.int (Int32.ofNat o)), .val (.int (Int32.ofNat len)), .unset, .unset, .unset] [])) := entry rfl
  have c2 : Steps p.tables e below (s₁.setTop (entryFrame m #[.ref b, .int (Int32.ofNat o), .int (Int32.ofNat len)] 6)) (s₁.setTop (mkF m 1 #[.val (.ref b), .val (.int (Int32.ofNat o)), .val (.int (Int32.ofNat len)), .unset, .unset, .unset] [.int (Int32.ofNat len)])) := c1.trans (by
    refine XS.iloadN X0.here hexec rfl (hb hbytes d0) rfl ?_
    exact Steps.refl _)
  obtain ⟨T3, B3, X3, ba3, bs3, bv3, bh3, bf3, st3⟩ := X0.anew hexec (atype := .byte) (wk W (.arrayClass .byte)) rfl (by show len * 1 ≤ _; omega) (by omega) (g := (mkF m 1 #[.val (.ref b), .val (.int (Int32.ofNat o)), .val (.int (Int32.ofNat len)), .unset, .unset, .unset] [.int (Int32.ofNat len)])) rfl (hb hbytes d1) (rest := []) rfl (Nat.le_refl _) (by show 0 + len ≤ len; omega)
  rw [hh0] at ba3 st3
  have kp3 : XT.Kept s T3 := (XT.Kept.of_eq hh0).push bh3
  have hA3 := hA.keep X3.warmed.alike (kp3 _ _ hA.1.1)
  have hne : b ≠ s.heap.size := hA.1.ne
  have c4 : Steps p.tables e below (s₁.setTop (entryFrame m #[.ref b, .int (Int32.ofNat o), .int (Int32.ofNat len)] 6)) (T3.setTop (mkF m 3 #[.val (.ref b), .val (.int (Int32.ofNat o)), .val (.int (Int32.ofNat len)), .unset, .unset, .unset] [.ref s.heap.size])) := c2.trans (st3 _ (Steps.refl _))
  have c5 : Steps p.tables e below (s₁.setTop (entryFrame m #[.ref b, .int (Int32.ofNat o), .int (Int32.ofNat len)] 6)) (T3.setTop (mkF m 9 #[.val (.ref b), .val (.int (Int32.ofNat o)), .val (.int (Int32.ofNat len)), .val (.ref s.heap.size), .unset, .unset] [.int (Int32.ofNat len), .int 0, .ref s.heap.size, .int (Int32.ofNat o), .ref b])) := c4.trans (by
    refine XS.astoreN X3.here hexec rfl (hb hbytes d3) rfl rfl rfl ?_
    refine XS.aloadN X3.here hexec rfl (hb hbytes d4) rfl rfl ?_
    refine XS.iloadN X3.here hexec rfl (hb hbytes d5) rfl ?_
    refine XS.aloadN X3.here hexec rfl (hb hbytes d6) rfl rfl ?_
    refine iconstV X3.here hexec rfl 0 (hb hbytes d7) (by decide) ?_
    refine XS.iloadN X3.here hexec rfl (hb hbytes d8) rfl ?_
    exact Steps.refl _)
  obtain ⟨v6, T6, X6, E6, g6⟩ := X3.callS hexec (Cmp5.law l b A s.heap.size B3 o 0 len) hown (wks W (staticW U16 115 Cmp5.yN)) (wk W Cmp5.tab) (W := 0) (Nat.le_of_ble_eq_true rfl) (Nat.le_of_ble_eq_true rfl) (Nat.le_refl _) (by show 0 + len + 0 ≤ len; omega) (g := (mkF m 9 #[.val (.ref b), .val (.int (Int32.ofNat o)), .val (.int (Int32.ofNat len)), .val (.ref s.heap.size), .unset, .unset] [.int (Int32.ofNat len), .int (Int32.ofNat 0), .ref s.heap.size, .int (Int32.ofNat o), .ref b])) rfl (by rw [hml]; rfl) c5 (argsL := [.ref b, .int (Int32.ofNat o), .ref s.heap.size, .int (Int32.ofNat 0), .int (Int32.ofNat len)]) (rest := []) rfl rfl (by show 2 * 0 + 0 ≤ _; decide) (hb hbytes d9) (⟨rfl, hA3, ba3, hne, l1, by rw [bs3]; simp, hp⟩)
  obtain ⟨rfl, B6, p6, f6⟩ := E6
  have c7 : Steps p.tables e below (s₁.setTop (entryFrame m #[.ref b, .int (Int32.ofNat o), .int (Int32.ofNat len)] 6)) (T6.setTop (mkF m 12 #[.val (.ref b), .val (.int (Int32.ofNat o)), .val (.int (Int32.ofNat len)), .val (.ref s.heap.size), .unset, .unset] [.int (Int32.ofNat len)])) := g6
  have c8 : Steps p.tables e below (s₁.setTop (entryFrame m #[.ref b, .int (Int32.ofNat o), .int (Int32.ofNat len)] 6)) (T6.setTop (mkF m 58 #[.val (.ref b), .val (.int (Int32.ofNat o)), .val (.int (Int32.ofNat len)), .val (.ref s.heap.size), .val (.int (Int32.ofNat len)), .unset] [.ref s.heap.size])) := c7.trans (by
    refine XS.istore X6.here hexec rfl (hb hbytes d12) rfl rfl ?_
    refine XS.iload X6.here hexec rfl (hb hbytes d14) rfl ?_
    refine XS.iloadN X6.here hexec rfl (hb hbytes d16) rfl ?_
    refine XS.icmpYes X6.here hexec rfl (pc0 := 17) rfl (hb hbytes d17) rfl (ii_eq_t rfl) (by decide) rfl ?_
    refine XS.aloadN X6.here hexec rfl (hb hbytes d57) rfl rfl ?_
    exact Steps.refl _)
  have X8 := X6.wide (L' := []) (cells' := 1) (slots' := len) (fun x hx hlt => by
    simp only [List.nil_append, copyLocs, List.mem_map, List.mem_range] at hx
    obtain ⟨i, -, rfl⟩ := hx
    exact absurd hlt (Nat.lt_irrefl _)) (Nat.le_refl _) (by omega)
  exact ⟨T6, some (.ref s.heap.size), _, _, _, X8, rfl, rfl, rfl, (fun h => by cases h), ⟨⟨rfl, B6, ba3.like (X3.warmed.alike.symm.trans X6.warmed.alike) p6.1 f6.1 f6.2.1 f6.2.2.1, f6.2.1.trans bv3, by rw [X6.warmed.alike.findClass, f6.1]; exact bf3, by rw [f6.2.2.1, bs3]; simp, fun j hj => by rw [f6.2.2.2 j, if_pos (by omega)]; rfl, kp3.put p6 (Nat.le_refl _)⟩, by rw [p6.2.2, bh3, hh0]; simp⟩, fun fs hl => c8.trans (X8.areturnOut hexec rfl hret rfl (hb hbytes d58) hl)⟩
end Cmp3
namespace CodL
def yN : MethodName := ⟨"java/lang/StringUTF16", "coderFromArrayLen", "([BI)B"⟩
abbrev yB : ByteArray := jdk_52_method_15_code
theorem d0 : decode yB 0 = .ok (.iload_n 1, 1) := by decide +kernel
theorem d1 : decode yB 1 = .ok (.aload_n 0, 1) := by decide +kernel
theorem d2 : decode yB 2 = .ok (.arraylength, 1) := by decide +kernel
theorem d3 : decode yB 3 = .ok (.isub, 1) := by decide +kernel
theorem d4 : decode yB 4 = .ok (.bipush 31, 2) := by decide +kernel
theorem d6 : decode yB 6 = .ok (.iushr, 1) := by decide +kernel
theorem d7 : decode yB 7 = .ok (.i2b, 1) := by decide +kernel
theorem d8 : decode yB 8 = .ok (.ireturn, 1) := by decide +kernel
def site : List Cond := []
def tab : Cond := tabOf yN yB 2 (some .byte) site
def P (d : Addr) (B : Cell) (args : Array Value) (s : State) : Prop := args = #[.ref d, .int (Int32.ofNat B.slots.size)] ∧ Arr .byte d B s
def E (r : Option Value) (s u : State) : Prop := XT.PureE (some (.int 0)) r s u
/-- an array as long as the number of chars: LATIN1 -/
theorem law (l : Launch) (d : Addr) (B : Cell) : Law l yN 2 2 0 0 yB 2 (some .byte) site (P d B) E [] 0 0 := by
  refine Law.of_walk (plainFor_of_name (by decide +kernel)) (by decide +kernel) (by decide +kernel) (by decide) (fun _ _ h => by rw [h.1]; rfl) (fun _ U U' hal hh h => ⟨h.1, h.2.mv hal hh⟩) (fun r U U' V V' h1 hal h2 h => XT.PureE.mv r U U' V V' h1 hal h2 h) ?_
  intro p e s m args below meth c s₁ X0 hexec hbytes hml hret hlk hnm hown hh0 W hP
  obtain ⟨rfl, hB⟩ := hP
  have hB0 := hB.mv X0.warmed.alike hh0
  have c1 : Steps p.tables e below (s₁.setTop (entryFrame m #[.ref d, .int (Int32.ofNat B.slots.size)] 2)) (s₁.setTop (mkF m 0 #[.val (.ref d), .val (.int (Int32.ofNat B.slots.size))] [])) := entry rfl
  have c2 : Steps p.tables e below (s₁.setTop (entryFrame m #[.ref d, .int (Int32.ofNat B.slots.size)] 2)) (s₁.setTop (mkF m 2 #[.val (.ref d), .val (.int (Int32.ofNat B.slots.size))] [.ref d, .int (Int32.ofNat B.slots.size)])) := c1.trans (by
    refine XS.iloadN X0.here hexec rfl (hb hbytes d0) rfl ?_
    refine XS.aloadN X0.here hexec rfl (hb hbytes d1) rfl rfl ?_
    exact Steps.refl _)
  have c3 : Steps p.tables e below (s₁.setTop (entryFrame m #[.ref d, .int (Int32.ofNat B.slots.size)] 2)) (s₁.setTop (mkF m 8 #[.val (.ref d), .val (.int (Int32.ofNat B.slots.size))] [.int (lo8 (ushr (Int32.ofNat B.slots.size - Int32.ofNat B.slots.size) 31))])) := c2.trans (by
    refine X0.alen hexec hB0 rfl rfl (hb hbytes d2) ?_
    refine XS.isub X0.here hexec rfl (hb hbytes d3) rfl ?_
    refine bipushV X0.here hexec rfl 31 (hb hbytes d4) (by decide) ?_
    refine iushr X0.here hexec rfl (hb hbytes d6) rfl ?_
    refine i2b X0.here hexec rfl (hb hbytes d7) rfl ?_
    exact Steps.refl _)
  have e0 : lo8 (ushr (Int32.ofNat B.slots.size - Int32.ofNat B.slots.size) 31) = 0 := by rw [Int32.sub_self]; decide
  rw [e0] at c3
  exact ⟨s₁, some (.int 0), _, _, _, X0, rfl, rfl, rfl, (fun h => by cases h), ⟨rfl, hh0⟩, fun fs hl => c3.trans (X0.ireturnOut hexec hret rfl (Or.inr (Or.inr (Or.inl rfl))) (hb hbytes d8) hl)⟩
end CodL
/-- the String at a is Latin-1 over a new byte[] (the heap's one new cell): the low bytes of the len chars of A from o on; every cell but a is kept -/
def Got (a : Addr) (D : Cell) (fV fC : Field) (A : Cell) (o len : Nat) (r : Option Value) (s u : State) : Prop := r = none ∧ ∃ D' V : Cell, Blank "java/lang/String" a D' u ∧ Same D D' [fV.slot, fC.slot] ∧ D'.slots[fV.slot]? = some (.ref s.heap.size) ∧ D'.slots[fC.slot]? = some (.int 0) ∧ Arr .byte s.heap.size V u ∧ V.vm = .none ∧ u.vm.findClass "[B" = some V.cls ∧ V.slots.size = len ∧ (∀ j, j < len → V.slots[j]? = some (.int (lo8 (cv A (o + j))))) ∧ (∀ (y : Addr) (c : Cell), y ≠ a → s.heap[y]? = some c → u.heap[y]? = some c) ∧ u.heap.size = s.heap.size + 1
theorem Got.mv {a : Addr} {D A : Cell} {fV fC : Field} {o len : Nat} : ∀ r (U U' V V' : State), U'.heap = U.heap → V.vm.Alike V'.vm → V'.heap = V.heap → Got a D fV fC A o len r U V → Got a D fV fC A o len r U' V' :=
  fun r U U' V V' h1 hal h2 ⟨e0, D', X, a1, a2, a3, a4, a5, a6, a7, a8, a9, a10, a11⟩ => ⟨e0, D', X, a1.mv hal h2, a2, by rw [h1]; exact a3, a4, by rw [h1]; exact a5.mv hal h2, a6, by rw [hal.findClass]; exact a7, a8, a9, by rw [h1, h2]; exact a10, by rw [h1, h2]; exact a11⟩
namespace New4
def yN : MethodName := ⟨"java/lang/String", "<init>", "([CIILjava/lang/Void;)V"⟩
abbrev yB : ByteArray := jdk_42_method_149_code
theorem d0 : decode yB 0 = .ok (.aload_n 0, 1) := by decide +kernel
theorem d1 : decode yB 1 = .ok (.invokespecial 1, 3) := by decide +kernel
theorem d4 : decode yB 4 = .ok (.iload_n 3, 1) := by decide +kernel
theorem d5 : decode yB 5 = .ok (.ifCond (.ne) 22, 3) := by decide +kernel
theorem d27 : decode yB 27 = .ok (.getstatic 38, 3) := by decide +kernel
theorem d30 : decode yB 30 = .ok (.ifCond (.eq) 28, 3) := by decide +kernel
theorem d33 : decode yB 33 = .ok (.aload_n 1, 1) := by decide +kernel
theorem d34 : decode yB 34 = .ok (.iload_n 2, 1) := by decide +kernel
theorem d35 : decode yB 35 = .ok (.iload_n 3, 1) := by decide +kernel
theorem d36 : decode yB 36 = .ok (.invokestatic 177, 3) := by decide +kernel
theorem d39 : decode yB 39 = .ok (.astore 5, 2) := by decide +kernel
theorem d41 : decode yB 41 = .ok (.aload_n 0, 1) := by decide +kernel
theorem d42 : decode yB 42 = .ok (.aload 5, 2) := by decide +kernel
theorem d44 : decode yB 44 = .ok (.iload_n 3, 1) := by decide +kernel
theorem d45 : decode yB 45 = .ok (.invokestatic 47, 3) := by decide +kernel
theorem d48 : decode yB 48 = .ok (.putfield 15, 3) := by decide +kernel
theorem d51 : decode yB 51 = .ok (.aload_n 0, 1) := by decide +kernel
theorem d52 : decode yB 52 = .ok (.aload 5, 2) := by decide +kernel
theorem d54 : decode yB 54 = .ok (.putfield 9, 3) := by decide +kernel
theorem d57 : decode yB 57 = .ok (.return_, 1) := by decide +kernel
def site : List Cond := [.fieldLink "java/lang/String" 38 "java/lang/String" "COMPACT_STRINGS" "Z", Cmp3.tab, CodL.tab, .laysFinal "java/lang/String" "java/lang/String" "value" "[B", .fieldLink "java/lang/String" 9 "java/lang/String" "value" "[B", .laysFinal "java/lang/String" "java/lang/String" "coder" "B", .fieldLink "java/lang/String" 15 "java/lang/String" "coder" "B"] ++ objW "java/lang/String" 1 ++ staticW "java/lang/String" 177 Cmp3.yN ++ staticW "java/lang/String" 47 CodL.yN
def tab : Cond := tabOf yN yB 6 none site
def P (a : Addr) (D : Cell) (fV fC : Field) (b : Addr) (A : Cell) (z : Int32) (o len : Nat) (args : Array Value) (s : State) : Prop := args = #[.ref a, .ref b, .int (Int32.ofNat o), .int (Int32.ofNat len), .null] ∧ Blank "java/lang/String" a D s ∧ Found "java/lang/String" "value" "[B" fV s ∧ Found "java/lang/String" "coder" "B" fC s ∧ Ch b A s ∧ StaticIs s "java/lang/String" "COMPACT_STRINGS" "Z" (.int z) ∧ ¬ z = 0 ∧ 0 < len ∧ o + len ≤ A.slots.size ∧ len ≤ 536870912 ∧ ∀ i, i < len → ¬ 255 < cv A (o + i)
def E (a : Addr) (D : Cell) (fV fC : Field) (A : Cell) (o len : Nat) (r : Option Value) (s u : State) : Prop := Got a D fV fC A o len r s u
/-- len > 0, no char of the range above 255: a Latin-1 String of their low bytes -/
theorem law (l : Launch) (a : Addr) (D : Cell) (fV fC : Field) (b : Addr) (A : Cell) (z : Int32) (o len : Nat) : Law l yN 5 4 2 35 yB 6 none site (P a D fV fC b A z o len) (E a D fV fC A o len) [⟨a, fC.slot⟩, ⟨a, fV.slot⟩] 1 len := by
  refine Law.of_walk (plainFor_of_name (by decide +kernel)) (by decide +kernel) (by decide +kernel) (by decide) (fun _ _ h => by rw [h.1]; rfl) (fun _ U U' hal hh h => ⟨h.1, h.2.1.mv hal hh, h.2.2.1.al hal, h.2.2.2.1.al hal, h.2.2.2.2.1.mv hal hh, h.2.2.2.2.2.1.there hal hh, h.2.2.2.2.2.2⟩) (fun r U U' V V' h1 hal h2 h => Got.mv r U U' V V' h1 hal h2 h) ?_
  intro p e s m args below meth c s₁ X0 hexec hbytes hml hret hlk hnm hown hh0 W hP
  obtain ⟨rfl, hB, f1, f2, hA, s1, hz, l0, l1, l2, hp⟩ := hP
  have a31 := hA.1.2.2.2
  have c1 : Steps p.tables e below (s₁.setTop (entryFrame m #[.ref a, .ref b, .int (Int32.ofNat o), .int (Int32.ofNat len), .null] 6)) (s₁.setTop (mkF m 0 #[.val (.ref a), .val (.ref b), .val (.int (Int32.ofNat o)), .val (.int (Int32.ofNat len)), .val .null, .unset] [])) := entry rfl
  have c2 : Steps p.tables e below (s₁.setTop (entryFrame m #[.ref a, .ref b, .int (Int32.ofNat o), .int (Int32.ofNat len), .null] 6)) (s₁.setTop (mkF m 1 #[.val (.ref a), .val (.ref b), .val (.int (Int32.ofNat o)), .val (.int (Int32.ofNat len)), .val .null, .unset] [.ref a])) := c1.trans (by
    refine XS.aloadN X0.here hexec rfl (hb hbytes d0) rfl rfl ?_
    exact Steps.refl _)
  obtain ⟨T3, X3, q3, st3⟩ := X0.oinit hexec hown (wks W (objW "java/lang/String" 1)) (g := (mkF m 1 #[.val (.ref a), .val (.ref b), .val (.int (Int32.ofNat o)), .val (.int (Int32.ofNat len)), .val .null, .unset] [.ref a])) rfl (by rw [hml]; rfl) (rest := []) rfl (hb hbytes d1) (W := 0) (by show 2 * 0 + 0 ≤ _; decide) (Nat.le_of_ble_eq_true rfl) (Nat.le_of_ble_eq_true rfl)
  have hh3 := q3.trans hh0
  have c4 : Steps p.tables e below (s₁.setTop (entryFrame m #[.ref a, .ref b, .int (Int32.ofNat o), .int (Int32.ofNat len), .null] 6)) (T3.setTop (mkF m 27 #[.val (.ref a), .val (.ref b), .val (.int (Int32.ofNat o)), .val (.int (Int32.ofNat len)), .val .null, .unset] [])) := (c2.trans (st3 _ (Steps.refl _))).trans (by
    refine XS.iloadN X3.here hexec rfl (hb hbytes d4) rfl ?_
    refine XS.ifYes X3.here hexec rfl (pc0 := 5) rfl (hb hbytes d5) rfl (i0_ne_t (nz32 (by omega) l0)) (by decide) rfl ?_
    exact Steps.refl _)
  obtain ⟨T5, X5, q5, st5⟩ := X3.sget hexec hown (wk W (.fieldLink "java/lang/String" 38 "java/lang/String" "COMPACT_STRINGS" "Z")) s1 (fun _ _ h => by rw [hh3]; exact h) (g := (mkF m 27 #[.val (.ref a), .val (.ref b), .val (.int (Int32.ofNat o)), .val (.int (Int32.ofNat len)), .val .null, .unset] [])) rfl (hb hbytes d27)
  have hh5 := q5.trans hh3
  have c6 : Steps p.tables e below (s₁.setTop (entryFrame m #[.ref a, .ref b, .int (Int32.ofNat o), .int (Int32.ofNat len), .null] 6)) (T5.setTop (mkF m 30 #[.val (.ref a), .val (.ref b), .val (.int (Int32.ofNat o)), .val (.int (Int32.ofNat len)), .val .null, .unset] [.int z])) := c4.trans (st5 _ (Steps.refl _))
  have c7 : Steps p.tables e below (s₁.setTop (entryFrame m #[.ref a, .ref b, .int (Int32.ofNat o), .int (Int32.ofNat len), .null] 6)) (T5.setTop (mkF m 36 #[.val (.ref a), .val (.ref b), .val (.int (Int32.ofNat o)), .val (.int (Int32.ofNat len)), .val .null, .unset] [.int (Int32.ofNat len), .int (Int32.ofNat o), .ref b])) := c6.trans (by
    refine XS.ifNo X5.here hexec rfl (hb hbytes d30) rfl (i0_eq_f hz) ?_
    refine XS.aloadN X5.here hexec rfl (hb hbytes d33) rfl rfl ?_
    refine XS.iloadN X5.here hexec rfl (hb hbytes d34) rfl ?_
    refine XS.iloadN X5.here hexec rfl (hb hbytes d35) rfl ?_
    exact Steps.refl _)
  obtain ⟨v8, T8, X8, E8, g8⟩ := X5.callS hexec (Cmp3.law l b A o len) hown (wks W (staticW "java/lang/String" 177 Cmp3.yN)) (wk W Cmp3.tab) (W := 0) (Nat.le_of_ble_eq_true rfl) (Nat.le_of_ble_eq_true rfl) (Nat.le_refl _) (by show 0 + len ≤ len; omega) (g := (mkF m 36 #[.val (.ref a), .val (.ref b), .val (.int (Int32.ofNat o)), .val (.int (Int32.ofNat len)), .val .null, .unset] [.int (Int32.ofNat len), .int (Int32.ofNat o), .ref b])) rfl (by rw [hml]; rfl) c7 (argsL := [.ref b, .int (Int32.ofNat o), .int (Int32.ofNat len)]) (rest := []) rfl rfl (by show 2 * 0 + 0 ≤ _; decide) (hb hbytes d36) (⟨rfl, hA.mv X5.warmed.alike hh5, l1, l2, hp⟩)
  obtain ⟨e8, z8⟩ := E8
  obtain ⟨rfl, N, n1, n2, n3, n4, n5, n6⟩ := NewArr.mv _ T5 s _ _ hh5.symm (Vm.Alike.refl _) rfl e8
  rw [hh5] at z8
  have hB1 := hB.keep X8.warmed.alike (n6 _ _ hB.1)
  have hne : s.heap.size ≠ a := (Nat.ne_of_lt (Array.getElem?_eq_some_iff.mp hB.1).1).symm
  have c9 : Steps p.tables e below (s₁.setTop (entryFrame m #[.ref a, .ref b, .int (Int32.ofNat o), .int (Int32.ofNat len), .null] 6)) (T8.setTop (mkF m 39 #[.val (.ref a), .val (.ref b), .val (.int (Int32.ofNat o)), .val (.int (Int32.ofNat len)), .val .null, .unset] [.ref s.heap.size])) := g8
  have c10 : Steps p.tables e below (s₁.setTop (entryFrame m #[.ref a, .ref b, .int (Int32.ofNat o), .int (Int32.ofNat len), .null] 6)) (T8.setTop (mkF m 45 #[.val (.ref a), .val (.ref b), .val (.int (Int32.ofNat o)), .val (.int (Int32.ofNat len)), .val .null, .val (.ref s.heap.size)] [.int (Int32.ofNat N.slots.size), .ref s.heap.size, .ref a])) := by
    have hc : Steps p.tables e below (s₁.setTop (entryFrame m #[.ref a, .ref b, .int (Int32.ofNat o), .int (Int32.ofNat len), .null] 6)) (T8.setTop (mkF m 45 #[.val (.ref a), .val (.ref b), .val (.int (Int32.ofNat o)), .val (.int (Int32.ofNat len)), .val .null, .val (.ref s.heap.size)] [.int (Int32.ofNat len), .ref s.heap.size, .ref a])) := c9.trans (by
      refine XS.astore X8.here hexec rfl (hb hbytes d39) rfl rfl rfl ?_
      refine XS.aloadN X8.here hexec rfl (hb hbytes d41) rfl rfl ?_
      refine XS.aload X8.here hexec rfl (hb hbytes d42) rfl rfl ?_
      refine XS.iloadN X8.here hexec rfl (hb hbytes d44) rfl ?_
      exact Steps.refl _)
    rw [n4]; exact hc
  obtain ⟨v11, T11, X11, E11, g11⟩ := X8.callS hexec (CodL.law l s.heap.size N) hown (wks W (staticW "java/lang/String" 47 CodL.yN)) (wk W CodL.tab) (W := 1) (Nat.le_of_ble_eq_true rfl) (Nat.le_of_ble_eq_true rfl) (Nat.le_refl _) (by show 0 + len + 0 ≤ len; omega) (g := (mkF m 45 #[.val (.ref a), .val (.ref b), .val (.int (Int32.ofNat o)), .val (.int (Int32.ofNat len)), .val .null, .val (.ref s.heap.size)] [.int (Int32.ofNat N.slots.size), .ref s.heap.size, .ref a])) rfl (by rw [hml]; rfl) c10 (argsL := [.ref s.heap.size, .int (Int32.ofNat N.slots.size)]) (rest := [.ref a]) rfl rfl (by show 2 * 0 + (1 + 0) ≤ _; decide) (hb hbytes d45) (⟨rfl, n1⟩)
  obtain ⟨rfl, q11⟩ := E11
  have hB11 := hB1.mv (X8.warmed.alike.symm.trans X11.warmed.alike) q11
  have c12 : Steps p.tables e below (s₁.setTop (entryFrame m #[.ref a, .ref b, .int (Int32.ofNat o), .int (Int32.ofNat len), .null] 6)) (T11.setTop (mkF m 48 #[.val (.ref a), .val (.ref b), .val (.int (Int32.ofNat o)), .val (.int (Int32.ofNat len)), .val .null, .val (.ref s.heap.size)] [.int 0, .ref a])) := g11
  obtain ⟨T13, X13, p13, bl13, sl13, st13⟩ := X11.finit hexec hown (wk W (.fieldLink "java/lang/String" 15 "java/lang/String" "coder" "B")) (Or.inr ⟨_, (wk W (.laysFinal "java/lang/String" "java/lang/String" "coder" "B"))⟩) (Or.inl ⟨rfl, hnm⟩) f2 (Or.inl rfl) hB11 (t := .byte) (by decide +kernel) rfl (g := (mkF m 48 #[.val (.ref a), .val (.ref b), .val (.int (Int32.ofNat o)), .val (.int (Int32.ofNat len)), .val .null, .val (.ref s.heap.size)] [.int 0, .ref a])) rfl (rest := []) rfl (hb hbytes d48)
  have c14 : Steps p.tables e below (s₁.setTop (entryFrame m #[.ref a, .ref b, .int (Int32.ofNat o), .int (Int32.ofNat len), .null] 6)) (T13.setTop (mkF m 54 #[.val (.ref a), .val (.ref b), .val (.int (Int32.ofNat o)), .val (.int (Int32.ofNat len)), .val .null, .val (.ref s.heap.size)] [.ref s.heap.size, .ref a])) := (c12.trans (st13 _ (Steps.refl _))).trans (by
    refine XS.aloadN X13.here hexec rfl (hb hbytes d51) rfl rfl ?_
    refine XS.aload X13.here hexec rfl (hb hbytes d52) rfl rfl ?_
    exact Steps.refl _)
  obtain ⟨T15, X15, p15, bl15, sl15, st15⟩ := X13.finit hexec hown (wk W (.fieldLink "java/lang/String" 9 "java/lang/String" "value" "[B")) (Or.inr ⟨_, (wk W (.laysFinal "java/lang/String" "java/lang/String" "value" "[B"))⟩) (Or.inl ⟨rfl, hnm⟩) f1 (Or.inl rfl) bl13 (t := (.array .byte)) (by decide +kernel) rfl (g := (mkF m 54 #[.val (.ref a), .val (.ref b), .val (.int (Int32.ofNat o)), .val (.int (Int32.ofNat len)), .val .null, .val (.ref s.heap.size)] [.ref s.heap.size, .ref a])) rfl (rest := []) rfl (hb hbytes d54)
  have c16 : Steps p.tables e below (s₁.setTop (entryFrame m #[.ref a, .ref b, .int (Int32.ofNat o), .int (Int32.ofNat len), .null] 6)) (T15.setTop (mkF m 57 #[.val (.ref a), .val (.ref b), .val (.int (Int32.ofNat o)), .val (.int (Int32.ofNat len)), .val .null, .val (.ref s.heap.size)] [])) := c14.trans (st15 _ (Steps.refl _))
  have ap := apart (Or.inr ⟨_, (wk W (.laysFinal "java/lang/String" "java/lang/String" "value" "[B"))⟩) (Or.inr ⟨_, (wk W (.laysFinal "java/lang/String" "java/lang/String" "coder" "B"))⟩) f1 f2 (t₁ := .array .byte) (t₂ := .byte) (by decide +kernel) (by decide +kernel) (by decide)
  have al := X8.warmed.alike.symm.trans X15.warmed.alike
  have n7 : T11.heap[s.heap.size]? = some N := by rw [q11]; exact n1.1
  exact ⟨T15, none, _, _, _, X15, by simp, rfl, by omega, (fun _ => rfl), ⟨rfl, _, N, bl15, ((Same.refl D _).set _ (by simp)).set _ (by simp), sl15, (Cell.slots_setSlot_ne _ ap).trans sl13, n1.keep al (p15.other hne (p13.other hne n7)), n2, by rw [al.findClass]; exact n3, n4, n5, fun y c h1 h2 => p15.other h1 (p13.other h1 (by rw [q11]; exact n6 y c h2)), by rw [p15.2.2, p13.2.2, q11]; exact z8⟩, fun fs hl => c16.trans (X15.returnOut hexec hret (hb hbytes d57) hl)⟩
end New4
namespace New1
def yN : MethodName := ⟨"java/lang/String", "<init>", "([C)V"⟩
abbrev yB : ByteArray := jdk_42_method_3_code
theorem d0 : decode yB 0 = .ok (.aload_n 0, 1) := by decide +kernel
theorem d1 : decode yB 1 = .ok (.aload_n 1, 1) := by decide +kernel
theorem d2 : decode yB 2 = .ok (.iconst 0, 1) := by decide +kernel
theorem d3 : decode yB 3 = .ok (.aload_n 1, 1) := by decide +kernel
theorem d4 : decode yB 4 = .ok (.arraylength, 1) := by decide +kernel
theorem d5 : decode yB 5 = .ok (.aconst_null, 1) := by decide +kernel
theorem d6 : decode yB 6 = .ok (.invokespecial 27, 3) := by decide +kernel
theorem d9 : decode yB 9 = .ok (.return_, 1) := by decide +kernel
def site : List Cond := [New4.tab] ++ initW "java/lang/String" 27 New4.yN
def tab : Cond := tabOf yN yB 2 none site
def P (a : Addr) (D : Cell) (fV fC : Field) (b : Addr) (A : Cell) (z : Int32) (args : Array Value) (s : State) : Prop := args = #[.ref a, .ref b] ∧ Blank "java/lang/String" a D s ∧ Found "java/lang/String" "value" "[B" fV s ∧ Found "java/lang/String" "coder" "B" fC s ∧ Ch b A s ∧ StaticIs s "java/lang/String" "COMPACT_STRINGS" "Z" (.int z) ∧ ¬ z = 0 ∧ 0 < A.slots.size ∧ A.slots.size ≤ 536870912 ∧ ∀ i, i < A.slots.size → ¬ 255 < cv A i
def E (a : Addr) (D : Cell) (fV fC : Field) (A : Cell) (r : Option Value) (s u : State) : Prop := Got a D fV fC A 0 A.slots.size r s u
/-- new String(chars), not empty, no char above 255: a Latin-1 String of their low bytes -/
theorem law (l : Launch) (a : Addr) (D : Cell) (fV fC : Field) (b : Addr) (A : Cell) (z : Int32) : Law l yN 2 1 3 52 yB 2 none site (P a D fV fC b A z) (E a D fV fC A) [⟨a, fC.slot⟩, ⟨a, fV.slot⟩] 1 A.slots.size := by
  refine Law.of_walk (plainFor_of_name (by decide +kernel)) (by decide +kernel) (by decide +kernel) (by decide) (fun _ _ h => by rw [h.1]; rfl) (fun _ U U' hal hh h => ⟨h.1, h.2.1.mv hal hh, h.2.2.1.al hal, h.2.2.2.1.al hal, h.2.2.2.2.1.mv hal hh, h.2.2.2.2.2.1.there hal hh, h.2.2.2.2.2.2⟩) (fun r U U' V V' h1 hal h2 h => Got.mv r U U' V V' h1 hal h2 h) ?_
  intro p e s m args below meth c s₁ X0 hexec hbytes hml hret hlk hnm hown hh0 W hP
  obtain ⟨rfl, hB, f1, f2, hA, s1, hz, l0, l2, hp⟩ := hP
  have c1 : Steps p.tables e below (s₁.setTop (entryFrame m #[.ref a, .ref b] 2)) (s₁.setTop (mkF m 0 #[.val (.ref a), .val (.ref b)] [])) := entry rfl
  have c2 : Steps p.tables e below (s₁.setTop (entryFrame m #[.ref a, .ref b] 2)) (s₁.setTop (mkF m 6 #[.val (.ref a), .val (.ref b)] [.null, .int (Int32.ofNat A.slots.size), .int 0, .ref b, .ref a])) := c1.trans (by
    refine XS.aloadN X0.here hexec rfl (hb hbytes d0) rfl rfl ?_
    refine XS.aloadN X0.here hexec rfl (hb hbytes d1) rfl rfl ?_
    refine iconstV X0.here hexec rfl 0 (hb hbytes d2) (by decide) ?_
    refine XS.aloadN X0.here hexec rfl (hb hbytes d3) rfl rfl ?_
    refine X0.alen hexec (hA.1.mv X0.warmed.alike hh0) rfl rfl (hb hbytes d4) ?_
    refine XS.aconstNull X0.here hexec rfl (hb hbytes d5) ?_
    exact Steps.refl _)
  obtain ⟨v3, T3, X3, E3, g3⟩ := X0.callN hexec (New4.law l a D fV fC b A z 0 A.slots.size) rfl hown (wks W (initW "java/lang/String" 27 New4.yN)) (W New4.tab (by simp only [site, List.mem_cons, List.mem_append, true_or, or_true])) (W := 0) (Nat.le_of_ble_eq_true rfl) (Nat.le_of_ble_eq_true rfl) (Nat.le_refl _) (by show 0 + A.slots.size ≤ A.slots.size; omega) (g := (mkF m 6 #[.val (.ref a), .val (.ref b)] [.null, .int (Int32.ofNat A.slots.size), .int (Int32.ofNat 0), .ref b, .ref a])) rfl (by rw [hml]; rfl) c2 (argsL := [.ref b, .int (Int32.ofNat 0), .int (Int32.ofNat A.slots.size), .null]) (rest := []) rfl rfl (by show 2 * 0 + 0 ≤ _; decide) (hb hbytes d6) (⟨rfl, hB.mv X0.warmed.alike hh0, f1.al X0.warmed.alike, f2.al X0.warmed.alike, hA.mv X0.warmed.alike hh0, s1.there X0.warmed.alike hh0, hz, l0, by omega, l2, fun i hi => by rw [Nat.zero_add]; exact hp i hi⟩)
  have e0 := Got.mv _ s₁ s _ _ hh0.symm (Vm.Alike.refl _) rfl E3
  obtain rfl := e0.1
  have c4 : Steps p.tables e below (s₁.setTop (entryFrame m #[.ref a, .ref b] 2)) (T3.setTop (mkF m 9 #[.val (.ref a), .val (.ref b)] [])) := g3
  exact ⟨T3, none, _, _, _, X3, by simp, rfl, by omega, (fun _ => rfl), e0, fun fs hl => c4.trans (X3.returnOut hexec hret (hb hbytes d9) hl)⟩
theorem pays {l : Launch} {R : Room} {p : Program} {e : Env} {below : List Frame} {s : State} {sargs : Array Value} {len W : Nat} (a : Addr) (D : Cell) (fV fC : Field) (b : Addr) (A : Cell) (z : Int32) (htab : tab.before sargs s = true) (hfr : 4 ≤ R.frames) (hlo : W + 65 ≤ R.locals) :
    Back l R p e below s sargs yN len W (fun A₁ a₁ => A₁.cells + 1 ≤ R.cells ∧ A₁.slots + A.slots.size ≤ R.slots ∧ P a D fV fC b A z a₁ A₁.U) (fun A₁ _ v₁ B₁ => E a D fV fC A v₁ A₁.U B₁.U ∧ B₁.locs = A₁.locs ++ [⟨a, fC.slot⟩, ⟨a, fV.slot⟩] ∧ B₁.cells = A₁.cells + 1 ∧ B₁.slots = A₁.slots + A.slots.size) :=
  (law l a D fV fC b A z).pays htab hfr (by omega)
end New1
/-- the byte, read back as charAt reads it, is the char -/
theorem lo8_mask {x : Int32} (h0 : ¬ x < 0) (h1 : ¬ 255 < x) : lo8 x &&& 255 = x := by
  have t : ∀ k : Fin 256, lo8 (Int32.ofNat k.val) &&& 255 = Int32.ofNat k.val := by decide +kernel
  rw [Int32.lt_iff_toInt_lt] at h0 h1
  have e0 : (0 : Int32).toInt = 0 := rfl
  have e1 : (255 : Int32).toInt = 255 := rfl
  obtain ⟨k, hk⟩ : ∃ k : Nat, x.toInt = k := ⟨x.toInt.toNat, by omega⟩
  have hx : x = Int32.ofNat k := Int32.toInt_inj.mp (by rw [hk, Int32.toInt_ofNat_small (by omega)])
  rw [hx]
  exact t ⟨k, by omega⟩
end StrChars
namespace StrChars.Road
open Jvm Sem ClassFile Op Lib Jvm.Stand Jvm.Free Jvm.Free.XT
open Jvm.Lib.Cold (StaticIs)
abbrev ST : String := "java/lang/String"
/-- every table word that New1's law asks, flat -/
abbrev words : List Jvm.Cond := [.code New1.yN New1.yB 2 none, .initialized ST, .methodLink ST 27 New4.yN, .instanceMethod New4.yN,
  .code New4.yN New4.yB 6 none, .fieldLink ST 38 ST "COMPACT_STRINGS" "Z", .laysFinal ST ST "value" "[B", .fieldLink ST 9 ST "value" "[B", .laysFinal ST ST "coder" "B", .fieldLink ST 15 ST "coder" "B",
  .methodLink ST 1 Lib.objectInit, .instanceMethod Lib.objectInit, .code Lib.objectInit ⟨#[0xb1]⟩ 1 none, .methodLink ST 177 Cmp3.yN, .static Cmp3.yN, .methodLink ST 47 CodL.yN, .static CodL.yN,
  .code Cmp3.yN Cmp3.yB 6 (some (.array .byte)), .initialized U16, .arrayClass .byte, .methodLink U16 115 Cmp5.yN, .static Cmp5.yN, .code Cmp5.yN Cmp5.yB 7 (some .int), .code CodL.yN CodL.yB 2 (some .byte)]
theorem tab_of {a : Array Value} {s : State} (h : ∀ w ∈ words, w.before a s = true) : New1.tab.before a s = true := by
  have h5 : Cmp5.tab.before a s = true := unparts (wk h (.code Cmp5.yN Cmp5.yB 7 (some .int))) (wks h (.initialized Cmp5.yN.cls :: Cmp5.site))
  have hc : CodL.tab.before a s = true := unparts (wk h (.code CodL.yN CodL.yB 2 (some .byte))) (wks h (.initialized CodL.yN.cls :: CodL.site))
  have q5 : ∀ w ∈ Cmp5.tab :: words, w.before a s = true := fun w hw => (List.mem_cons.mp hw).elim (fun e => e ▸ h5) (h w)
  have h3 : Cmp3.tab.before a s = true := unparts (wk q5 (.code Cmp3.yN Cmp3.yB 6 (some (.array .byte)))) (wks q5 (.initialized Cmp3.yN.cls :: Cmp3.site))
  have q3 : ∀ w ∈ Cmp3.tab :: CodL.tab :: words, w.before a s = true := fun w hw => (List.mem_cons.mp hw).elim (fun e => e ▸ h3) fun hw => (List.mem_cons.mp hw).elim (fun e => e ▸ hc) (h w)
  have h4 : New4.tab.before a s = true := unparts (wk q3 (.code New4.yN New4.yB 6 none)) (wks q3 (.initialized New4.yN.cls :: New4.site))
  have q4 : ∀ w ∈ New4.tab :: words, w.before a s = true := fun w hw => (List.mem_cons.mp hw).elim (fun e => e ▸ h4) (h w)
  exact unparts (wk q4 (.code New1.yN New1.yB 2 none)) (wks q4 (.initialized New1.yN.cls :: New1.site))
/-- the words ride from the start Z to the walk's own state -/
theorem moved {Z s : State} {a0 args : Array Value} (hZ : Z.Warmed39 s.vm) (hw : ∀ d ∈ words, d.before a0 Z = true) : ∀ d ∈ words, d.before args s = true := fun d hd => by
  have q := hw d hd
  have t : ∀ d ∈ words, d = .arrayClass .byte ∨ (d.onTables && d.keepsFace) = true := by decide +kernel
  rcases t d hd with rfl | t
  · exact RoadKit.mvA hZ q
  · exact RoadKit.mv hZ q t
/-- WHAT COMES BACK, over the tables of the start Z: h the heap at the call, h' behind it -/
def Q (Z : State) (x : Addr) (A : Cell) (h : Heap) (v : Option Value) (h' : Heap) (L : List Loc) : Prop := v = none ∧ (∀ y ∈ L, y.base = x) ∧ RoadKit.Keep h h' [x] ∧ h'.size = h.size + 1 ∧ RoadKit.Exa Z h' x ST ∧ RoadKit.Fld Z h' x ST "value" "[B" (.ref h.size) ∧ RoadKit.Fld Z h' x ST "coder" "B" (.int 0) ∧
  (∃ V : Cell, RoadKit.Arr Z h' h.size V .byte ∧ V.vm = .none ∧ Z.vm.findClass "[B" = some V.cls ∧ V.slots.size = A.slots.size ∧ ∀ j, j < A.slots.size → V.slots[j]? = some (.int (lo8 (cv A j)))) ∧
  ∀ (O n d : String) (w : Value), RoadKit.Fld Z h x O n d w → RoadKit.slotOf Z O n d ≠ RoadKit.slotOf Z ST "value" "[B" → RoadKit.slotOf Z O n d ≠ RoadKit.slotOf Z ST "coder" "B" → RoadKit.Fld Z h' x O n d w
/-- **new String(chars) AT A CALL, IN THE ROAD'S FORM**: for specialBack behind newO: x the fresh String, b the char[] with the cell A -/
theorem back {p : Program} {l : Launch} {e : Env} {R : Room} {s : State} {args : Array Value} {below : List Frame} {len W : Nat} {Z : State} {a0 : Array Value} {h : Heap} (hZ : Z.Warmed39 s.vm) (hw : ∀ d ∈ words, d.before a0 Z = true) {kI : Nat} (wi : (Jvm.Cond.instantiable ST kI).before a0 Z = true)
    {x b : Addr} {A : Cell} {z : Int32} {v0 c0 : Value} (E : RoadKit.Exa Z h x ST) (V : RoadKit.Fld Z h x ST "value" "[B" v0) (C : RoadKit.Fld Z h x ST "coder" "B" c0) (K : RoadKit.Arr Z h b A .char) (hty : Typed .char A) (S : RoadKit.Sta Z h ST "COMPACT_STRINGS" "Z" (.int z)) (hz : ¬ z = 0)
    (l0 : 0 < A.slots.size) (l2 : A.slots.size ≤ 536870912) (hp : ∀ i, i < A.slots.size → ¬ 255 < cv A i) (hfr : 4 ≤ R.frames) (hlo : W + 65 ≤ R.locals) :
    Back l R p e below s args New1.yN len W (fun P a => a = #[.ref x, .ref b] ∧ P.U.heap = h ∧ P.cells + 1 ≤ R.cells ∧ P.slots + A.slots.size ≤ R.slots)
      (fun P _ v B => ∃ L, Q Z x A h v B.U.heap L ∧ B.locs = P.locs ++ L ∧ B.cells = P.cells + 1 ∧ B.slots = P.slots + A.slots.size) := by
  intro m meth c P g ig mk a X hg hsize hdg hW hn hp'
  obtain ⟨rfl, rfl, r1, r2⟩ := hp'
  have al : Z.vm.Alike P.U.vm := hZ.alike.trans X.warmed.alike
  obtain ⟨D, cfV, kV, iV, fV, hD, gV, stV, knV, obV, asV, slV⟩ := id V
  obtain ⟨D', cfC, kC, iC, fC, hD', gC, stC, -, -, asC, slC⟩ := id C
  cases hD.symm.trans hD'
  obtain ⟨D2, kD, e1, e2, e3, e4, e5⟩ := id E
  cases hD.symm.trans e1
  obtain ⟨c2, k2, i1, i2, i3, -⟩ := Cond.instantiable_spec wi
  cases e2.symm.trans i1
  cases e3.symm.trans i2
  obtain ⟨kU, u1, u2⟩ := al.2.2 _ _ e3
  have hB : Blank ST x D P.U := ⟨hD, ⟨knV, fun q hq => by rw [hq] at obV; cases obV⟩, by rw [al.findClass]; exact e2, kU, u1, by rw [u2]; exact i3, by rw [u2]; exact e5 i3⟩
  have F1 : Found ST "value" "[B" fV P.U := ⟨SBG.found_only al ⟨cfV, kV, iV, gV⟩, stV⟩
  have F2 : Found ST "coder" "B" fC P.U := ⟨SBG.found_only al ⟨cfC, kC, iC, gC⟩, stC⟩
  have hA : Ch b A P.U := ⟨⟨K.1, State.isArrayOf_alike al K.2.1, K.2.2, by omega⟩, hty⟩
  have hS : StaticIs P.U ST "COMPACT_STRINGS" "Z" (.int z) := by
    obtain ⟨cfS, iS, kS, fS, st, cS, t1, t2, t3, t4, t5, t6, t7⟩ := S
    exact StaticIs.there (s := { Z with heap := P.U.heap }) ⟨cfS, iS, kS, fS, st, cS, t1, t2, t3, t4, t5, (fun q => by rw [q] at t6; cases t6), t7⟩ al rfl
  obtain ⟨v, B, X', ⟨⟨hv, E', V', q1, q2, q3, q4, q5, q6, q7, q8, q9, q10, q11⟩, hl, hc, hs⟩, st⟩ := New1.pays x D fV fC b A z (tab_of (moved hZ hw)) hfr hlo m meth c P g ig mk _ X hg hsize hdg hW hn ⟨r1, r2, rfl, hB, F1, F2, hA, hS, hz, l0, l2, hp⟩
  have al' : Z.vm.Alike B.U.vm := hZ.alike.trans X'.warmed.alike
  have hsz : E'.slots.size = D.slots.size := by
    obtain ⟨-, -, -, kB, w1, w2, w3⟩ := q1
    obtain ⟨kB', y1, y2⟩ := al'.2.2 _ _ e3
    rw [q2.2.1] at w1
    cases w1.symm.trans y1
    rw [w3, e5 i3, y2]
  refine ⟨v, B, X', ⟨_, ⟨hv, ?_, ⟨by omega, fun y cy hy hn' => q10 y cy (by simpa using hn') hy, fun y cy hy => ?_⟩, q11, ⟨E', _, q1.1, by rw [q2.2.1]; exact e2, by rw [q2.2.1]; exact e3, by rw [q2.1]; exact obV, fun _ => by rw [hsz]; exact e5 i3⟩,
    ⟨E', cfV, kV, iV, fV, q1.1, gV, stV, by rw [q2.1]; exact knV, by rw [q2.1]; exact obV, by rw [q2.2.1]; exact asV, q3⟩, ⟨E', cfC, kC, iC, fC, q1.1, gC, stC, by rw [q2.1]; exact knV, by rw [q2.1]; exact obV, by rw [q2.2.1]; exact asC, q4⟩,
    ⟨V', ⟨q5.1, State.isArrayOf_alike al'.symm q5.2.1, q5.2.2.1⟩, q6, by rw [← al'.findClass]; exact q7, q8, fun j hj => by have := q9 j hj; rwa [Nat.zero_add] at this⟩, fun O n d w F n1 n2 => ?_⟩, hl, hc, hs⟩, st⟩
  · intro y hy
    simp only [List.mem_cons, List.not_mem_nil, or_false] at hy
    rcases hy with rfl | rfl <;> rfl
  · by_cases q : y = x
    · subst q
      cases hD.symm.trans hy
      exact ⟨E', q1.1, q2.2.1, q2.1, hsz⟩
    · exact ⟨cy, q10 y cy q hy, rfl, rfl, rfl⟩
  · obtain ⟨D3, cf, k, i, f, g1, g2, g3, g4, g5, g6, g7⟩ := F
    cases hD.symm.trans g1
    simp only [RoadKit.slotOf, g2, gV, gC, Option.map_some, Option.getD_some] at n1 n2
    exact ⟨E', cf, k, i, f, q1.1, g2, g3, by rw [q2.1]; exact g4, by rw [q2.1]; exact g5, by rw [q2.2.1]; exact g6, by rw [q2.2.2 f.slot (by simp [n1, n2])]; exact g7⟩
end StrChars.Road
namespace StrChars.Road
open Jvm Sem ClassFile Op Lib Jvm.Stand Jvm.Free Jvm.Free.XT
/-- WHAT COMES BACK, the byte[] as a list of values -/
def QA (Z : State) (x : Addr) (zn : Int32) (cs : List Int32) (h : Heap) (v : Option Value) (h' : Heap) (L : List Loc) : Prop := v = none ∧ (∀ y ∈ L, y.base = x) ∧ RoadKit.Keep h h' [x] ∧ h'.size = h.size + 1 ∧ RoadKit.Exa Z h' x ST ∧ RoadKit.Fld Z h' x ST "value" "[B" (.ref h.size) ∧ RoadKit.Fld Z h' x ST "coder" "B" (.int 0) ∧
  (∃ kb, Z.vm.findClass "[B" = some kb ∧ RoadKit.Arv Z h' h.size kb .byte zn (cs.map fun c => .int (lo8 c)) (.int 0)) ∧
  ∀ (O n d : String) (w : Value), RoadKit.Fld Z h x O n d w → RoadKit.slotOf Z O n d ≠ RoadKit.slotOf Z ST "value" "[B" → RoadKit.slotOf Z O n d ≠ RoadKit.slotOf Z ST "coder" "B" → RoadKit.Fld Z h' x O n d w
/-- **new String(chars) AT A CALL, THE ARRAYS AS LISTS**: the char[] at b holds cs, not empty, no char above 255 -/
theorem backArv {p : Program} {l : Launch} {e : Env} {R : Room} {s : State} {args : Array Value} {below : List Frame} {len W : Nat} {Z : State} {a0 : Array Value} {h : Heap} (hZ : Z.Warmed39 s.vm) (hw : ∀ d ∈ words, d.before a0 Z = true) {kI : Nat} (wi : (Jvm.Cond.instantiable ST kI).before a0 Z = true)
    {x b : Addr} {k : ClassId} {zn z : Int32} {cs : List Int32} {dv v0 c0 : Value} (E : RoadKit.Exa Z h x ST) (V : RoadKit.Fld Z h x ST "value" "[B" v0) (C : RoadKit.Fld Z h x ST "coder" "B" c0) (K : RoadKit.Arv Z h b k .char zn (cs.map Value.int) dv) (S : RoadKit.Sta Z h ST "COMPACT_STRINGS" "Z" (.int z)) (hz : ¬ z = 0)
    (hlen : zn.toNatClampNeg = cs.length) (h0 : 0 < cs.length) (hbig : cs.length ≤ 536870912) (hall : ∀ c ∈ cs, ¬ 255 < c) (hfr : 4 ≤ R.frames) (hlo : W + 65 ≤ R.locals) :
    Back l R p e below s args New1.yN len W (fun P a => a = #[.ref x, .ref b] ∧ P.U.heap = h ∧ P.cells + 1 ≤ R.cells ∧ P.slots + cs.length ≤ R.slots)
      (fun P _ v B => ∃ L, QA Z x zn cs h v B.U.heap L ∧ B.locs = P.locs ++ L ∧ B.cells = P.cells + 1 ∧ B.slots = P.slots + cs.length) := by
  obtain ⟨A, K1, K2, K3, K4, K5, K6⟩ := K
  have e : A.slots.size = cs.length := K3.trans hlen
  have hat : ∀ (i : Nat) (hi : i < cs.length), A.slots[i]? = some (.int cs[i]) := fun i hi => by rw [K5 i (by omega)]; simp [List.getD_eq_getElem?_getD, hi]
  have hcv : ∀ (i : Nat) (hi : i < cs.length), cv A i = cs[i] := fun i hi => by unfold cv; rw [hat i hi]
  have hty : Typed .char A := fun i v hv => by
    have hi : i < A.slots.size := (Array.getElem?_eq_some_iff.mp hv).1
    have q := K5 i hi
    rw [hv] at q
    rw [Option.some.inj q]
    exact K6 i hi
  refine Back.mono (back hZ hw wi E V C K1 hty S hz (by omega) (by omega) (fun i hi => by rw [hcv i (by omega)]; exact hall _ (List.getElem_mem _)) hfr hlo) (fun P a hp => ⟨hp.1, hp.2.1, hp.2.2.1, by rw [e]; exact hp.2.2.2⟩) (fun P a v B hp hq => ?_)
  obtain ⟨L, ⟨q1, q2, q3, q4, q5, q6, q7, ⟨V', v1, v2, v3, v4, v5⟩, q9⟩, hl, hc, hs⟩ := hq
  refine ⟨L, ⟨q1, q2, q3, q4, q5, q6, q7, ⟨V'.cls, v3, V', v1, rfl, by rw [v4, e, hlen], K4, fun i hi => ?_, fun i hi => ?_⟩, q9⟩, hl, hc, by rw [hs, e]⟩
  · have hi' : i < cs.length := by omega
    rw [v5 i (by omega), hcv i hi']; simp [List.getD_eq_getElem?_getD, hi']
  · have hi' : i < cs.length := by omega
    simp only [List.getD_eq_getElem?_getD, List.getElem?_map, List.getElem?_eq_getElem hi', Option.map_some, Option.getD_some]
    exact fits_lo8 _
end StrChars.Road
namespace StrChars.Road
open Jvm Sem ClassFile Op Lib Jvm.Stand Jvm.Free Jvm.Free.XT
/-- WHAT COMES BACK, in the writer's own shape -/
def QV (Z : State) (x : Addr) (N : Int32) (bs : List Int32) (h : Heap) (n0 : Nat) (v : Option Value) (h' : Heap) (L : List Loc) : Prop := v = none ∧ RoadKit.Fr n0 L ∧ RoadKit.Keep h h' [x] ∧ RoadKit.Exa Z h' x ST ∧ RoadKit.Fld Z h' x ST "coder" "B" (.int 0) ∧
  ∃ (t : Addr) (kb : ClassId), n0 ≤ t ∧ h.size ≤ t ∧ ¬ t = x ∧ RoadKit.Fld Z h' x ST "value" "[B" (.ref t) ∧ RoadKit.Arv Z h' t kb .byte N (bs.map Value.int) (.int 0)
/-- **new String(chars) AT A CALL, FOR THE WRITER**: a char[] of n known ints, each 0 to 255 -/
theorem backV {p : Program} {l : Launch} {e : Env} {R : Room} {s : State} {args : Array Value} {below : List Frame} {len W : Nat} {Z : State} {a0 : Array Value} {h : Heap} (hZ : Z.Warmed39 s.vm) (hw : ∀ d ∈ words, d.before a0 Z = true) {kI : Nat} (wi : (Jvm.Cond.instantiable ST kI).before a0 Z = true)
    {x b : Addr} {kC : ClassId} {cs bs : List Int32} {d v0 c0 : Value} {z N : Int32} {n n0 : Nat} (hx0 : n0 ≤ x) (hh0 : n0 ≤ h.size) (E : RoadKit.Exa Z h x ST) (V : RoadKit.Fld Z h x ST "value" "[B" v0) (C : RoadKit.Fld Z h x ST "coder" "B" c0) (K : RoadKit.Arv Z h b kC .char N (cs.map Value.int) d) (S : RoadKit.Sta Z h ST "COMPACT_STRINGS" "Z" (.int z)) (hz : ¬ z = 0)
    (hn : cs.length = n) (hN : N = Int32.ofNat n) (l0 : 0 < n) (l2 : n ≤ 4000) (hp : ∀ c ∈ cs, ¬ c < 0 ∧ ¬ (255 : Int32) < c) (hb : bs = cs.map (fun c => c.toInt8.toInt32)) (hfr : 4 ≤ R.frames) (hlo : W + 65 ≤ R.locals) :
    Back l R p e below s args (⟨"java/lang/String", "<init>", "([C)V"⟩ : MethodName) len W (fun P a => a = #[.ref x, .ref b] ∧ P.U.heap = h ∧ P.cells + 1 ≤ R.cells ∧ P.slots + n ≤ R.slots)
      (fun P _ v B => ∃ L, QV Z x N bs h n0 v B.U.heap L ∧ B.locs = P.locs ++ L ∧ B.cells = P.cells + 1 ∧ B.slots = P.slots + n) := by
  subst hn hN hb
  refine Back.mono (backArv hZ hw wi E V C K S hz (n32 (by omega)) l0 (by omega) (fun c hc => (hp c hc).2) hfr hlo) (fun P a hp => hp) (fun P a v B hp hq => ?_)
  obtain ⟨L, ⟨q1, q2, q3, q4, q5, q6, q7, ⟨kb, v1, v2⟩, q9⟩, hl, hc, hs⟩ := hq
  exact ⟨L, ⟨q1, fun y hy => by rw [q2 y hy]; exact hx0, q3, q5, q7, h.size, kb, hh0, Nat.le_refl _, Nat.ne_of_gt E.lt, q6, by rw [List.map_map]; exact v2⟩, hl, hc, hs⟩
end StrChars.Road
namespace StrChars
open Jvm Sem ClassFile Op Lib Jvm.Stand Jvm.Free.XT Jvm.Free.ALB Jvm.Free.JM Jvm.Free
open Jvm.Lib.Cold (StaticIs)
def hi8 (x : Int32) : Int32 := lo8 (x >>> ((8 : Int32) &&& 31))
/-- what StringUTF16.getChar makes of two bytes -/
def pairCh (u v : Int32) : Int32 := (((u &&& 255) <<< ((0 : Int32) &&& 31)) ||| ((v &&& 255) <<< ((8 : Int32) &&& 31))).toUInt32.toUInt16.toUInt32.toInt32
theorem lo8_and (x : Int32) : (lo8 x &&& 255).toBitVec.toNat = x.toBitVec.toNat % 256 := by
  have h : (lo8 x).toBitVec = (x.toBitVec.signExtend 8).signExtend 32 := by rw [lo8, Int8.toBitVec_toInt32, Int32.toBitVec_toInt8]
  rw [Int32.toBitVec_and, BitVec.toNat_and, h]
  have e : ((x.toBitVec.signExtend 8).signExtend 32).toNat % 256 = x.toBitVec.toNat % 256 := by
    rw [BitVec.toNat_signExtend]
    have hlt := x.toBitVec.isLt
    simp only [BitVec.toNat_setWidth, BitVec.toNat_signExtend]
    split <;> split <;> omega
  rw [← e]
  exact Nat.and_two_pow_sub_one_eq_mod _ 8
theorem pair_says {c : Int32} (h0 : ¬ c < 0) (h1 : ¬ 65535 < c) : pairCh (lo8 c) (hi8 c) = c := by
  rw [Int32.lt_iff_toInt_lt] at h0 h1
  have e0 : (0 : Int32).toInt = 0 := rfl
  have e1 : (65535 : Int32).toInt = 65535 := rfl
  have hc : c.toInt = c.toBitVec.toNat := by
    have := c.toBitVec.isLt
    have e : c.toInt = c.toBitVec.toInt := rfl
    rw [e] at h0 h1
    rw [e]
    rw [BitVec.toInt_eq_toNat_cond] at h0 h1 ⊢
    split at h0 <;> split <;> omega
  have hn : c.toBitVec.toNat < 65536 := by omega
  have a1 := lo8_and c
  have a2 : (hi8 c &&& 255).toBitVec.toNat = c.toBitVec.toNat / 256 := by
    rw [hi8, lo8_and]
    have e : ((8 : Int32) &&& 31) = 8 := by decide
    rw [e, Int32.toBitVec_shiftRight]
    have e2 : ((8 : Int32).toBitVec.smod 32) = 8#32 := by decide
    rw [e2, BitVec.sshiftRight_eq', BitVec.toNat_sshiftRight_of_msb_false (by rw [BitVec.msb_eq_false_iff_two_mul_lt]; omega)]
    show c.toBitVec.toNat >>> 8 % 256 = _
    rw [Nat.shiftRight_eq_div_pow]
    omega
  unfold pairCh
  apply Int32.toBitVec_inj.mp
  apply BitVec.eq_of_toNat_eq
  have f0 : ((0 : Int32) &&& 31) = 0 := by decide
  have f8 : ((8 : Int32) &&& 31) = 8 := by decide
  rw [f0, f8]
  have g : (((lo8 c &&& 255) <<< (0 : Int32)) ||| ((hi8 c &&& 255) <<< (8 : Int32))).toBitVec.toNat = c.toBitVec.toNat := by
    rw [Int32.toBitVec_or, Int32.toBitVec_shiftLeft, Int32.toBitVec_shiftLeft]
    have s0 : ((0 : Int32).toBitVec.smod 32) = 0#32 := by decide
    have s8 : ((8 : Int32).toBitVec.smod 32) = 8#32 := by decide
    rw [s0, s8, BitVec.toNat_or]
    simp only [BitVec.shiftLeft_eq', BitVec.toNat_shiftLeft, a1, a2]
    show (c.toBitVec.toNat % 256) <<< 0 % 2 ^ 32 ||| (c.toBitVec.toNat / 256) <<< 8 % 2 ^ 32 = _
    rw [Nat.shiftLeft_zero, Nat.mod_eq_of_lt (show c.toBitVec.toNat % 256 < 2 ^ 32 by omega), Nat.mod_eq_of_lt (show (c.toBitVec.toNat / 256) <<< 8 < 2 ^ 32 by rw [Nat.shiftLeft_eq]; omega), Nat.or_comm, ← Nat.shiftLeft_add_eq_or_of_lt (by omega), Nat.shiftLeft_eq]
    omega
  show BitVec.toNat (((((lo8 c &&& 255) <<< (0 : Int32)) ||| ((hi8 c &&& 255) <<< (8 : Int32))).toBitVec.setWidth 16).setWidth 32) = _
  rw [BitVec.toNat_setWidth, BitVec.toNat_setWidth, g]
  omega
end StrChars
namespace StrChars
open Jvm Sem ClassFile Op Lib Jvm.Stand Jvm.Free.XT Jvm.Free.ALB Jvm.Free.JM Jvm.Free
open Jvm.Lib.Cold (StaticIs)
/-- the array's cell V codes the n chars f 0 .. f (n - 1) by the coder cd, as the JDK does: coder 1 just where some char is above 255 -/
def Cod (cd : Int32) (n : Nat) (f : Nat → Int32) (V : Cell) : Prop := (cd = 0 ∧ V.slots.size = n ∧ ∀ j, j < n → V.slots[j]? = some (.int (lo8 (f j))) ∧ ¬ 255 < f j) ∨ (cd = 1 ∧ V.slots.size = 2 * n ∧ (∀ j, j < n → V.slots[2 * j]? = some (.int (lo8 (f j))) ∧ V.slots[2 * j + 1]? = some (.int (hi8 (f j)))) ∧ ∃ j, j < n ∧ 255 < f j)
/-- **x is a String of the n chars f 0 .. f (n - 1)**, Latin-1 or UTF-16; its array at t has the cell V -/
def Txt (x t : Addr) (V : Cell) (cd : Int32) (n : Nat) (f : Nat → Int32) (U : State) : Prop := Exact "java/lang/String" x U ∧ Has x "java/lang/String" "value" "[B" (.ref t) U ∧ Has x "java/lang/String" "coder" "B" (.int cd) U ∧ XT.Arr .byte t V U ∧ Cod cd n f V ∧ ∀ j, j < n → ¬ f j < 0 ∧ ¬ 65535 < f j
theorem Txt.mv {x t : Addr} {V : Cell} {cd : Int32} {n : Nat} {f : Nat → Int32} {U U' : State} (h : Txt x t V cd n f U) (hal : U.vm.Alike U'.vm) (hh : U'.heap = U.heap) : Txt x t V cd n f U' := ⟨h.1.mv hal hh, h.2.1.mv hal hh, h.2.2.1.mv hal hh, h.2.2.2.1.mv hal hh, h.2.2.2.2⟩
end StrChars
namespace StrChars.Road
open Jvm Sem ClassFile Op Lib Jvm.Stand Jvm.Free Jvm.Free.XT
open Jvm.Lib.Cold (StaticIs)
theorem consq {a : Array Value} {s : State} {c : Jvm.Cond} {L : List Jvm.Cond} (h0 : c.before a s = true) (h : ∀ w ∈ L, w.before a s = true) : ∀ w ∈ c :: L, w.before a s = true := fun w hw => (List.mem_cons.mp hw).elim (fun e => e ▸ h0) (h w)
/-- the bytes of the chars cs, low before high -/
def wideBytes : List Int32 → List Value
  | [] => []
  | c :: cs => .int (lo8 c) :: .int (hi8 c) :: wideBytes cs
theorem wide_lo (d : Value) : ∀ (cs : List Int32) (j : Nat), j < cs.length → (wideBytes cs).getD (2 * j) d = .int (lo8 (cs.getD j 0))
  | [], j, h => absurd h (Nat.not_lt_zero j)
  | c :: cs, 0, _ => rfl
  | c :: cs, j + 1, h => by
    have q := wide_lo d cs j (by simpa using h)
    rw [show 2 * (j + 1) = 2 * j + 1 + 1 from by omega]
    simpa [wideBytes] using q
theorem wide_hi (d : Value) : ∀ (cs : List Int32) (j : Nat), j < cs.length → (wideBytes cs).getD (2 * j + 1) d = .int (hi8 (cs.getD j 0))
  | [], j, h => absurd h (Nat.not_lt_zero j)
  | c :: cs, 0, _ => rfl
  | c :: cs, j + 1, h => by
    have q := wide_hi d cs j (by simpa using h)
    rw [show 2 * (j + 1) + 1 = 2 * j + 1 + 1 + 1 from by omega]
    simpa [wideBytes] using q
theorem low_at (d : Value) (cs : List Int32) (j : Nat) (h : j < cs.length) : (cs.map fun c => Value.int (lo8 c)).getD j d = .int (lo8 (cs.getD j 0)) := by
  simp [List.getD_eq_getElem?_getD, h]
/-- an array of N2 bytes vs codes the chars cs by the coder cd -/
def CodA (cs : List Int32) (cd N2 : Int32) (vs : List Value) : Prop := (cd = 0 ∧ N2 = Int32.ofNat cs.length ∧ vs = (cs.map fun c => Value.int (lo8 c)) ∧ ∀ c ∈ cs, ¬ 255 < c) ∨ (cd = 1 ∧ N2 = Int32.ofNat (2 * cs.length) ∧ vs = wideBytes cs ∧ ∃ c ∈ cs, 255 < c)
theorem CodA.cod {cs : List Int32} {cd N2 : Int32} {vs : List Value} {V : Cell} (h : CodA cs cd N2 vs) (hn : 2 * cs.length < 2 ^ 31) (hs : V.slots.size = N2.toNatClampNeg) (hv : RoadKit.Has V vs (.int 0)) : Cod cd cs.length (fun j => cs.getD j 0) V := by
  rcases h with ⟨rfl, rfl, rfl, h⟩ | ⟨rfl, rfl, rfl, c, hc, hw⟩
  · rw [n32 (by omega)] at hs
    exact Or.inl ⟨rfl, hs, fun j hj => ⟨by rw [hv j (by omega), low_at _ _ _ hj], by
      have e : cs.getD j 0 = cs[j] := by simp [List.getD_eq_getElem?_getD, hj]
      show ¬ 255 < cs.getD j 0
      rw [e]; exact h _ (List.getElem_mem _)⟩⟩
  · rw [n32 (by omega)] at hs
    obtain ⟨j, hj, rfl⟩ := List.getElem_of_mem hc
    exact Or.inr ⟨rfl, hs, fun j hj => ⟨by rw [hv _ (by omega), wide_lo _ _ _ hj], by rw [hv _ (by omega), wide_hi _ _ _ hj]⟩, j, hj, by
      have e : cs.getD j 0 = cs[j] := by simp [List.getD_eq_getElem?_getD, hj]
      show 255 < cs.getD j 0
      rw [e]; exact hw⟩
/-- an object of exactly java/lang/String, its two fields found: as the laws ask it -/
theorem strObj {Z U : State} {a0 : Array Value} {kI : Nat} (wi : (Jvm.Cond.instantiable ST kI).before a0 Z = true) (al : Z.vm.Alike U.vm) {x : Addr} {v0 c0 : Value} (E : RoadKit.Exa Z U.heap x ST) (V : RoadKit.Fld Z U.heap x ST "value" "[B" v0) (C : RoadKit.Fld Z U.heap x ST "coder" "B" c0) :
    ∃ (D : Cell) (fV fC : Field), Blank ST x D U ∧ Found ST "value" "[B" fV U ∧ Found ST "coder" "B" fC U ∧ D.slots[fV.slot]? = some v0 ∧ D.slots[fC.slot]? = some c0 ∧ RoadKit.slotOf Z ST "value" "[B" = fV.slot ∧ RoadKit.slotOf Z ST "coder" "B" = fC.slot := by
  obtain ⟨D, cfV, kV, iV, fV, hD, gV, stV, knV, obV, asV, slV⟩ := V
  obtain ⟨D', cfC, kC, iC, fC, hD', gC, stC, -, -, asC, slC⟩ := C
  cases hD.symm.trans hD'
  obtain ⟨D2, kD, e1, e2, e3, e4, e5⟩ := E
  cases hD.symm.trans e1
  obtain ⟨c2, k2, i1, i2, i3, -⟩ := Cond.instantiable_spec wi
  cases e2.symm.trans i1
  cases e3.symm.trans i2
  obtain ⟨kU, u1, u2⟩ := al.2.2 _ _ e3
  exact ⟨D, fV, fC, ⟨hD, ⟨knV, fun q hq => by rw [hq] at obV; cases obV⟩, by rw [al.findClass]; exact e2, kU, u1, by rw [u2]; exact i3, by rw [u2]; exact e5 i3⟩, ⟨SBG.found_only al ⟨cfV, kV, iV, gV⟩, stV⟩, ⟨SBG.found_only al ⟨cfC, kC, iC, gC⟩, stC⟩, slV, slC, by simp [RoadKit.slotOf, gV], by simp [RoadKit.slotOf, gC]⟩
theorem sta_is {Z U : State} (al : Z.vm.Alike U.vm) {C n d : String} {v : Value} (S : RoadKit.Sta Z U.heap C n d v) : StaticIs U C n d v := by
  obtain ⟨cfS, iS, kS, fS, st, cS, t1, t2, t3, t4, t5, t6, t7⟩ := S
  exact StaticIs.there (s := { Z with heap := U.heap }) ⟨cfS, iS, kS, fS, st, cS, t1, t2, t3, t4, t5, (fun q => by rw [q] at t6; cases t6), t7⟩ al rfl
end StrChars.Road
namespace StrChars
open Jvm Sem ClassFile Op Lib Jvm.Stand Jvm.Free.XT Jvm.Free.ALB Jvm.Free.JM Jvm.Free
open Jvm.Lib.Cold (StaticIs)
/-- what place i of a byte[]'s cell holds -/
def yv (A : Cell) (i : Nat) : Int32 := match A.slots[i]? with | some (.int x) => x | _ => 0
theorem yv_get {a : Addr} {A : Cell} {U : State} (h : XT.Arr .byte a A U) (ht : Typed .byte A) {i : Nat} (hi : i < A.slots.size) : A.slots[i]? = some (.int (yv A i)) := by
  have e := Array.getElem?_eq_getElem hi
  have f := ht i _ e
  unfold yv; rw [e]
  generalize A.slots[i] = v at f
  cases v <;> simp [fits] at f ⊢
/-- the two arrays are equal, place for place -/
def EqC (A B : Cell) : Prop := A.slots.size = B.slots.size ∧ ∀ i, i < A.slots.size → yv A i = yv B i
/-- a boolean that says whether p -/
def Says01 (q : Prop) (r : Option Value) (s u : State) : Prop := ∃ v : Int32, r = some (.int v) ∧ u.heap = s.heap ∧ ((v = 1 ∧ q) ∨ (v = 0 ∧ ¬ q))
theorem Says01.mv {q : Prop} : ∀ r (U U' V V' : State), U'.heap = U.heap → V.vm.Alike V'.vm → V'.heap = V.heap → Says01 q r U V → Says01 q r U' V' :=
  fun r U U' V V' h1 _ h2 ⟨v, a, b, c⟩ => ⟨v, a, by rw [h1, h2]; exact b, c⟩
namespace LEq
def yN : MethodName := ⟨"java/lang/StringLatin1", "equals", "([B[B)Z"⟩
abbrev yB : ByteArray := jdk_43_method_13_code
theorem d0 : decode yB 0 = .ok (.aload_n 0, 1) := by decide +kernel
theorem d1 : decode yB 1 = .ok (.arraylength, 1) := by decide +kernel
theorem d2 : decode yB 2 = .ok (.aload_n 1, 1) := by decide +kernel
theorem d3 : decode yB 3 = .ok (.arraylength, 1) := by decide +kernel
theorem d4 : decode yB 4 = .ok (.if_icmp (.ne) 30, 3) := by decide +kernel
theorem d7 : decode yB 7 = .ok (.iconst 0, 1) := by decide +kernel
theorem d8 : decode yB 8 = .ok (.istore_n 2, 1) := by decide +kernel
theorem d9 : decode yB 9 = .ok (.iload_n 2, 1) := by decide +kernel
theorem d10 : decode yB 10 = .ok (.aload_n 0, 1) := by decide +kernel
theorem d11 : decode yB 11 = .ok (.arraylength, 1) := by decide +kernel
theorem d12 : decode yB 12 = .ok (.if_icmp (.ge) 20, 3) := by decide +kernel
theorem d15 : decode yB 15 = .ok (.aload_n 0, 1) := by decide +kernel
theorem d16 : decode yB 16 = .ok (.iload_n 2, 1) := by decide +kernel
theorem d17 : decode yB 17 = .ok (.baload, 1) := by decide +kernel
theorem d18 : decode yB 18 = .ok (.aload_n 1, 1) := by decide +kernel
theorem d19 : decode yB 19 = .ok (.iload_n 2, 1) := by decide +kernel
theorem d20 : decode yB 20 = .ok (.baload, 1) := by decide +kernel
theorem d21 : decode yB 21 = .ok (.if_icmp (.eq) 5, 3) := by decide +kernel
theorem d24 : decode yB 24 = .ok (.iconst 0, 1) := by decide +kernel
theorem d25 : decode yB 25 = .ok (.ireturn, 1) := by decide +kernel
theorem d26 : decode yB 26 = .ok (.iinc 2 1, 3) := by decide +kernel
theorem d29 : decode yB 29 = .ok (.goto (-20), 3) := by decide +kernel
theorem d32 : decode yB 32 = .ok (.iconst 1, 1) := by decide +kernel
theorem d33 : decode yB 33 = .ok (.ireturn, 1) := by decide +kernel
theorem d34 : decode yB 34 = .ok (.iconst 0, 1) := by decide +kernel
theorem d35 : decode yB 35 = .ok (.ireturn, 1) := by decide +kernel
def site : List Cond := []
def tab : Cond := tabOf yN yB 3 (some .boolean) site
def P (a : Addr) (A : Cell) (b : Addr) (B : Cell) (args : Array Value) (s : State) : Prop := args = #[.ref a, .ref b] ∧ XT.Arr .byte a A s ∧ Typed .byte A ∧ XT.Arr .byte b B s ∧ Typed .byte B
/-- whether two byte[] are equal, place for place -/
theorem law (l : Launch) (a : Addr) (A : Cell) (b : Addr) (B : Cell) : Law l yN 2 2 0 0 yB 3 (some .boolean) site (P a A b B) (Says01 (EqC A B)) [] 0 0 := by
  refine Law.of_walk (plainFor_of_name (by decide +kernel)) (by decide +kernel) (by decide +kernel) (by decide) (fun _ _ h => by rw [h.1]; rfl) (fun _ U U' hal hh h => ⟨h.1, h.2.1.mv hal hh, h.2.2.1, h.2.2.2.1.mv hal hh, h.2.2.2.2⟩) (fun r U U' V V' h1 hal h2 h => Says01.mv r U U' V V' h1 hal h2 h) ?_
  intro p e s m args below meth c s₁ X0 hexec hbytes hml hret hlk hnm hown hh0 W hP
  obtain ⟨rfl, hA, tA, hB, tB⟩ := hP
  have a31 := hA.2.2.2
  have b31 := hB.2.2.2
  have hA0 := hA.mv X0.warmed.alike hh0
  have hB0 := hB.mv X0.warmed.alike hh0
  have c1 : Steps p.tables e below (s₁.setTop (entryFrame m #[.ref a, .ref b] 3)) (s₁.setTop (mkF m 0 #[.val (.ref a), .val (.ref b), .unset] [])) := entry rfl
  have c2 : Steps p.tables e below (s₁.setTop (entryFrame m #[.ref a, .ref b] 3)) (s₁.setTop (mkF m 4 #[.val (.ref a), .val (.ref b), .unset] [.int (Int32.ofNat B.slots.size), .int (Int32.ofNat A.slots.size)])) := c1.trans (by
    refine XS.aloadN X0.here hexec rfl (hb hbytes d0) rfl rfl ?_
    refine X0.alen hexec hA0 rfl rfl (hb hbytes d1) ?_
    refine XS.aloadN X0.here hexec rfl (hb hbytes d2) rfl rfl ?_
    refine X0.alen hexec hB0 rfl rfl (hb hbytes d3) ?_
    exact Steps.refl _)
  by_cases hs : A.slots.size = B.slots.size
  · have c3 : Steps p.tables e below (s₁.setTop (entryFrame m #[.ref a, .ref b] 3)) (s₁.setTop (mkF m 9 #[.val (.ref a), .val (.ref b), .val (.int 0)] [])) := c2.trans (by
      refine XS.icmpNo X0.here hexec rfl (hb hbytes d4) rfl (ii_ne_f (by rw [hs])) ?_
      refine iconstV X0.here hexec rfl 0 (hb hbytes d7) (by decide) ?_
      refine XS.istoreN X0.here hexec rfl (hb hbytes d8) rfl rfl ?_
      exact Steps.refl _)
    have loop : ∀ (r i : Nat), i + r = A.slots.size → (∀ j, j < i → yv A j = yv B j) → Steps p.tables e below (s₁.setTop (entryFrame m #[.ref a, .ref b] 3)) (s₁.setTop (mkF m 9 #[.val (.ref a), .val (.ref b), .val (.int (Int32.ofNat i))] [])) → ∃ (pc : Nat) (Ls : Array Slot) (v : Int32), (pc = 25 ∨ pc = 33) ∧ ((v = 1 ∧ EqC A B) ∨ (v = 0 ∧ ¬ EqC A B)) ∧ Steps p.tables e below (s₁.setTop (entryFrame m #[.ref a, .ref b] 3)) (s₁.setTop (mkF m pc Ls [.int v])) := by
      intro r
      induction r with
      | zero =>
        intro i hi he cl
        exact ⟨33, _, 1, Or.inr rfl, Or.inl ⟨rfl, hs, fun j hj => he j (by omega)⟩, cl.trans (by
          refine XS.iloadN X0.here hexec rfl (hb hbytes d9) rfl ?_
          refine XS.aloadN X0.here hexec rfl (hb hbytes d10) rfl rfl ?_
          refine X0.alen hexec hA0 rfl rfl (hb hbytes d11) ?_
          refine XS.icmpYes X0.here hexec rfl (pc0 := 12) rfl (hb hbytes d12) rfl (ii_ge_t (nlt32 (by omega) (by omega))) (by decide) rfl ?_
          refine iconstV X0.here hexec rfl 1 (hb hbytes d32) (by decide) ?_
          exact Steps.refl _)⟩
      | succ r ih =>
        intro i hi he cl
        have c4 : Steps p.tables e below (s₁.setTop (entryFrame m #[.ref a, .ref b] 3)) (s₁.setTop (mkF m 21 #[.val (.ref a), .val (.ref b), .val (.int (Int32.ofNat i))] [.int (yv B i), .int (yv A i)])) := cl.trans (by
          refine XS.iloadN X0.here hexec rfl (hb hbytes d9) rfl ?_
          refine XS.aloadN X0.here hexec rfl (hb hbytes d10) rfl rfl ?_
          refine X0.alen hexec hA0 rfl rfl (hb hbytes d11) ?_
          refine XS.icmpNo X0.here hexec rfl (hb hbytes d12) rfl (ii_ge_f (lt32 (by omega) (by omega))) ?_
          refine XS.aloadN X0.here hexec rfl (hb hbytes d15) rfl rfl ?_
          refine XS.iloadN X0.here hexec rfl (hb hbytes d16) rfl ?_
          refine X0.aget hexec hA0 rfl (yv_get hA tA (i := i) (by omega)) rfl rfl (hb hbytes d17) ?_
          refine XS.aloadN X0.here hexec rfl (hb hbytes d18) rfl rfl ?_
          refine XS.iloadN X0.here hexec rfl (hb hbytes d19) rfl ?_
          refine X0.aget hexec hB0 rfl (yv_get hB tB (i := i) (by omega)) rfl rfl (hb hbytes d20) ?_
          exact Steps.refl _)
        by_cases hv : yv A i = yv B i
        · have c5 : Steps p.tables e below (s₁.setTop (entryFrame m #[.ref a, .ref b] 3)) (s₁.setTop (mkF m 9 #[.val (.ref a), .val (.ref b), .val (.int (Int32.ofNat i + 1))] [])) := c4.trans (by
            refine XS.icmpYes X0.here hexec rfl (pc0 := 21) rfl (hb hbytes d21) rfl (ii_eq_t hv) (by decide) rfl ?_
            refine iincV X0.here hexec rfl 1 (hb hbytes d26) (by decide) rfl rfl ?_
            refine XS.goto X0.here hexec rfl (pc0 := 29) rfl (hb hbytes d29) (by decide) rfl ?_
            exact Steps.refl _)
          rw [succ32] at c5
          exact ih (i + 1) (by omega) (fun j hj => by
            by_cases e : j = i
            · rw [e]; exact hv
            · exact he j (by omega)) c5
        · exact ⟨25, _, 0, Or.inl rfl, Or.inr ⟨rfl, fun q => hv (q.2 i (by omega))⟩, c4.trans (by
            refine XS.icmpNo X0.here hexec rfl (hb hbytes d21) rfl (ii_eq_f hv) ?_
            refine iconstV X0.here hexec rfl 0 (hb hbytes d24) (by decide) ?_
            exact Steps.refl _)⟩
    obtain ⟨pc, Ls, v, hpc, hv, cz⟩ := loop A.slots.size 0 (by omega) (fun j hj => absurd hj (Nat.not_lt_zero j)) c3
    have nv : narrow .boolean (.int v) = .int v := by rcases hv with ⟨rfl, -⟩ | ⟨rfl, -⟩ <;> rfl
    rcases hpc with rfl | rfl
    · exact ⟨s₁, some (.int v), _, _, _, X0, rfl, rfl, rfl, (fun h => by cases h), ⟨v, rfl, hh0, hv⟩, fun fs hl => cz.trans (X0.ireturnOut hexec hret nv (Or.inr (Or.inl rfl)) (hb hbytes d25) hl)⟩
    · exact ⟨s₁, some (.int v), _, _, _, X0, rfl, rfl, rfl, (fun h => by cases h), ⟨v, rfl, hh0, hv⟩, fun fs hl => cz.trans (X0.ireturnOut hexec hret nv (Or.inr (Or.inl rfl)) (hb hbytes d33) hl)⟩
  · have c3 : Steps p.tables e below (s₁.setTop (entryFrame m #[.ref a, .ref b] 3)) (s₁.setTop (mkF m 35 #[.val (.ref a), .val (.ref b), .unset] [.int 0])) := c2.trans (by
      refine XS.icmpYes X0.here hexec rfl (pc0 := 4) rfl (hb hbytes d4) rfl (ii_ne_t (ne32 a31 b31 hs)) (by decide) rfl ?_
      refine iconstV X0.here hexec rfl 0 (hb hbytes d34) (by decide) ?_
      exact Steps.refl _)
    exact ⟨s₁, some (.int 0), _, _, _, X0, rfl, rfl, rfl, (fun h => by cases h), ⟨0, rfl, hh0, Or.inr ⟨rfl, fun q => hs q.1⟩⟩, fun fs hl => c3.trans (X0.ireturnOut hexec hret rfl (Or.inr (Or.inl rfl)) (hb hbytes d35) hl)⟩
end LEq
theorem Cod.ty {cd : Int32} {n : Nat} {f : Nat → Int32} {V : Cell} (h : Cod cd n f V) : Typed .byte V := fun i v hv => by
  have hi : i < V.slots.size := (Array.getElem?_eq_some_iff.mp hv).1
  rcases h with ⟨-, k1, k2⟩ | ⟨-, k1, k2, -⟩
  · rw [(k2 i (by omega)).1] at hv; cases hv; exact fits_lo8 _
  · rcases Nat.mod_two_eq_zero_or_one i with e | e
    · obtain ⟨j, rfl⟩ : ∃ j, i = 2 * j := ⟨i / 2, by omega⟩
      rw [(k2 j (by omega)).1] at hv; cases hv; exact fits_lo8 _
    · obtain ⟨j, rfl⟩ : ∃ j, i = 2 * j + 1 := ⟨i / 2, by omega⟩
      rw [(k2 j (by omega)).2] at hv; cases hv; exact fits_lo8 _
/-- the same text -/
def SameT (n : Nat) (f : Nat → Int32) (k : Nat) (g : Nat → Int32) : Prop := n = k ∧ ∀ j, j < n → f j = g j
theorem lo8_inj {x y : Int32} (h0 : ¬ x < 0) (h1 : ¬ 255 < x) (k0 : ¬ y < 0) (k1 : ¬ 255 < y) (h : lo8 x = lo8 y) : x = y := by
  rw [← lo8_mask h0 h1, ← lo8_mask k0 k1, h]
/-- arrays coded by one coder are equal just where the texts are -/
theorem Cod.eqv {cd : Int32} {n k : Nat} {f g : Nat → Int32} {V V' : Cell} (h : Cod cd n f V) (h' : Cod cd k g V') (hf : ∀ j, j < n → ¬ f j < 0 ∧ ¬ 65535 < f j) (hg : ∀ j, j < k → ¬ g j < 0 ∧ ¬ 65535 < g j) : EqC V V' ↔ SameT n f k g := by
  have yvv : ∀ {W : Cell} {i : Nat} {x : Int32}, W.slots[i]? = some (.int x) → yv W i = x := fun q => by unfold yv; rw [q]
  rcases h with ⟨rfl, k1, k2⟩ | ⟨rfl, k1, k2, -⟩
  · rcases h' with ⟨-, m1, m2⟩ | ⟨e, -⟩
    · constructor
      · rintro ⟨e1, e2⟩
        refine ⟨by omega, fun j hj => ?_⟩
        have q := e2 j (by omega)
        rw [yvv (k2 j hj).1, yvv (m2 j (by omega)).1] at q
        exact lo8_inj (hf j hj).1 (k2 j hj).2 (hg j (by omega)).1 (m2 j (by omega)).2 q
      · rintro ⟨rfl, e2⟩
        refine ⟨by omega, fun j hj => ?_⟩
        rw [yvv (k2 j (by omega)).1, yvv (m2 j (by omega)).1, e2 j (by omega)]
    · exact absurd e (by decide)
  · rcases h' with ⟨e, -⟩ | ⟨-, m1, m2, -⟩
    · exact absurd e (by decide)
    · constructor
      · rintro ⟨e1, e2⟩
        refine ⟨by omega, fun j hj => ?_⟩
        have q1 := e2 (2 * j) (by omega)
        have q2 := e2 (2 * j + 1) (by omega)
        rw [yvv (k2 j hj).1, yvv (m2 j (by omega)).1] at q1
        rw [yvv (k2 j hj).2, yvv (m2 j (by omega)).2] at q2
        rw [← pair_says (hf j hj).1 (hf j hj).2, ← pair_says (hg j (by omega)).1 (hg j (by omega)).2, q1, q2]
      · rintro ⟨rfl, e2⟩
        refine ⟨by omega, fun i hi => ?_⟩
        rcases Nat.mod_two_eq_zero_or_one i with e | e
        · obtain ⟨j, rfl⟩ : ∃ j, i = 2 * j := ⟨i / 2, by omega⟩
          rw [yvv (k2 j (by omega)).1, yvv (m2 j (by omega)).1, e2 j (by omega)]
        · obtain ⟨j, rfl⟩ : ∃ j, i = 2 * j + 1 := ⟨i / 2, by omega⟩
          rw [yvv (k2 j (by omega)).2, yvv (m2 j (by omega)).2, e2 j (by omega)]
/-- two codings differ: so do the texts -/
theorem Cod.dif {cd cd' : Int32} {n k : Nat} {f g : Nat → Int32} {V V' : Cell} (h : Cod cd n f V) (h' : Cod cd' k g V') (hne : ¬ cd = cd') : ¬ SameT n f k g := by
  rintro ⟨rfl, e⟩
  rcases h with ⟨rfl, -, k2⟩ | ⟨rfl, -, -, j, hj, hw⟩
  · rcases h' with ⟨rfl, -⟩ | ⟨-, -, -, j, hj, hw⟩
    · exact hne rfl
    · exact (k2 j hj).2 (by rw [e j hj]; exact hw)
  · rcases h' with ⟨-, -, m2⟩ | ⟨rfl, -⟩
    · exact (m2 j hj).2 (by rw [← e j hj]; exact hw)
    · exact hne rfl
/-- an object of exactly C is an instance of C -/
theorem cinst {p : Program} {l : Launch} {e : Env} {R : Room} {s : State} {m : MethodId} {args : Array Value} {below : List Frame} {meth : Method} {c : Code} {T : State} {locs : List Loc} {cells slots : Nat} (X : Stand p l e R s m args below meth c T locs cells slots) (hexec : p.tables.exec = Jvm.exec) {own C : String} {index : Nat} (hown : s.vm.findClass own = some m.cls) (hlink : (Cond.classLink own index C).before args s = true) {a : Addr} (hE : Exact C a T)
    {g : JFrame} (hg : g.method = m) {rest : List Value} (hstack : g.stack = .ref a :: rest) (hdg : decode c.code g.pc = .ok (.instanceof index, 3)) :
    ∃ T', Stand p l e R s m args below meth c T' locs cells slots ∧ T'.heap = T.heap ∧ ∀ target, Steps p.tables e below (T'.setTop { g with pc := g.pc + 3, stack := .int 1 :: rest }) target → Steps p.tables e below (T.setTop g) target := by
  obtain ⟨cB, h1, D, h2, h3, h4⟩ := hE
  have h1' : s.vm.findClass C = some cB := by rw [← X.warmed.alike.findClass]; exact h1
  obtain ⟨vm', X', st⟩ := X.instanceofYes hexec hown hlink h2 h4 h1' (by rw [h3]; exact Jvm.Free.SB.assignable_self _ _) hg hstack hdg
  exact ⟨_, X', rfl, st⟩
theorem cself {p : Program} {l : Launch} {e : Env} {R : Room} {s : State} {m : MethodId} {args : Array Value} {below : List Frame} {meth : Method} {c : Code} {T : State} {locs : List Loc} {cells slots : Nat} (X : Stand p l e R s m args below meth c T locs cells slots) (hexec : p.tables.exec = Jvm.exec) {own C : String} {index : Nat} (hown : s.vm.findClass own = some m.cls) (hlink : (Cond.classLink own index C).before args s = true) {a : Addr} (hE : Exact C a T)
    {g : JFrame} (hg : g.method = m) {rest : List Value} (hstack : g.stack = .ref a :: rest) (hdg : decode c.code g.pc = .ok (.checkcast index, 3)) :
    ∃ T', Stand p l e R s m args below meth c T' locs cells slots ∧ T'.heap = T.heap ∧ ∀ target, Steps p.tables e below (T'.setTop { g with pc := g.pc + 3, stack := .ref a :: rest }) target → Steps p.tables e below (T.setTop g) target := by
  obtain ⟨cB, h1, D, h2, h3, h4⟩ := hE
  have h1' : s.vm.findClass C = some cB := by rw [← X.warmed.alike.findClass]; exact h1
  obtain ⟨vm', X', st⟩ := X.checkcastYes hexec hown hlink h2 h4 h1' (by rw [h3]; exact Jvm.Free.SB.assignable_self _ _) hg hstack hdg
  exact ⟨_, X', rfl, fun t h => st t (by rw [← hstack] at h; exact h)⟩
namespace SEq
def yN : MethodName := ⟨"java/lang/String", "equals", "(Ljava/lang/Object;)Z"⟩
abbrev yB : ByteArray := jdk_42_method_66_code
theorem d0 : decode yB 0 = .ok (.aload_n 0, 1) := by decide +kernel
theorem d1 : decode yB 1 = .ok (.aload_n 1, 1) := by decide +kernel
theorem d2 : decode yB 2 = .ok (.if_acmp (.ne) 5, 3) := by decide +kernel
theorem d5 : decode yB 5 = .ok (.iconst 1, 1) := by decide +kernel
theorem d6 : decode yB 6 = .ok (.ireturn, 1) := by decide +kernel
theorem d7 : decode yB 7 = .ok (.aload_n 1, 1) := by decide +kernel
theorem d8 : decode yB 8 = .ok (.instanceof 10, 3) := by decide +kernel
theorem d11 : decode yB 11 = .ok (.ifCond (.eq) 43, 3) := by decide +kernel
theorem d14 : decode yB 14 = .ok (.aload_n 1, 1) := by decide +kernel
theorem d15 : decode yB 15 = .ok (.checkcast 10, 3) := by decide +kernel
theorem d18 : decode yB 18 = .ok (.astore_n 2, 1) := by decide +kernel
theorem d19 : decode yB 19 = .ok (.getstatic 38, 3) := by decide +kernel
theorem d22 : decode yB 22 = .ok (.ifCond (.eq) 14, 3) := by decide +kernel
theorem d25 : decode yB 25 = .ok (.aload_n 0, 1) := by decide +kernel
theorem d26 : decode yB 26 = .ok (.getfield 15, 3) := by decide +kernel
theorem d29 : decode yB 29 = .ok (.aload_n 2, 1) := by decide +kernel
theorem d30 : decode yB 30 = .ok (.getfield 15, 3) := by decide +kernel
theorem d33 : decode yB 33 = .ok (.if_icmp (.ne) 21, 3) := by decide +kernel
theorem d36 : decode yB 36 = .ok (.aload_n 0, 1) := by decide +kernel
theorem d37 : decode yB 37 = .ok (.getfield 9, 3) := by decide +kernel
theorem d40 : decode yB 40 = .ok (.aload_n 2, 1) := by decide +kernel
theorem d41 : decode yB 41 = .ok (.getfield 9, 3) := by decide +kernel
theorem d44 : decode yB 44 = .ok (.invokestatic 541, 3) := by decide +kernel
theorem d47 : decode yB 47 = .ok (.ifCond (.eq) 7, 3) := by decide +kernel
theorem d50 : decode yB 50 = .ok (.iconst 1, 1) := by decide +kernel
theorem d51 : decode yB 51 = .ok (.goto 4, 3) := by decide +kernel
theorem d54 : decode yB 54 = .ok (.iconst 0, 1) := by decide +kernel
theorem d55 : decode yB 55 = .ok (.ireturn, 1) := by decide +kernel
def site : List Cond := [.classLink "java/lang/String" 10 "java/lang/String", .fieldLink "java/lang/String" 38 "java/lang/String" "COMPACT_STRINGS" "Z", .fieldLink "java/lang/String" 15 "java/lang/String" "coder" "B", .fieldLink "java/lang/String" 9 "java/lang/String" "value" "[B", LEq.tab] ++ staticW "java/lang/String" 541 LEq.yN
def tab : Cond := tabOf yN yB 3 (some .boolean) site
def P (x t : Addr) (V : Cell) (cd : Int32) (n : Nat) (f : Nat → Int32) (y t' : Addr) (V' : Cell) (cd' : Int32) (k : Nat) (g : Nat → Int32) (z : Int32) (args : Array Value) (s : State) : Prop := args = #[.ref x, .ref y] ∧ Txt x t V cd n f s ∧ Txt y t' V' cd' k g s ∧ StaticIs s "java/lang/String" "COMPACT_STRINGS" "Z" (.int z) ∧ ¬ z = 0
/-- equals(Object) of two Strings: whether the texts are the same -/
theorem law (l : Launch) (x t : Addr) (V : Cell) (cd : Int32) (n : Nat) (f : Nat → Int32) (y t' : Addr) (V' : Cell) (cd' : Int32) (k : Nat) (g : Nat → Int32) (z : Int32) : Law l yN 2 1 1 14 yB 3 (some .boolean) site (P x t V cd n f y t' V' cd' k g z) (Says01 (SameT n f k g)) [] 0 0 := by
  refine Law.of_walk (plainFor_of_name (by decide +kernel)) (by decide +kernel) (by decide +kernel) (by decide) (fun _ _ h => by rw [h.1]; rfl) (fun _ U U' hal hh h => ⟨h.1, h.2.1.mv hal hh, h.2.2.1.mv hal hh, h.2.2.2.1.there hal hh, h.2.2.2.2⟩) (fun r U U' V V' h1 hal h2 h => Says01.mv r U U' V V' h1 hal h2 h) ?_
  intro p e s m args below meth c s₁ X0 hexec hbytes hml hret hlk hnm hown hh0 W hP
  obtain ⟨rfl, hx, hy, s1, hz⟩ := hP
  have c1 : Steps p.tables e below (s₁.setTop (entryFrame m #[.ref x, .ref y] 3)) (s₁.setTop (mkF m 2 #[.val (.ref x), .val (.ref y), .unset] [.ref y, .ref x])) := Steps.trans (entry rfl) (by
    show Steps p.tables e below (s₁.setTop (mkF m 0 #[.val (.ref x), .val (.ref y), .unset] [])) _
    refine XS.aloadN X0.here hexec rfl (hb hbytes d0) rfl rfl ?_
    refine XS.aloadN X0.here hexec rfl (hb hbytes d1) rfl rfl ?_
    exact Steps.refl _)
  by_cases hxy : x = y
  · have c2 : Steps p.tables e below (s₁.setTop (entryFrame m #[.ref x, .ref y] 3)) (s₁.setTop (mkF m 6 #[.val (.ref x), .val (.ref y), .unset] [.int 1])) := c1.trans (by
      refine acmpNo X0.here hexec rfl (hb hbytes d2) rfl rfl rfl (by simp [acmp, hxy]) ?_
      refine iconstV X0.here hexec rfl 1 (hb hbytes d5) (by decide) ?_
      exact Steps.refl _)
    subst hxy
    have ec : cd = cd' := by
      obtain ⟨D, fd, a1, a2, a3⟩ := hx.2.2.1
      obtain ⟨D', fd', b1, b2, b3⟩ := hy.2.2.1
      cases a1.symm.trans b1
      obtain ⟨q1, q2, q3, q4⟩ := a2.1
      obtain ⟨r1, r2, r3, r4⟩ := b2.1
      cases q4.symm.trans r4
      cases a3.symm.trans b3; rfl
    have et : t = t' := by
      obtain ⟨D, fd, a1, a2, a3⟩ := hx.2.1
      obtain ⟨D', fd', b1, b2, b3⟩ := hy.2.1
      cases a1.symm.trans b1
      obtain ⟨q1, q2, q3, q4⟩ := a2.1
      obtain ⟨r1, r2, r3, r4⟩ := b2.1
      cases q4.symm.trans r4
      cases a3.symm.trans b3; rfl
    subst ec et
    have ev : V = V' := by cases hx.2.2.2.1.1.symm.trans hy.2.2.2.1.1; rfl
    subst ev
    have hs : SameT n f k g := (Cod.eqv hx.2.2.2.2.1 hy.2.2.2.2.1 hx.2.2.2.2.2 hy.2.2.2.2.2).mp ⟨rfl, fun _ _ => rfl⟩
    exact ⟨s₁, some (.int 1), _, _, _, X0, rfl, rfl, rfl, (fun h => by cases h), ⟨1, rfl, hh0, Or.inl ⟨rfl, hs⟩⟩, fun fs hl => c2.trans (X0.ireturnOut hexec hret rfl (Or.inr (Or.inl rfl)) (hb hbytes d6) hl)⟩
  · have c2 : Steps p.tables e below (s₁.setTop (entryFrame m #[.ref x, .ref y] 3)) (s₁.setTop (mkF m 8 #[.val (.ref x), .val (.ref y), .unset] [.ref y])) := c1.trans (by
      refine acmpYes X0.here hexec rfl (pc0 := 2) rfl (hb hbytes d2) rfl rfl rfl (by simp [acmp, hxy]) (by decide) rfl ?_
      refine XS.aloadN X0.here hexec rfl (hb hbytes d7) rfl rfl ?_
      exact Steps.refl _)
    obtain ⟨T3, X3, q3, st3⟩ := cinst X0 hexec hown (wk W (.classLink "java/lang/String" 10 "java/lang/String")) (hy.mv X0.warmed.alike hh0).1 (g := (mkF m 8 #[.val (.ref x), .val (.ref y), .unset] [.ref y])) rfl (rest := []) rfl (hb hbytes d8)
    have hh3 := q3.trans hh0
    have c4 : Steps p.tables e below (s₁.setTop (entryFrame m #[.ref x, .ref y] 3)) (T3.setTop (mkF m 15 #[.val (.ref x), .val (.ref y), .unset] [.ref y])) := (c2.trans (st3 _ (Steps.refl _))).trans (by
      refine XS.ifNo X3.here hexec rfl (hb hbytes d11) rfl (i0_eq_f (by decide)) ?_
      refine XS.aloadN X3.here hexec rfl (hb hbytes d14) rfl rfl ?_
      exact Steps.refl _)
    obtain ⟨T5, X5, q5, st5⟩ := cself X3 hexec hown (wk W (.classLink "java/lang/String" 10 "java/lang/String")) (hy.mv X3.warmed.alike hh3).1 (g := (mkF m 15 #[.val (.ref x), .val (.ref y), .unset] [.ref y])) rfl (rest := []) rfl (hb hbytes d15)
    have hh5 := q5.trans hh3
    have c6 : Steps p.tables e below (s₁.setTop (entryFrame m #[.ref x, .ref y] 3)) (T5.setTop (mkF m 19 #[.val (.ref x), .val (.ref y), .val (.ref y)] [])) := (c4.trans (st5 _ (Steps.refl _))).trans (by
      refine XS.astoreN X5.here hexec rfl (hb hbytes d18) rfl rfl rfl ?_
      exact Steps.refl _)
    obtain ⟨T7, X7, q7, st7⟩ := X5.sget hexec hown (wk W (.fieldLink "java/lang/String" 38 "java/lang/String" "COMPACT_STRINGS" "Z")) s1 (fun _ _ h => by rw [hh5]; exact h) (g := (mkF m 19 #[.val (.ref x), .val (.ref y), .val (.ref y)] [])) rfl (hb hbytes d19)
    have hh7 := q7.trans hh5
    have c8 : Steps p.tables e below (s₁.setTop (entryFrame m #[.ref x, .ref y] 3)) (T7.setTop (mkF m 26 #[.val (.ref x), .val (.ref y), .val (.ref y)] [.ref x])) := (c6.trans (st7 _ (Steps.refl _))).trans (by
      refine XS.ifNo X7.here hexec rfl (hb hbytes d22) rfl (i0_eq_f hz) ?_
      refine XS.aloadN X7.here hexec rfl (hb hbytes d25) rfl rfl ?_
      exact Steps.refl _)
    obtain ⟨T9, X9, q9, st9⟩ := X7.hget hexec hown (wk W (.fieldLink "java/lang/String" 15 "java/lang/String" "coder" "B")) (hx.mv X7.warmed.alike hh7).2.2.1 (g := (mkF m 26 #[.val (.ref x), .val (.ref y), .val (.ref y)] [.ref x])) rfl (rest := []) rfl (hb hbytes d26)
    have hh9 := q9.trans hh7
    have c10 : Steps p.tables e below (s₁.setTop (entryFrame m #[.ref x, .ref y] 3)) (T9.setTop (mkF m 30 #[.val (.ref x), .val (.ref y), .val (.ref y)] [.ref y, .int cd])) := (c8.trans (st9 _ (Steps.refl _))).trans (by
      refine XS.aloadN X9.here hexec rfl (hb hbytes d29) rfl rfl ?_
      exact Steps.refl _)
    obtain ⟨T11, X11, q11, st11⟩ := X9.hget hexec hown (wk W (.fieldLink "java/lang/String" 15 "java/lang/String" "coder" "B")) (hy.mv X9.warmed.alike hh9).2.2.1 (g := (mkF m 30 #[.val (.ref x), .val (.ref y), .val (.ref y)] [.ref y, .int cd])) rfl (rest := [.int cd]) rfl (hb hbytes d30)
    have hh11 := q11.trans hh9
    have c12 : Steps p.tables e below (s₁.setTop (entryFrame m #[.ref x, .ref y] 3)) (T11.setTop (mkF m 33 #[.val (.ref x), .val (.ref y), .val (.ref y)] [.int cd', .int cd])) := c10.trans (st11 _ (Steps.refl _))
    by_cases hcd : cd = cd'
    · subst hcd
      have c13 : Steps p.tables e below (s₁.setTop (entryFrame m #[.ref x, .ref y] 3)) (T11.setTop (mkF m 37 #[.val (.ref x), .val (.ref y), .val (.ref y)] [.ref x])) := c12.trans (by
        refine XS.icmpNo X11.here hexec rfl (hb hbytes d33) rfl (ii_ne_f rfl) ?_
        refine XS.aloadN X11.here hexec rfl (hb hbytes d36) rfl rfl ?_
        exact Steps.refl _)
      obtain ⟨T14, X14, q14, st14⟩ := X11.hget hexec hown (wk W (.fieldLink "java/lang/String" 9 "java/lang/String" "value" "[B")) (hx.mv X11.warmed.alike hh11).2.1 (g := (mkF m 37 #[.val (.ref x), .val (.ref y), .val (.ref y)] [.ref x])) rfl (rest := []) rfl (hb hbytes d37)
      have hh14 := q14.trans hh11
      have c15 : Steps p.tables e below (s₁.setTop (entryFrame m #[.ref x, .ref y] 3)) (T14.setTop (mkF m 41 #[.val (.ref x), .val (.ref y), .val (.ref y)] [.ref y, .ref t])) := (c13.trans (st14 _ (Steps.refl _))).trans (by
        refine XS.aloadN X14.here hexec rfl (hb hbytes d40) rfl rfl ?_
        exact Steps.refl _)
      obtain ⟨T16, X16, q16, st16⟩ := X14.hget hexec hown (wk W (.fieldLink "java/lang/String" 9 "java/lang/String" "value" "[B")) (hy.mv X14.warmed.alike hh14).2.1 (g := (mkF m 41 #[.val (.ref x), .val (.ref y), .val (.ref y)] [.ref y, .ref t])) rfl (rest := [.ref t]) rfl (hb hbytes d41)
      have hh16 := q16.trans hh14
      have c17 : Steps p.tables e below (s₁.setTop (entryFrame m #[.ref x, .ref y] 3)) (T16.setTop (mkF m 44 #[.val (.ref x), .val (.ref y), .val (.ref y)] [.ref t', .ref t])) := c15.trans (st16 _ (Steps.refl _))
      obtain ⟨v18, T18, X18, E18, g18⟩ := X16.callS hexec (LEq.law l t V t' V') hown (wks W (staticW "java/lang/String" 541 LEq.yN)) (wk W LEq.tab) (W := 0) (Nat.le_of_ble_eq_true rfl) (Nat.le_of_ble_eq_true rfl) (Nat.le_refl _) (Nat.le_refl _) (g := (mkF m 44 #[.val (.ref x), .val (.ref y), .val (.ref y)] [.ref t', .ref t])) rfl (by rw [hml]; rfl) c17 (argsL := [.ref t, .ref t']) (rest := []) rfl rfl (by show 2 * 0 + 0 ≤ _; decide) (hb hbytes d44) (⟨rfl, hx.2.2.2.1.mv X16.warmed.alike hh16, hx.2.2.2.2.1.ty, hy.2.2.2.1.mv X16.warmed.alike hh16, hy.2.2.2.2.1.ty⟩)
      obtain ⟨v, rfl, q18, hv⟩ := E18
      have iff := Cod.eqv hx.2.2.2.2.1 hy.2.2.2.2.1 hx.2.2.2.2.2 hy.2.2.2.2.2
      rcases hv with ⟨rfl, he⟩ | ⟨rfl, he⟩
      · have c19 : Steps p.tables e below (s₁.setTop (entryFrame m #[.ref x, .ref y] 3)) (T18.setTop (mkF m 55 #[.val (.ref x), .val (.ref y), .val (.ref y)] [.int 1])) := Steps.trans g18 (by
          refine XS.ifNo X18.here hexec rfl (hb hbytes d47) rfl (i0_eq_f (by decide)) ?_
          refine iconstV X18.here hexec rfl 1 (hb hbytes d50) (by decide) ?_
          refine XS.goto X18.here hexec rfl (pc0 := 51) rfl (hb hbytes d51) (by decide) rfl ?_
          exact Steps.refl _)
        exact ⟨T18, some (.int 1), _, _, _, X18, rfl, rfl, rfl, (fun h => by cases h), ⟨1, rfl, q18.trans hh16, Or.inl ⟨rfl, iff.mp he⟩⟩, fun fs hl => c19.trans (X18.ireturnOut hexec hret rfl (Or.inr (Or.inl rfl)) (hb hbytes d55) hl)⟩
      · have c19 : Steps p.tables e below (s₁.setTop (entryFrame m #[.ref x, .ref y] 3)) (T18.setTop (mkF m 55 #[.val (.ref x), .val (.ref y), .val (.ref y)] [.int 0])) := Steps.trans g18 (by
          refine XS.ifYes X18.here hexec rfl (pc0 := 47) rfl (hb hbytes d47) rfl (i0_eq_t rfl) (by decide) rfl ?_
          refine iconstV X18.here hexec rfl 0 (hb hbytes d54) (by decide) ?_
          exact Steps.refl _)
        exact ⟨T18, some (.int 0), _, _, _, X18, rfl, rfl, rfl, (fun h => by cases h), ⟨0, rfl, q18.trans hh16, Or.inr ⟨rfl, fun q => he (iff.mpr q)⟩⟩, fun fs hl => c19.trans (X18.ireturnOut hexec hret rfl (Or.inr (Or.inl rfl)) (hb hbytes d55) hl)⟩
    · have c13 : Steps p.tables e below (s₁.setTop (entryFrame m #[.ref x, .ref y] 3)) (T11.setTop (mkF m 55 #[.val (.ref x), .val (.ref y), .val (.ref y)] [.int 0])) := c12.trans (by
        refine XS.icmpYes X11.here hexec rfl (pc0 := 33) rfl (hb hbytes d33) rfl (ii_ne_t hcd) (by decide) rfl ?_
        refine iconstV X11.here hexec rfl 0 (hb hbytes d54) (by decide) ?_
        exact Steps.refl _)
      exact ⟨T11, some (.int 0), _, _, _, X11, rfl, rfl, rfl, (fun h => by cases h), ⟨0, rfl, hh11, Or.inr ⟨rfl, Cod.dif hx.2.2.2.2.1 hy.2.2.2.2.1 hcd⟩⟩, fun fs hl => c13.trans (X11.ireturnOut hexec hret rfl (Or.inr (Or.inl rfl)) (hb hbytes d55) hl)⟩
theorem pays {l : Launch} {R : Room} {p : Program} {e : Env} {below : List Frame} {s : State} {sargs : Array Value} {len W : Nat} (x t : Addr) (V : Cell) (cd : Int32) (n : Nat) (f : Nat → Int32) (y t' : Addr) (V' : Cell) (cd' : Int32) (k : Nat) (g : Nat → Int32) (z : Int32) (htab : tab.before sargs s = true) (hfr : 2 ≤ R.frames) (hlo : W + 28 ≤ R.locals) :
    Back l R p e below s sargs yN len W (fun A₁ a₁ => A₁.cells + 0 ≤ R.cells ∧ A₁.slots + 0 ≤ R.slots ∧ P x t V cd n f y t' V' cd' k g z a₁ A₁.U) (fun A₁ _ v₁ B₁ => Says01 (SameT n f k g) v₁ A₁.U B₁.U ∧ B₁.locs = A₁.locs ++ [] ∧ B₁.cells = A₁.cells + 0 ∧ B₁.slots = A₁.slots + 0) :=
  (law l x t V cd n f y t' V' cd' k g z).pays htab hfr (by omega)
end SEq
end StrChars
namespace StrChars.Road
open Jvm Sem ClassFile Op Lib Jvm.Stand Jvm.Free Jvm.Free.XT
open Jvm.Lib.Cold (StaticIs)
/-- the words of String.equals(Object) -/
abbrev wordsEq : List Jvm.Cond := [.code SEq.yN SEq.yB 3 (some .boolean), .initialized ST, .classLink ST 10 ST, .fieldLink ST 38 ST "COMPACT_STRINGS" "Z", .fieldLink ST 15 ST "coder" "B", .fieldLink ST 9 ST "value" "[B", .methodLink ST 541 LEq.yN, .static LEq.yN, .code LEq.yN LEq.yB 3 (some .boolean), .initialized "java/lang/StringLatin1"]
theorem tabEq_of {a : Array Value} {s : State} (h : ∀ w ∈ wordsEq, w.before a s = true) : SEq.tab.before a s = true := by
  have hl : LEq.tab.before a s = true := unparts (wk h (.code LEq.yN LEq.yB 3 (some .boolean))) (wks h (.initialized LEq.yN.cls :: LEq.site))
  have q := consq hl h
  exact unparts (wk q (.code SEq.yN SEq.yB 3 (some .boolean))) (wks q (.initialized SEq.yN.cls :: SEq.site))
theorem movedEq {Z s : State} {a0 args : Array Value} (hZ : Z.Warmed39 s.vm) (hw : ∀ d ∈ wordsEq, d.before a0 Z = true) : ∀ d ∈ wordsEq, d.before args s = true := fun d hd => by
  have t : ∀ d ∈ wordsEq, (d.onTables && d.keepsFace) = true := by decide +kernel
  exact RoadKit.mv hZ (hw d hd) (t d hd)
/-- the road's facts of a String, as the laws ask it -/
theorem txt_of {Z U : State} {a0 : Array Value} {kI : Nat} (wi : (Jvm.Cond.instantiable ST kI).before a0 Z = true) (al : Z.vm.Alike U.vm) {x t : Addr} {kb : ClassId} {cs : List Int32} {cd N2 : Int32} {vs : List Value} (E : RoadKit.Exa Z U.heap x ST) (V : RoadKit.Fld Z U.heap x ST "value" "[B" (.ref t)) (C : RoadKit.Fld Z U.heap x ST "coder" "B" (.int cd)) (K : RoadKit.Arv Z U.heap t kb .byte N2 vs (.int 0)) (hc : CodA cs cd N2 vs) (hb : ∀ c ∈ cs, ¬ c < 0 ∧ ¬ (65535 : Int32) < c) (l2 : cs.length ≤ 4000) :
    ∃ A, Txt x t A cd cs.length (fun j => cs.getD j 0) U := by
  obtain ⟨A, K1, K2, K3, K4, K5, K6⟩ := K
  have hcod := hc.cod (by omega) K3 K5
  obtain ⟨D, fV, fC, hB, F1, F2, g1, g2, -, -⟩ := strObj wi al E V C
  exact ⟨A, ⟨_, hB.2.2.1, D, hB.1, rfl, by cases q : D.vm <;> first | rfl | exact absurd q (hB.2.1.2 _)⟩, Has.of hB F1 g1, Has.of hB F2 g2, ⟨K1.1, State.isArrayOf_alike al K1.2.1, K1.2.2, by rcases hcod with ⟨-, q, -⟩ | ⟨-, q, -⟩ <;> omega⟩, hcod, fun j hj => by
    have e : cs.getD j 0 = cs[j] := by simp [List.getD_eq_getElem?_getD, hj]
    show ¬ cs.getD j 0 < 0 ∧ ¬ 65535 < cs.getD j 0
    rw [e]; exact hb _ (List.getElem_mem _)⟩
theorem same_list (cs ds : List Int32) : SameT cs.length (fun j => cs.getD j 0) ds.length (fun j => ds.getD j 0) ↔ cs = ds := by
  constructor
  · rintro ⟨e, q⟩
    refine List.ext_getElem e fun j h1 h2 => ?_
    have := q j h1
    simpa [List.getD_eq_getElem?_getD, h1, h2] using this
  · rintro rfl
    exact ⟨rfl, fun _ _ => rfl⟩
/-- **equals(Object) OF TWO SUCH STRINGS**: 1 just where the chars are the same -/
theorem eqW {p : Program} {l : Launch} {e : Env} {R : Room} {s : State} {args : Array Value} {below : List Frame} {len W : Nat} {Z : State} {a0 : Array Value} {h : Heap} (hZ : Z.Warmed39 s.vm) (hw : ∀ d ∈ wordsEq, d.before a0 Z = true) {kI : Nat} (wi : (Jvm.Cond.instantiable ST kI).before a0 Z = true)
    {x t : Addr} {kb : ClassId} {cs : List Int32} {cd N2 : Int32} {vs : List Value} (E : RoadKit.Exa Z h x ST) (V : RoadKit.Fld Z h x ST "value" "[B" (.ref t)) (C : RoadKit.Fld Z h x ST "coder" "B" (.int cd)) (K : RoadKit.Arv Z h t kb .byte N2 vs (.int 0)) (hc : CodA cs cd N2 vs) (hb : ∀ c ∈ cs, ¬ c < 0 ∧ ¬ (65535 : Int32) < c) (l2 : cs.length ≤ 4000)
    {y t' : Addr} {kb' : ClassId} {ds : List Int32} {cd' N2' : Int32} {vs' : List Value} (E' : RoadKit.Exa Z h y ST) (V' : RoadKit.Fld Z h y ST "value" "[B" (.ref t')) (C' : RoadKit.Fld Z h y ST "coder" "B" (.int cd')) (K' : RoadKit.Arv Z h t' kb' .byte N2' vs' (.int 0)) (hc' : CodA ds cd' N2' vs') (hb' : ∀ c ∈ ds, ¬ c < 0 ∧ ¬ (65535 : Int32) < c) (l2' : ds.length ≤ 4000)
    {z : Int32} (S : RoadKit.Sta Z h ST "COMPACT_STRINGS" "Z" (.int z)) (hz : ¬ z = 0) (hfr : 2 ≤ R.frames) (hlo : W + 28 ≤ R.locals) :
    Back l R p e below s args (⟨"java/lang/String", "equals", "(Ljava/lang/Object;)Z"⟩ : MethodName) len W (fun P a => a = #[.ref x, .ref y] ∧ P.U.heap = h ∧ P.cells + 0 ≤ R.cells ∧ P.slots + 0 ≤ R.slots)
      (fun P _ v B => ∃ L, (((v = some (.int 1) ∧ cs = ds) ∨ (v = some (.int 0) ∧ ¬ cs = ds)) ∧ L = [] ∧ B.U.heap = h) ∧ B.locs = P.locs ++ L ∧ B.cells = P.cells + 0 ∧ B.slots = P.slots + 0) := by
  intro m meth c P g ig mk a X hg hsize hdg hW hn hp'
  obtain ⟨rfl, rfl, r1, r2⟩ := hp'
  have al : Z.vm.Alike P.U.vm := hZ.alike.trans X.warmed.alike
  obtain ⟨A, hx⟩ := txt_of wi al E V C K hc hb l2
  obtain ⟨A', hy⟩ := txt_of wi al E' V' C' K' hc' hb' l2'
  obtain ⟨v, B, X', ⟨⟨w, hv, hh, hq⟩, hl, hk, hs⟩, st⟩ := SEq.pays x t A cd cs.length (fun j => cs.getD j 0) y t' A' cd' ds.length (fun j => ds.getD j 0) z (tabEq_of (movedEq hZ hw)) hfr hlo m meth c P g ig mk _ X hg hsize hdg hW hn ⟨r1, r2, rfl, hx, hy, sta_is al S, hz⟩
  refine ⟨v, B, X', ⟨[], ⟨?_, rfl, hh⟩, hl, hk, hs⟩, st⟩
  rcases hq with ⟨rfl, q⟩ | ⟨rfl, q⟩
  · exact Or.inl ⟨hv, (same_list cs ds).mp q⟩
  · exact Or.inr ⟨hv, fun e => q ((same_list cs ds).mpr e)⟩
end StrChars.Road
namespace StrChars.Road
open Jvm Sem ClassFile Op Lib Jvm.Stand Jvm.Free Jvm.Free.XT
open Jvm.Lib.Cold (StaticIs)
/-- what backV says of its String, as the contracts of this text ask it: cs's low bytes, coder 0 -/
theorem codOf {cs : List Int32} {n : Nat} (hn : cs.length = n) (hb : ∀ c ∈ cs, ¬ 255 < c) : CodA cs 0 (Int32.ofNat n) ((cs.map lo8).map Value.int) := Or.inl ⟨rfl, by rw [hn], by simp [List.map_map, Function.comp_def], hb⟩
end StrChars.Road
end Jvm.Pilot.@@N@@
namespace Jvm.Pilot.@@N@@
open Jvm Jvm.ClassFile Sem Op Lib Jvm.Free Jvm.Stand Jvm.LawKit Jvm.RoadKit Bundle Jvm.Pilot.@@N@@.Jvm.D
/-! the walk in continuation style: 'Go .. A': from A the run comes to its end, and P holds there -/
def Go (p : Program) (e : Env) (below : List Frame) (P : Outcome → State → Prop) (A : State) : Prop := ∃ s₂ o, Steps p.tables e below A s₂ ∧ s₂.status = .running ∧ Ended s₂ below o ∧ P o s₂
theorem Go.by {p : Program} {e : Env} {below : List Frame} {P : Outcome → State → Prop} {A B : State} (h : ∀ t, Steps p.tables e below B t → Steps p.tables e below A t) (k : Go p e below P B) : Go p e below P A := by
  obtain ⟨s2, o, h1, h2⟩ := k
  exact ⟨s2, o, h _ h1, h2⟩
def End (s : State) (Q : Option Value → Heap → List Loc → Prop) (k n : Nat) (o : Outcome) (U : State) : Prop := ∃ v L, o = .returned v ∧ Q v U.heap L ∧ FrameEnd s o U L k n
section Ends
variable {p : Program} {l : Launch} {e : Env} {R : Room} {s : State} {m : MethodId} {args : Array Value} {below : List Frame} {meth : Method} {c : Code} {T : State} {locs : List Loc} {cells slots : Nat} {Q : Option Value → Heap → List Loc → Prop} {C S : Nat}
theorem Go.fin (X : Stand p l e R s m args below meth c T locs cells slots) {A : State} {v : Option Value} (hv : meth.sig.returnType = none → v = none) (hlk : meth.locks = false) (hk : cells ≤ C) (hn : slots ≤ S) (hQ : Q v T.heap locs)
    (k : ∀ fs, (∀ (f : JFrame) (acts : List Action), f.method = m → f.locked = none → f.entered = [] → (doReturn e (T.setTop f) acts v).1 = T.setFrames fs) → Steps p.tables e below A (T.setFrames fs)) : Go p e below (End s Q C S) A := by
  obtain ⟨fs, hr, hrun, hended, hW, hsame⟩ := X.leave (v := v) hv hlk
  exact ⟨_, _, k fs hr, hrun, hended, _, _, rfl, hQ, ⟨_, rfl⟩, hW, hsame.mono hk hn⟩
theorem Go.retZ (X : Stand p l e R s m args below meth c T locs cells slots) (hx : p.tables.exec = Jvm.exec) {pc : Nat} {Ls : Array Slot} {z : Int32} {t : FieldType} {rest : List Value} (hret : meth.sig.returnType = some t) (ht : t = .boolean ∨ t = .byte ∨ t = .char ∨ t = .short) (hlk : meth.locks = false)
    (hd : decode c.code pc = .ok (.ireturn, 1)) (hk : cells ≤ C) (hn : slots ≤ S) (hQ : Q (some (.int (nar t z))) T.heap locs) : Go p e below (End s Q C S) (T.setTop (mkF m pc Ls (.int z :: rest))) :=
  Go.fin X (fun h => by rw [hret] at h; cases h) hlk hk hn hQ fun fs hr => retN X hx hret ht hd hr
theorem Go.retI (X : Stand p l e R s m args below meth c T locs cells slots) (hx : p.tables.exec = Jvm.exec) {pc : Nat} {Ls : Array Slot} {z : Int32} {rest : List Value} (hret : meth.sig.returnType = some .int) (hlk : meth.locks = false)
    (hd : decode c.code pc = .ok (.ireturn, 1)) (hk : cells ≤ C) (hn : slots ≤ S) (hQ : Q (some (.int z)) T.heap locs) : Go p e below (End s Q C S) (T.setTop (mkF m pc Ls (.int z :: rest))) :=
  Go.fin X (fun h => by rw [hret] at h; cases h) hlk hk hn hQ fun fs hr => retOut X hx hret rfl (Or.inl ⟨rfl, Or.inl rfl, _, rfl⟩) hd hr
theorem Go.retR (X : Stand p l e R s m args below meth c T locs cells slots) (hx : p.tables.exec = Jvm.exec) {pc : Nat} {Ls : Array Slot} {w : Value} {t : FieldType} {rest : List Value} (hret : meth.sig.returnType = some t) (ht : t.isReference = true) (hw : w.isRef = true) (hlk : meth.locks = false)
    (hd : decode c.code pc = .ok (.areturn, 1)) (hk : cells ≤ C) (hn : slots ≤ S) (hQ : Q (some w) T.heap locs) : Go p e below (End s Q C S) (T.setTop (mkF m pc Ls (w :: rest))) :=
  Go.fin X (fun h => by rw [hret] at h; cases h) hlk hk hn hQ fun fs hr => retOut X hx hret (by cases t <;> cases w <;> first | rfl | (simp [FieldType.isReference] at ht) | (simp [Value.isRef] at hw)) (Or.inr (Or.inr (Or.inr (Or.inr ⟨rfl, ht, hw⟩)))) hd hr
theorem Go.retV (X : Stand p l e R s m args below meth c T locs cells slots) (hx : p.tables.exec = Jvm.exec) {pc : Nat} {Ls : Array Slot} (hret : meth.sig.returnType = none) (hlk : meth.locks = false)
    (hd : decode c.code pc = .ok (.return_, 1)) (hk : cells ≤ C) (hn : slots ≤ S) (hQ : Q none T.heap locs) : Go p e below (End s Q C S) (T.setTop (mkF m pc Ls [])) :=
  Go.fin X (fun _ => rfl) hlk hk hn hQ fun fs hr => X.returnOut hx hret hd hr
theorem own_iinc {tb : Tables} [Ours tb] {e : Env} {below : List Frame} {T target : State} {m : MethodId} {c : Code} {g : JFrame} (h : At T m c below) (hx : tb.exec = Jvm.exec) (hg : g.method = m) {k : Nat} {cst : Int} {x z : Int32} {l' : Array Slot} (hd : decode c.code g.pc = .ok (.iinc k cst, 3)) (hl : g.locals[k]? = some (.val (.int x))) (hz : Int32.ofInt cst = z) (hl' : storeLocals g.locals k (.int (x + z)) = some l')
    (hr : Steps tb e below (T.setTop { g with pc := g.pc + 3, locals := l' }) target) : Steps tb e below (T.setTop g) target := XS.iinc h hx hg hd hl (by rw [hz]; exact hl') hr
theorem own_eqi {t : Term} {n : Int32} {args : Array Value} {s : State} (h : (Cond.eq t (.int n)).before args s = true) : t.eval args s none [] s = some (.int n) := Cond.eq_int h (Term.int_eval n)
theorem own_n1 : nar .boolean (1 : Int32) = 1 := rfl
theorem own_n0 : nar .boolean (0 : Int32) = 0 := rfl
theorem own_wid (X : Stand p l e R s m args below meth c T locs cells slots) (hk : cells ≤ C) (hn : slots ≤ S) : Stand p l e R s m args below meth c T locs C S :=
  ⟨X.admits, X.cas, X.clock, X.frames, X.room, X.hears, X.method, X.code, X.here, X.tail, X.warmed, X.limits, X.bytes, X.same.mono hk hn⟩
end Ends
def Glob (Z : State) (zC : Int32) : Prop := Sta Z Z.heap "java/lang/String" "COMPACT_STRINGS" "Z" (.int zC) ∧ ¬ zC = 0
theorem own_sk {Z : State} {EL : List (String × Nat)} {vm : Vm} {h : Heap} {ws : List Addr} (_ : CHv Z EL vm h) (H : ∀ x ∈ ws, Safe Z EL vm h x) : ∀ x ∈ ws, Safe Z EL vm h x := H
section EndsC
variable {p : Program} {l : Launch} {e : Env} {R : Room} {s Z : State} {EL : List (String × Nat)} {vm0 : Vm} {k0 : Nat} {m : MethodId} {args : Array Value} {below : List Frame} {meth : Method} {c : Code} {T : State} {locs : List Loc} {cells slots : Nat} {Q : Option Value → Heap → List Loc → Prop} {C S : Nat}
def EndC (Z : State) (EL : List (String × Nat)) (s : State) (Q : Option Value → Heap → List Loc → Prop) (k n : Nat) (o : Outcome) (U : State) : Prop := ∃ v L, o = .returned v ∧ Q v U.heap L ∧ CHr Z EL s.vm s.heap U.vm U.heap ∧ ReturnedEndW s o U L k n
theorem Go.finC (X : Stand p l e R (s.setVm vm0) m args below meth c T locs cells slots) (hS : s.Since vm0 k0) (hk0 : k0 ≤ T.heap.size) {A : State} {v : Option Value} (hv : meth.sig.returnType = none → v = none) (hlk : meth.locks = false) (hk : cells ≤ C) (hn : slots ≤ S) (hQ : Q v T.heap locs) (hC : CHr Z EL s.vm s.heap T.vm T.heap)
    (k : ∀ fs, (∀ (f : JFrame) (acts : List Action), f.method = m → f.locked = none → f.entered = [] → (doReturn e (T.setTop f) acts v).1 = T.setFrames fs) → Steps p.tables e below A (T.setFrames fs)) : Go p e below (EndC Z EL s Q C S) A := by
  obtain ⟨fs, hr, hrun, hended, hE⟩ := X.leaveW hS hk0 (v := v) hv hlk
  exact ⟨_, _, k fs hr, hrun, hended, _, _, rfl, hQ, hC, hE.1, hE.2.1, hE.2.2.1, hE.2.2.2.mono hk hn⟩
theorem Go.retZC (X : Stand p l e R (s.setVm vm0) m args below meth c T locs cells slots) (hx : p.tables.exec = Jvm.exec) (hS : s.Since vm0 k0) (hk0 : k0 ≤ T.heap.size) {pc : Nat} {Ls : Array Slot} {z : Int32} {t : FieldType} {rest : List Value} (hret : meth.sig.returnType = some t) (ht : t = .boolean ∨ t = .byte ∨ t = .char ∨ t = .short) (hlk : meth.locks = false)
    (hd : decode c.code pc = .ok (.ireturn, 1)) (hk : cells ≤ C) (hn : slots ≤ S) (hQ : Q (some (.int (nar t z))) T.heap locs) (hC : CHr Z EL s.vm s.heap T.vm T.heap) : Go p e below (EndC Z EL s Q C S) (T.setTop (mkF m pc Ls (.int z :: rest))) :=
  Go.finC X hS hk0 (fun h => by rw [hret] at h; cases h) hlk hk hn hQ hC fun fs hr => retN X hx hret ht hd hr
theorem Go.retIC (X : Stand p l e R (s.setVm vm0) m args below meth c T locs cells slots) (hx : p.tables.exec = Jvm.exec) (hS : s.Since vm0 k0) (hk0 : k0 ≤ T.heap.size) {pc : Nat} {Ls : Array Slot} {z : Int32} {rest : List Value} (hret : meth.sig.returnType = some .int) (hlk : meth.locks = false)
    (hd : decode c.code pc = .ok (.ireturn, 1)) (hk : cells ≤ C) (hn : slots ≤ S) (hQ : Q (some (.int z)) T.heap locs) (hC : CHr Z EL s.vm s.heap T.vm T.heap) : Go p e below (EndC Z EL s Q C S) (T.setTop (mkF m pc Ls (.int z :: rest))) :=
  Go.finC X hS hk0 (fun h => by rw [hret] at h; cases h) hlk hk hn hQ hC fun fs hr => retOut X hx hret rfl (Or.inl ⟨rfl, Or.inl rfl, _, rfl⟩) hd hr
theorem Go.retRC (X : Stand p l e R (s.setVm vm0) m args below meth c T locs cells slots) (hx : p.tables.exec = Jvm.exec) (hS : s.Since vm0 k0) (hk0 : k0 ≤ T.heap.size) {pc : Nat} {Ls : Array Slot} {w : Value} {t : FieldType} {rest : List Value} (hret : meth.sig.returnType = some t) (ht : t.isReference = true) (hw : w.isRef = true) (hlk : meth.locks = false)
    (hd : decode c.code pc = .ok (.areturn, 1)) (hk : cells ≤ C) (hn : slots ≤ S) (hQ : Q (some w) T.heap locs) (hC : CHr Z EL s.vm s.heap T.vm T.heap) : Go p e below (EndC Z EL s Q C S) (T.setTop (mkF m pc Ls (w :: rest))) :=
  Go.finC X hS hk0 (fun h => by rw [hret] at h; cases h) hlk hk hn hQ hC fun fs hr => retOut X hx hret (by cases t <;> cases w <;> first | rfl | (simp [FieldType.isReference] at ht) | (simp [Value.isRef] at hw)) (Or.inr (Or.inr (Or.inr (Or.inr ⟨rfl, ht, hw⟩)))) hd hr
theorem Go.retVC (X : Stand p l e R (s.setVm vm0) m args below meth c T locs cells slots) (hx : p.tables.exec = Jvm.exec) (hS : s.Since vm0 k0) (hk0 : k0 ≤ T.heap.size) {pc : Nat} {Ls : Array Slot} (hret : meth.sig.returnType = none) (hlk : meth.locks = false)
    (hd : decode c.code pc = .ok (.return_, 1)) (hk : cells ≤ C) (hn : slots ≤ S) (hQ : Q none T.heap locs) (hC : CHr Z EL s.vm s.heap T.vm T.heap) : Go p e below (EndC Z EL s Q C S) (T.setTop (mkF m pc Ls [])) :=
  Go.finC X hS hk0 (fun _ => rfl) hlk hk hn hQ hC fun fs hr => X.returnOut hx hret hd hr
end EndsC

/-- a Latin-1 String at x, its bytes at t, of the chars cs -/
def Str (Z : State) (h : Heap) (x t : Addr) (cs : List Int32) : Prop := ∃ (kb : ClassId) (N : Int32) (vs : List Value), Exa Z h x "java/lang/String" ∧ Fld Z h x "java/lang/String" "value" "[B" (.ref t) ∧ Fld Z h x "java/lang/String" "coder" "B" (.int (0 : Int32)) ∧ Arv Z h t kb .byte N vs (.int (0 : Int32)) ∧ StrChars.Road.CodA cs 0 N vs ∧ (∀ c ∈ cs, ¬ c < 0 ∧ ¬ (65535 : Int32) < c) ∧ cs.length ≤ 4000
section Strs
variable {Z : State} {h h' : Heap} {x t a : Addr} {cs : List Int32}
theorem Str.mk {kb : ClassId} {N : Int32} {vs : List Value} (E : Exa Z h x "java/lang/String") (V : Fld Z h x "java/lang/String" "value" "[B" (.ref t)) (C : Fld Z h x "java/lang/String" "coder" "B" (.int (0 : Int32))) (K : Arv Z h t kb .byte N vs (.int (0 : Int32))) (hc : StrChars.Road.CodA cs 0 N vs) (hb : ∀ c ∈ cs, ¬ c < 0 ∧ ¬ (65535 : Int32) < c) (hl : cs.length ≤ 4000) : Str Z h x t cs := ⟨kb, N, vs, E, V, C, K, hc, hb, hl⟩
theorem Str.exa (F : Str Z h x t cs) : Exa Z h x "java/lang/String" := by obtain ⟨_, _, _, E, _⟩ := F; exact E
theorem Str.ltx (F : Str Z h x t cs) : x < h.size := F.exa.lt
theorem Str.ltt (F : Str Z h x t cs) : t < h.size := by obtain ⟨_, _, _, -, -, -, K, -⟩ := F; obtain ⟨c, A, -⟩ := K; exact A.lt
theorem Str.ext (F : Str Z h x t cs) (E : Ext h h') : Str Z h' x t cs := by obtain ⟨kb, N, vs, f1, f2, f3, f4, r⟩ := F; exact ⟨kb, N, vs, f1.ext E, f2.ext E, f3.ext E, f4.ext E, r⟩
theorem Str.wr {sl : Nat} {v : Value} (F : Str Z h x t cs) (W : Wr h h' a sl v) (q1 : x ≠ a) (q2 : t ≠ a) : Str Z h' x t cs := by obtain ⟨kb, N, vs, f1, f2, f3, f4, r⟩ := F; exact ⟨kb, N, vs, f1.wr W, f2.other W (Or.inl q1), f3.other W (Or.inl q1), f4.other W q2, r⟩
theorem Str.keep {ws : List Addr} (F : Str Z h x t cs) (K : Keep h h' ws) (q1 : x ∉ ws) (q2 : t ∉ ws) : Str Z h' x t cs := by obtain ⟨kb, N, vs, f1, f2, f3, f4, r⟩ := F; exact ⟨kb, N, vs, f1.keep K, f2.keep K q1, f3.keep K q1, f4.keep K q2, r⟩
end Strs
theorem own_narc (y : Int32) : nar .char (y.toUInt32.toUInt16.toUInt32.toInt32) = y.toUInt32.toUInt16.toUInt32.toInt32 := by simp only [nar, UInt32.toUInt32_toInt32, UInt16.toUInt16_toUInt32]
theorem own_chr (z : Int32) : ¬ (z &&& (255 : Int32)).toUInt32.toUInt16.toUInt32.toInt32 < 0 ∧ ¬ (255 : Int32) < (z &&& (255 : Int32)).toUInt32.toUInt16.toUInt32.toInt32 := by
  have h1 := c_i2c (z &&& (255 : Int32))
  have h2 := c_and z 255 (by decide)
  have k1 : (255 : Int32).toInt = 255 := rfl
  have k0 : (0 : Int32).toInt = 0 := rfl
  rw [Int32.lt_iff_toInt_lt, Int32.lt_iff_toInt_lt]
  omega
theorem own_up (cs : List Int32) (h : ∀ c ∈ cs, ¬ c < 0 ∧ ¬ (255 : Int32) < c) : ∀ c ∈ cs, ¬ c < 0 ∧ ¬ (65535 : Int32) < c := fun c hc => ⟨(h c hc).1, fun q => (h c hc).2 (by rw [Int32.lt_iff_toInt_lt] at q ⊢; have e1 : (65535 : Int32).toInt = 65535 := rfl; have e2 : (255 : Int32).toInt = 255 := rfl; omega)⟩
theorem own_words {Z : State} {a0 : Array Value} (hw : ∀ d ∈ tables_1, d.before a0 Z = true) : ∀ d ∈ StrChars.Road.words, d.before a0 Z = true := fun d hd => hw d ((by decide +kernel : ∀ d ∈ StrChars.Road.words, d ∈ tables_1) d hd)
theorem own_wordsEq {Z : State} {a0 : Array Value} (hw : ∀ d ∈ tables_1, d.before a0 Z = true) : ∀ d ∈ StrChars.Road.wordsEq, d.before a0 Z = true := fun d hd => hw d ((by decide +kernel : ∀ d ∈ StrChars.Road.wordsEq, d ∈ tables_1) d hd)
theorem own_safeA {Z : State} {vm : Vm} {h : Heap} {EL : List (String × Nat)} {x : Addr} {k : ClassId} {ty : FieldType} {z : Int32} {vs : List Value} {dv : Value} (hal : Z.vm.Alike vm) (A : Arv Z h x k ty z vs dv) (ht : ty ≠ .byte) : Safe Z EL vm h x := by
  obtain ⟨c, A, -⟩ := A
  exact Safe.arr hal A ht
theorem own_blank {Z : State} {vm : Vm} {h : Heap} {EL : List (String × Nat)} {x : Addr} (hal : Z.vm.Alike vm) (E : Exa Z h x "java/lang/String") (F : Fld Z h x "java/lang/String" "value" "[B" .null) : Safe Z EL vm h x := fun B => by
  obtain ⟨p, -, u, a, -, q, -, G, rfl | rfl⟩ := B
  · obtain ⟨cell, cf, k, i, f, h1, h2, -, -, -, -, h7⟩ := F
    obtain ⟨cS, ⟨⟨g1, -, -, ⟨c', k', i', g4, -⟩, -, -, -, g8, -⟩, -⟩, -⟩ := G
    cases (show h[q.sa]? = some q.sC from g1).symm.trans h1
    obtain ⟨k2, e2⟩ := ff_back (U := Wst Z vm h) hal g4
    cases h2.symm.trans e2
    rw [h7] at g8; cases g8
  · obtain ⟨cell, k, e1, e2, -⟩ := E
    have gd := G.hd
    obtain ⟨cS, -, -, f, -⟩ := G
    cases (show h[q.sd]? = some q.SA from gd).symm.trans e1
    have f' : Z.vm.findClass "[B" = some q.SA.cls := by rw [← hal.findClass]; exact f
    obtain ⟨k1, q1, q2⟩ := Vm.findClass_spec f'
    obtain ⟨k2, q3, q4⟩ := Vm.findClass_spec e2
    cases q1.symm.trans q3
    exact absurd (q2.symm.trans q4) (by decide)
theorem own_eqW {p : Program} {l : Launch} {e : Env} {R : Room} {s : State} {args : Array Value} {below : List Frame} {len W : Nat} {Z : State} {a0 : Array Value} {h : Heap} (hZ : Z.Warmed39 s.vm) (hw : ∀ d ∈ StrChars.Road.wordsEq, d.before a0 Z = true) (wi : (Jvm.Cond.instantiable "java/lang/String" 4).before a0 Z = true)
    {x t y t' : Addr} {cs ds : List Int32} (A : Str Z h x t cs) (B : Str Z h y t' ds) {z : Int32} (S : Sta Z h "java/lang/String" "COMPACT_STRINGS" "Z" (.int z)) (hz : ¬ z = 0) (hfr : 2 ≤ R.frames) (hlo : W + 28 ≤ R.locals) :
    Back l R p e below s args (⟨"java/lang/String", "equals", "(Ljava/lang/Object;)Z"⟩ : MethodName) len W (fun P a => a = #[.ref x, .ref y] ∧ P.U.heap = h ∧ P.cells + 0 ≤ R.cells ∧ P.slots + 0 ≤ R.slots)
      (fun P _ v B => ∃ L, (((v = some (.int 1) ∧ cs = ds) ∨ (v = some (.int 0) ∧ ¬ cs = ds)) ∧ L = [] ∧ B.U.heap = h) ∧ B.locs = P.locs ++ L ∧ B.cells = P.cells + 0 ∧ B.slots = P.slots + 0) := by
  obtain ⟨kb, N, vs, f1, f2, f3, f4, f5, f6, f7⟩ := A
  obtain ⟨kb', N', vs', g1, g2, g3, g4, g5, g6, g7⟩ := B
  exact StrChars.Road.eqW hZ hw wi f1 f2 f3 f4 f5 f6 f7 g1 g2 g3 g4 g5 g6 g7 S hz hfr hlo
theorem own_wS {Z : State} {a0 : Array Value} (hw : ∀ d ∈ tables_1, d.before a0 Z = true) : ∀ d ∈ Bundle.stringAtoms, d.before a0 Z = true := fun d hd => hw d ((by decide +kernel : ∀ d ∈ Bundle.stringAtoms, d ∈ tables_1) d hd)
theorem own_EW {Z : State} {a0 : Array Value} (hw : ∀ d ∈ tables_1, d.before a0 Z = true) : EW Z a0 consts_1 := (EW.cons (hw _ (List.mem_of_getElem? (i := 74) rfl)) (by decide) (EW.cons (hw _ (List.mem_of_getElem? (i := 75) rfl)) (by decide) (EW.cons (hw _ (List.mem_of_getElem? (i := 33) rfl)) (by decide) (EW.cons (hw _ (List.mem_of_getElem? (i := 32) rfl)) (by decide) (EW.cons (hw _ (List.mem_of_getElem? (i := 86) rfl)) (by decide) (EW.cons (hw _ (List.mem_of_getElem? (i := 40) rfl)) (by decide) (EW.cons (hw _ (List.mem_of_getElem? (i := 21) rfl)) (by decide) EW.nil)))))))
theorem own_lt3 (i : Int32) (h : 0 ≤ i.toInt ∧ i.toInt < 3) : i = 0 ∨ i = 1 ∨ i = 2 := by
  have q : i.toInt = 0 ∨ i.toInt = 1 ∨ i.toInt = 2 := by omega
  rcases q with q | q | q
  · exact Or.inl (Int32.toInt_inj.mp q)
  · exact Or.inr (Or.inl (Int32.toInt_inj.mp q))
  · exact Or.inr (Or.inr (Int32.toInt_inj.mp q))
theorem own_lt4 (i : Int32) (h : 0 ≤ i.toInt ∧ i.toInt < 4) : i = 0 ∨ i = 1 ∨ i = 2 ∨ i = 3 := by
  have q : i.toInt = 0 ∨ i.toInt = 1 ∨ i.toInt = 2 ∨ i.toInt = 3 := by omega
  rcases q with q | q | q | q
  · exact Or.inl (Int32.toInt_inj.mp q)
  · exact Or.inr (Or.inl (Int32.toInt_inj.mp q))
  · exact Or.inr (Or.inr (Or.inl (Int32.toInt_inj.mp q)))
  · exact Or.inr (Or.inr (Or.inr (Int32.toInt_inj.mp q)))
def mkL (n a b : Int32) : List Int32 := if n = 0 then [] else if n = 1 then [a] else [a, b]
theorem own_narr {p : Int32} (h : ¬ p < 0 ∧ ¬ (255 : Int32) < p) : nar .char p = p := by
  have e : p = Int32.ofNat p.toBitVec.toNat := by
    apply Int32.toBitVec_inj.mp
    show _ = BitVec.ofNat 32 _
    rw [BitVec.ofNat_toNat]; simp
  have t : ∀ k : Fin 256, nar .char (Int32.ofNat k.val) = Int32.ofNat k.val := by decide +kernel
  have h0 : (0 : Int32).toInt = 0 := rfl
  have h1 : (255 : Int32).toInt = 255 := rfl
  have hb : p.toBitVec.toNat < 256 := by
    have q1 := h.1; have q2 := h.2
    rw [Int32.lt_iff_toInt_lt] at q1 q2
    have q3 : p.toInt = p.toBitVec.toInt := rfl
    rw [BitVec.toInt_eq_toNat_cond] at q3
    split at q3 <;> omega
  rw [e]; exact t ⟨_, hb⟩
theorem own_one {a : Int32} (h : ¬ a < 0 ∧ ¬ (255 : Int32) < a) : ∀ c ∈ ([a] : List Int32), ¬ c < 0 ∧ ¬ (255 : Int32) < c := by
  intro c hc
  simp only [List.mem_cons, List.not_mem_nil, or_false] at hc
  subst hc; exact h
theorem own_two {a b : Int32} (h : ¬ a < 0 ∧ ¬ (255 : Int32) < a) (g : ¬ b < 0 ∧ ¬ (255 : Int32) < b) : ∀ c ∈ ([a, b] : List Int32), ¬ c < 0 ∧ ¬ (255 : Int32) < c := by
  intro c hc
  simp only [List.mem_cons, List.not_mem_nil, or_false] at hc
  rcases hc with rfl | rfl
  · exact h
  · exact g
theorem own_i2c {p : Int32} (h : ¬ p < 0 ∧ ¬ (255 : Int32) < p) : p.toUInt32.toUInt16.toUInt32.toInt32 = p := own_narr h
theorem own_and255 (z : Int32) : ¬ (z &&& (255 : Int32)) < 0 ∧ ¬ (255 : Int32) < (z &&& (255 : Int32)) := by
  have h2 := c_and z 255 (by decide)
  have k1 : (255 : Int32).toInt = 255 := rfl
  have k0 : (0 : Int32).toInt = 0 := rfl
  rw [Int32.lt_iff_toInt_lt, Int32.lt_iff_toInt_lt]
  omega
def DEF : List Int32 := [100, 101, 102, 97, 117, 108, 116]
def pkL (k n a b : Int32) : List Int32 := if k = 0 then [100, 101, 102, 97, 117, 108, 116] else if k = 1 then [68, 101, 102, 97, 117, 108, 116] else if k = 2 then [100, 101, 102, 97, 117, 108] else if k = 3 then [100, 101, 102, 97, 117, 108, 116, 115] else mkL n a b
theorem own_and7 (z : Int32) : 0 ≤ (z &&& (7 : Int32)).toInt ∧ (z &&& (7 : Int32)).toInt < 8 := by
  have h2 := c_and z 7 (by decide)
  have k1 : (7 : Int32).toInt = 7 := rfl
  omega
theorem own_len (p l : Int32) (h : (p &&& (3 : Int32)) = l) {r : Int32} (hr : r = 2 ∨ (r = l ∧ ¬ l = 3)) : 0 ≤ r.toInt ∧ r.toInt < 3 := by
  have h2 := c_and p 3 (by decide)
  have k1 : (3 : Int32).toInt = 3 := rfl
  rw [h] at h2
  rcases hr with rfl | ⟨rfl, hr⟩
  · decide
  · have : r.toInt ≠ 3 := fun q => hr (Int32.toInt_inj.mp (by rw [q, k1]))
    omega
theorem own_mkeq (l1 a0 a1 l2 b0 b1 : Int32) (h1 : 0 ≤ l1.toInt ∧ l1.toInt < 3) (h2 : 0 ≤ l2.toInt ∧ l2.toInt < 3) : (if (l1 = l2 ∧ (l1 < 1 ∨ a0 = b0) ∧ (l1 < 2 ∨ a1 = b1)) then (1 : Int32) else 0) = if mkL l1 a0 a1 = mkL l2 b0 b1 then 1 else 0 := by
  rcases own_lt3 l1 h1 with rfl | rfl | rfl <;> rcases own_lt3 l2 h2 with rfl | rfl | rfl <;> simp +decide [mkL]
theorem own_mklen (l a b : Int32) : (mkL l a b).length ≤ 2 := by
  unfold mkL; split
  · decide
  · split <;> simp
theorem own_pk0 (k n a b : Int32) : pkL k n a b = DEF ↔ k = 0 := by
  have hl := own_mklen n a b
  unfold pkL
  by_cases h0 : k = 0
  · simp [h0, DEF]
  · simp only [h0, if_false, iff_false]
    split
    · decide
    · split
      · decide
      · split
        · decide
        · intro q; rw [q] at hl; exact absurd hl (by decide)
theorem own_pkeq (k n a b k' n' a' b' : Int32) (hk : 0 ≤ k.toInt ∧ k.toInt < 8) (hk' : 0 ≤ k'.toInt ∧ k'.toInt < 8) (hn : 0 ≤ n.toInt ∧ n.toInt < 3) (hn' : 0 ≤ n'.toInt ∧ n'.toInt < 3) :
    (k < 4 → k' < 4 → (pkL k' n' a' b' = pkL k n a b ↔ k = k')) ∧ (((k < 4 ∧ ¬ k' < 4) ∨ (¬ k < 4 ∧ k' < 4)) → ¬ pkL k' n' a' b' = pkL k n a b) ∧
    (¬ k < 4 → ¬ k' < 4 → (if (n = n' ∧ (n < 1 ∨ a = a') ∧ (n < 2 ∨ b = b')) then (1 : Int32) else 0) = if pkL k' n' a' b' = pkL k n a b then 1 else 0) := by
  have hl := own_mklen n a b
  have hl' := own_mklen n' a' b'
  have big : ∀ k n a b : Int32, ¬ k < 4 → pkL k n a b = mkL n a b := by
    intro k n a b h
    unfold pkL
    have e0 : ¬ k = 0 := fun q => h (by rw [q]; decide)
    have e1 : ¬ k = 1 := fun q => h (by rw [q]; decide)
    have e2 : ¬ k = 2 := fun q => h (by rw [q]; decide)
    have e3 : ¬ k = 3 := fun q => h (by rw [q]; decide)
    rw [if_neg e0, if_neg e1, if_neg e2, if_neg e3]
  have small : ∀ k n a b : Int32, (0 ≤ k.toInt ∧ k.toInt < 8) → k < 4 → 3 ≤ (pkL k n a b).length := by
    intro k n a b h h4
    rw [Int32.lt_iff_toInt_lt] at h4
    have k4 : (4 : Int32).toInt = 4 := rfl
    rcases own_lt4 k (by omega) with rfl | rfl | rfl | rfl <;> simp [pkL]
  refine ⟨fun h1 h2 => ?_, fun h q => ?_, fun h1 h2 => ?_⟩
  · rw [Int32.lt_iff_toInt_lt] at h1 h2
    have k4 : (4 : Int32).toInt = 4 := rfl
    rcases own_lt4 k (by omega) with rfl | rfl | rfl | rfl <;> rcases own_lt4 k' (by omega) with rfl | rfl | rfl | rfl <;> simp +decide [pkL]
  · rcases h with ⟨h1, h2⟩ | ⟨h1, h2⟩
    · have s1 := small k n a b hk h1
      rw [← q, big k' n' a' b' h2] at s1; omega
    · have s1 := small k' n' a' b' hk' h2
      rw [q, big k n a b h1] at s1; omega
  · rw [big k n a b h1, big k' n' a' b' h2, own_mkeq n a b n' a' b' hn hn']
    simp only [eq_comm]
theorem own_b24 {P0 : Prop} {A B : Prop} [Decidable P0] [Decidable A] [Decidable B] {qk e22 e23 b : Int32} (h0 : P0 ↔ qk = 0) (h1 : e22 = if A then 1 else 0) (h2 : e23 = if B then 1 else 0)
    (h : (b = 1 ∧ ¬ e22 = 0 ∧ (qk = 0 ∨ ¬ e23 = 0)) ∨ (b = 0 ∧ (e22 = 0 ∨ (¬ qk = 0 ∧ e23 = 0)))) : b = if A then (if P0 then 1 else if B then 1 else 0) else 0 := by
  by_cases hA : A <;> by_cases hB : B <;> by_cases hP : P0 <;> simp_all
theorem pn_0 : plainName "java/lang/String" = true := by first | (simp [plainName, overriddenIn]; done) | decide +kernel
theorem pd_0 : parseMethodDescriptor "([CIILjava/lang/Void;)V" = some ⟨[(.array .char), .int, .int, (.object "java/lang/Void")], none⟩ := by decide +kernel
theorem pd_1 : parseMethodDescriptor "([C)V" = some ⟨[(.array .char)], none⟩ := by decide +kernel
theorem pn_1 : plainName "com/example/gather_solvers/gathersolvers/model/SolverFunctionMatchesPinLaw" = true := by first | (simp [plainName, overriddenIn]; done) | decide +kernel
theorem pd_2 : parseMethodDescriptor "(III)Ljava/lang/String;" = some ⟨[.int, .int, .int], some (.object "java/lang/String")⟩ := by decide +kernel
theorem pn_2 : plainName "java/lang/Record" = true := by first | (simp [plainName, overriddenIn]; done) | decide +kernel
theorem pd_3 : parseMethodDescriptor "()V" = some ⟨[], none⟩ := by decide +kernel
theorem pn_3 : plainName "com/example/gather_solvers/gathersolvers/model/SolverFunction" = true := by first | (simp [plainName, overriddenIn]; done) | decide +kernel
theorem pd_4 : parseMethodDescriptor "(Ljava/lang/Object;)Z" = some ⟨[(.object "java/lang/Object")], some .boolean⟩ := by decide +kernel
theorem pd_5 : parseMethodDescriptor "(I)I" = some ⟨[.int], some .int⟩ := by decide +kernel
theorem pd_6 : parseMethodDescriptor "(IIII)Ljava/lang/String;" = some ⟨[.int, .int, .int, .int], some (.object "java/lang/String")⟩ := by decide +kernel
theorem pd_7 : parseMethodDescriptor "(IIIIII)Z" = some ⟨[.int, .int, .int, .int, .int, .int], some .boolean⟩ := by decide +kernel
theorem pd_8 : parseMethodDescriptor "(Ljava/lang/String;Ljava/lang/String;Ljava/lang/String;Ljava/lang/String;)V" = some ⟨[(.object "java/lang/String"), (.object "java/lang/String"), (.object "java/lang/String"), (.object "java/lang/String")], none⟩ := by decide +kernel
theorem pd_9 : parseMethodDescriptor "(Ljava/lang/String;Ljava/lang/String;)Z" = some ⟨[(.object "java/lang/String"), (.object "java/lang/String")], some .boolean⟩ := by decide +kernel
theorem d4_0 : decode jdk_42_method_149_code 0 = .ok (.aload_n 0, 1) := by decide +kernel
theorem d4_1 : decode jdk_42_method_149_code 1 = .ok (.invokespecial 1, 3) := by decide +kernel
theorem d4_4 : decode jdk_42_method_149_code 4 = .ok (.iload_n 3, 1) := by decide +kernel
theorem d4_5 : decode jdk_42_method_149_code 5 = .ok (.ifCond .ne 22, 3) := by decide +kernel
theorem d4_8 : decode jdk_42_method_149_code 8 = .ok (.aload_n 0, 1) := by decide +kernel
theorem d4_9 : decode jdk_42_method_149_code 9 = .ok (.ldc 7, 2) := by decide +kernel
theorem d4_11 : decode jdk_42_method_149_code 11 = .ok (.getfield 9, 3) := by decide +kernel
theorem d4_14 : decode jdk_42_method_149_code 14 = .ok (.putfield 9, 3) := by decide +kernel
theorem d4_17 : decode jdk_42_method_149_code 17 = .ok (.aload_n 0, 1) := by decide +kernel
theorem d4_18 : decode jdk_42_method_149_code 18 = .ok (.ldc 7, 2) := by decide +kernel
theorem d4_20 : decode jdk_42_method_149_code 20 = .ok (.getfield 15, 3) := by decide +kernel
theorem d4_23 : decode jdk_42_method_149_code 23 = .ok (.putfield 15, 3) := by decide +kernel
theorem d4_26 : decode jdk_42_method_149_code 26 = .ok (.return_, 1) := by decide +kernel
theorem ef_sn4 (m : MethodId) (x0 : Addr) (x1 : Addr) (x2 : Int32) (x3 : Int32) : entryFrame m #[(.ref x0), (.ref x1), (.int x2), (.int x3), .null] 6 = mkF m 0 #[.val (.ref x0), .val (.ref x1), .val (.int x2), .val (.int x3), .val .null, .unset] [] := by first | (simp [entryFrame, mkF, argsToLocals, Value.category]; done) | rfl
def Q_sn4 (Z : State) (zC : Int32) (x : Addr) (b : Addr) (h0 : Heap) (n0 : Nat) (v : Option Value) (h : Heap) (L : List Loc) : Prop := ∃ (t : Addr), v = none ∧ Fr n0 L ∧ Keep h0 h [x] ∧ Str Z h x t ([] : List Int32)
set_option maxRecDepth 65536 in
set_option maxHeartbeats 40000000 in
theorem rm_sn4 (l : Launch) (Z : State) (a0 : Array Value) (hw : ∀ d ∈ tables_1, d.before a0 Z = true) (ws : List Jvm.Cond) (zC : Int32) (hG : Glob Z zC) (x : Addr) (b : Addr) (h0 : Heap) (n0 : Nat) (Z0 : n0 ≤ h0.size) (O0 : Old Z n0 h0) (P0 : Exa Z h0 x "java/lang/String") (P1 : Fld Z h0 x "java/lang/String" "value" "[B" .null) (P2 : Fld Z h0 x "java/lang/String" "coder" "B" (.int (0 : Int32))) (gx : n0 ≤ x) :
    MetFree l (⟨"java/lang/String", "<init>", "([CIILjava/lang/Void;)V"⟩ : MethodName) (head1 (Jvm.Cond.code (⟨"java/lang/String", "<init>", "([CIILjava/lang/Void;)V"⟩ : MethodName) jdk_42_method_149_code 6 none :: ws) ({ frames := 1, cells := 4, slots := 8, locals := 12 } : Room)) (fun a U => a = #[(.ref x), (.ref b), (.int (0 : Int32)), (.int (0 : Int32)), .null] ∧ Z.Warmed39 U.vm ∧ U.heap = h0 ∧ CHv Z consts_1 U.vm h0) (fun _ _ _ _ _ => True) (fun _ U o U' => ∃ v L, o = .returned v ∧ Q_sn4 Z zC x b h0 n0 v U'.heap L ∧ CHr Z consts_1 U.vm U.heap U'.vm U'.heap ∧ ReturnedEndW U o U' L ({ frames := 1, cells := 4, slots := 8, locals := 12 } : Room).cells ({ frames := 1, cells := 4, slots := 8, locals := 12 } : Room).slots) := by
  refine MetFree.of_bodySF (plainFor_of_name pn_0) hisR ?_
  intro p e s m args below meth c s₁ Bd hml0 hP hK
  obtain ⟨rfl, hZ, hh, C0⟩ := hP
  have hx := Bd.exec
  have hby := Bd.bytes
  have hml : c.maxLocals = 6 := hml0
  have hown : s.vm.findClass "java/lang/String" = some m.cls := findClass_of_methodNamed Bd.named
  have hnm := (name_of_methodNamed Bd.named Bd.method).1
  have hlk : meth.locks = false := BodyLoose.notSynchronized Bd
  have X0 : Stand p l e ({ frames := 1, cells := 4, slots := 8, locals := 12 } : Room) (s.setVm s.vm) m #[(.ref x), (.ref b), (.int (0 : Int32)), (.int (0 : Int32)), .null] below meth c s₁ [] 0 0 := Stand.of_body Bd
  have e0 : s₁.heap = h0 := by rw [← hh, Bd.state]; rfl
  have N0 := Fr.nil n0
  obtain ⟨G0, own_cs⟩ := id hG
  have hS : s.Since s.vm 0 := (State.WarmedH.refl s).since 0
  have hk : 0 ≤ h0.size := Nat.zero_le _
  have R0 : CHr Z consts_1 s.vm h0 s.vm h0 := CHr.refl C0
  show Go p e below (EndC Z consts_1 s (Q_sn4 Z zC x b h0 n0) ({ frames := 1, cells := 4, slots := 8, locals := 12 } : Room).cells ({ frames := 1, cells := 4, slots := 8, locals := 12 } : Room).slots) (s₁.setTop (entryFrame m #[(.ref x), (.ref b), (.int (0 : Int32)), (.int (0 : Int32)), .null] 6))
  rw [ef_sn4]
  generalize hP : EndC Z consts_1 s (Q_sn4 Z zC x b h0 n0) ({ frames := 1, cells := 4, slots := 8, locals := 12 } : Room).cells ({ frames := 1, cells := 4, slots := 8, locals := 12 } : Room).slots = P
  have Sf0_x := own_blank (EL := consts_1) hZ.alike P0 P1
  show Go p e below P (s₁.setTop (mkF m 0 #[.val (.ref x), .val (.ref b), .val (.int (0 : Int32)), .val (.int (0 : Int32)), .val .null, .unset] []))
  refine Go.by (fun _ => XS.aloadN X0.here hx rfl (hb hby d4_0) rfl rfl) ?_
  show Go p e below P (s₁.setTop (mkF m 1 #[.val (.ref x), .val (.ref b), .val (.int (0 : Int32)), .val (.int (0 : Int32)), .val .null, .unset] [(.ref x)]))
  obtain ⟨T1, X1, e1, st1⟩ := initO X0 hx hZ hown (hw _ (List.mem_of_getElem? (i := 18) rfl)) (hw _ (List.mem_of_getElem? (i := 19) rfl)) (hw _ (List.mem_of_getElem? (i := 20) rfl)) e0 (g := (mkF m 1 #[.val (.ref x), .val (.ref b), .val (.int (0 : Int32)), .val (.int (0 : Int32)), .val .null, .unset] [(.ref x)])) rfl (by rw [hml]; rfl) rfl (hb hby d4_1) (Nat.le_of_ble_eq_true rfl) (W := 0) (by show 2 * 0 + _ ≤ _; exact Nat.le_of_eq rfl) (Nat.le_of_ble_eq_true rfl)
  refine Go.by (fun _ => st1 _) ?_
  show Go p e below P (T1.setTop (mkF m 4 #[.val (.ref x), .val (.ref b), .val (.int (0 : Int32)), .val (.int (0 : Int32)), .val .null, .unset] []))
  refine Go.by (fun _ => XS.iloadN X1.here hx rfl (hb hby d4_4) rfl) ?_
  show Go p e below P (T1.setTop (mkF m 5 #[.val (.ref x), .val (.ref b), .val (.int (0 : Int32)), .val (.int (0 : Int32)), .val .null, .unset] [(.int (0 : Int32))]))
  have hc5 : (0 : Int32) = (0 : Int32) := by decide
  refine Go.by (fun _ => XS.ifNo X1.here hx rfl (hb hby d4_5) rfl ((if0 _ _).trans (teq hc5).2)) ?_
  show Go p e below P (T1.setTop (mkF m 8 #[.val (.ref x), .val (.ref b), .val (.int (0 : Int32)), .val (.int (0 : Int32)), .val .null, .unset] []))
  refine Go.by (fun _ => XS.aloadN X1.here hx rfl (hb hby d4_8) rfl rfl) ?_
  show Go p e below P (T1.setTop (mkF m 9 #[.val (.ref x), .val (.ref b), .val (.int (0 : Int32)), .val (.int (0 : Int32)), .val .null, .unset] [(.ref x)]))
  have hZo := hZ
  obtain ⟨ls2, T2, h2, k2, lb2, kk2, X2, e2, E2, hS, hk, hZ, hown, FE2, FC2, FV2, FA2, -, -, Cr2, Li2, Sn2, st2⟩ := ldcCH X1 hx hZ hown (hw _ (List.mem_of_getElem? (i := 21) rfl)) (own_wS hw) e1 hS hk (own_EW hw) (List.mem_of_getElem? (i := 6) rfl) C0 (vs := []) (z := (0 : Int32)) ⟨by decide, rfl⟩ (by decide) rfl (g := (mkF m 9 #[.val (.ref x), .val (.ref b), .val (.int (0 : Int32)), .val (.int (0 : Int32)), .val .null, .unset] [(.ref x)])) rfl (hb hby d4_9) (n := 0) (Nat.le_of_ble_eq_true rfl) (Nat.le_of_ble_eq_true rfl) (Nat.le_of_ble_eq_true rfl) (Nat.le_of_ble_eq_true rfl)
  refine Go.by (fun _ => st2 _) ?_
  have Sf2_x := Cr2.safe P0.lt Sf0_x
  have R2 := R0.trans Cr2
  have C2 := Cr2.1
  have ne_x_ls2 := (Sn2 _ Sf2_x).1
  have ne_x_lb2 := (Sn2 _ Sf2_x).2
  have F3 : Exa Z h2 x "java/lang/String" := P0.ext E2
  have F4 : Fld Z h2 x "java/lang/String" "value" "[B" .null := P1.ext E2
  have F5 : Fld Z h2 x "java/lang/String" "coder" "B" (.int (0 : Int32)) := P2.ext E2
  have O2 := O0.ext E2
  have Z2 : n0 ≤ h2.size := Nat.le_trans Z0 E2.1
  have K2 : Keep h0 h2 [x] := (Keep.refl h0 [x]).ext E2
  have F6 : Str Z h2 ls2 lb2 ([] : List Int32) := Str.mk FE2 FV2 FC2 FA2 (Or.inl ⟨rfl, rfl, rfl, by decide⟩) (by decide) (Nat.le_of_ble_eq_true rfl)
  show Go p e below P (T2.setTop (mkF m 11 #[.val (.ref x), .val (.ref b), .val (.int (0 : Int32)), .val (.int (0 : Int32)), .val .null, .unset] [(.ref ls2), (.ref x)]))
  obtain ⟨kb7, N7_, vs7, FE7, FV7, FC7, FA7, hcd7, hbd7, hl7⟩ := id F6
  obtain ⟨T8, X8, e8, st8⟩ := getF X2 hx hZ hown (host := "") (Or.inl (hw _ (List.mem_of_getElem? (i := 27) rfl))) Via.refl e2 FV7 (g := (mkF m 11 #[.val (.ref x), .val (.ref b), .val (.int (0 : Int32)), .val (.int (0 : Int32)), .val .null, .unset] [(.ref ls2), (.ref x)])) rfl rfl (hb hby d4_11)
  refine Go.by (fun _ => st8 _) ?_
  show Go p e below P (T8.setTop (mkF m 14 #[.val (.ref x), .val (.ref b), .val (.int (0 : Int32)), .val (.int (0 : Int32)), .val .null, .unset] [(.ref lb2), (.ref x)]))
  obtain ⟨T9, h9, X9, e9, W9, st9⟩ := putF X8 hx hZ hown (host := "") (Or.inl (hw _ (List.mem_of_getElem? (i := 27) rfl))) Via.refl e8 F4 F3 (Or.inr ⟨(hw _ (List.mem_of_getElem? (i := 23) rfl)), rfl, hnm⟩) (hw _ (List.mem_of_getElem? (i := 8) rfl)) (ty := (.array .byte)) (by decide) rfl rfl (g := (mkF m 14 #[.val (.ref x), .val (.ref b), .val (.int (0 : Int32)), .val (.int (0 : Int32)), .val .null, .unset] [(.ref lb2), (.ref x)])) rfl rfl (hb hby d4_14)
  refine Go.by (fun _ => st9 _) ?_
  have F10 : Exa Z h9 x "java/lang/String" := F3.wr W9
  have F11 : Fld Z h9 x "java/lang/String" "coder" "B" (.int (0 : Int32)) := F5.other W9 (Or.inr (slot_ne (Or.inr (hw _ (List.mem_of_getElem? (i := 24) rfl))) (Or.inr (hw _ (List.mem_of_getElem? (i := 23) rfl))) (by decide) (t := .byte) (t' := (.array .byte)) (by decide) (by decide)))
  have F12 : Str Z h9 ls2 lb2 ([] : List Int32) := F6.wr W9 (Ne.symm ne_x_ls2) (Ne.symm ne_x_lb2)
  have F13 : Exa Z h9 ls2 "java/lang/String" := FE7.wr W9
  have F14 : Fld Z h9 ls2 "java/lang/String" "value" "[B" (.ref lb2) := FV7.other W9 (Or.inl (Ne.symm ne_x_ls2))
  have F15 : Fld Z h9 ls2 "java/lang/String" "coder" "B" (.int (0 : Int32)) := FC7.other W9 (Or.inl (Ne.symm ne_x_ls2))
  have F16 : Arv Z h9 lb2 kb7 .byte N7_ vs7 (.int (0 : Int32)) := FA7.other W9 (Ne.symm ne_x_lb2)
  have Sw9 := Sf2_x
  have Sf9_x := Safe.wr W9 Sw9 C2 Sf2_x
  have R9 := R2.trans (CHr.wr W9 Sw9 C2)
  have C9 := CHv.wr W9 Sw9 C2
  have hk := Nat.le_trans hk (Keep.of_wr W9).1
  have O9 := O2.wr W9 gx
  have Z9 : n0 ≤ h9.size := Nat.le_trans Z2 (Keep.of_wr W9).1
  have K9 : Keep h0 h9 [x] := K2.wr W9 (Or.inl (List.mem_of_getElem? (i := 0) rfl))
  have F17 : Fld Z h9 x "java/lang/String" "value" "[B" (.ref lb2) := F4.same W9
  have N9 := Fr.snoc X9 N0 gx
  show Go p e below P (T9.setTop (mkF m 17 #[.val (.ref x), .val (.ref b), .val (.int (0 : Int32)), .val (.int (0 : Int32)), .val .null, .unset] []))
  refine Go.by (fun _ => XS.aloadN X9.here hx rfl (hb hby d4_17) rfl rfl) ?_
  show Go p e below P (T9.setTop (mkF m 18 #[.val (.ref x), .val (.ref b), .val (.int (0 : Int32)), .val (.int (0 : Int32)), .val .null, .unset] [(.ref x)]))
  have hZo := hZ
  obtain ⟨ls18, T18, h18, k18, lb18, kk18, X18, e18, E18, hS, hk, hZ, hown, FE18, FC18, FV18, FA18, -, -, Cr18, Li18, Sn18, st18⟩ := ldcCH X9 hx hZ hown (hw _ (List.mem_of_getElem? (i := 21) rfl)) (own_wS hw) e9 hS hk (own_EW hw) (List.mem_of_getElem? (i := 6) rfl) C9 (vs := []) (z := (0 : Int32)) ⟨by decide, rfl⟩ (by decide) rfl (g := (mkF m 18 #[.val (.ref x), .val (.ref b), .val (.int (0 : Int32)), .val (.int (0 : Int32)), .val .null, .unset] [(.ref x)])) rfl (hb hby d4_18) (n := 0) (Nat.le_of_ble_eq_true rfl) (Nat.le_of_ble_eq_true rfl) (Nat.le_of_ble_eq_true rfl) (Nat.le_of_ble_eq_true rfl)
  refine Go.by (fun _ => st18 _) ?_
  have Sf18_x := Cr18.safe F10.lt Sf9_x
  have R18 := R9.trans Cr18
  have C18 := Cr18.1
  have ne_x_ls18 := (Sn18 _ Sf18_x).1
  have ne_x_lb18 := (Sn18 _ Sf18_x).2
  have F19 : Exa Z h18 x "java/lang/String" := F10.ext E18
  have F20 : Fld Z h18 x "java/lang/String" "coder" "B" (.int (0 : Int32)) := F11.ext E18
  have F21 : Str Z h18 ls2 lb2 ([] : List Int32) := F12.ext E18
  have F22 : Exa Z h18 ls2 "java/lang/String" := F13.ext E18
  have F23 : Fld Z h18 ls2 "java/lang/String" "value" "[B" (.ref lb2) := F14.ext E18
  have F24 : Fld Z h18 ls2 "java/lang/String" "coder" "B" (.int (0 : Int32)) := F15.ext E18
  have F25 : Arv Z h18 lb2 kb7 .byte N7_ vs7 (.int (0 : Int32)) := F16.ext E18
  have F26 : Fld Z h18 x "java/lang/String" "value" "[B" (.ref lb2) := F17.ext E18
  have O18 := O9.ext E18
  have Z18 : n0 ≤ h18.size := Nat.le_trans Z9 E18.1
  have K18 : Keep h0 h18 [x] := K9.ext E18
  have F27 : Str Z h18 ls18 lb18 ([] : List Int32) := Str.mk FE18 FV18 FC18 FA18 (Or.inl ⟨rfl, rfl, rfl, by decide⟩) (by decide) (Nat.le_of_ble_eq_true rfl)
  show Go p e below P (T18.setTop (mkF m 20 #[.val (.ref x), .val (.ref b), .val (.int (0 : Int32)), .val (.int (0 : Int32)), .val .null, .unset] [(.ref ls18), (.ref x)]))
  obtain ⟨kb28, N28_, vs28, FE28, FV28, FC28, FA28, hcd28, hbd28, hl28⟩ := id F27
  obtain ⟨T29, X29, e29, st29⟩ := getF X18 hx hZ hown (host := "") (Or.inl (hw _ (List.mem_of_getElem? (i := 28) rfl))) Via.refl e18 FC28 (g := (mkF m 20 #[.val (.ref x), .val (.ref b), .val (.int (0 : Int32)), .val (.int (0 : Int32)), .val .null, .unset] [(.ref ls18), (.ref x)])) rfl rfl (hb hby d4_20)
  refine Go.by (fun _ => st29 _) ?_
  show Go p e below P (T29.setTop (mkF m 23 #[.val (.ref x), .val (.ref b), .val (.int (0 : Int32)), .val (.int (0 : Int32)), .val .null, .unset] [(.int (0 : Int32)), (.ref x)]))
  obtain ⟨T30, h30, X30, e30, W30, st30⟩ := putFN X29 hx hZ hown (hw _ (List.mem_of_getElem? (i := 28) rfl)) Via.refl e29 F20 F19 (Or.inr ⟨(hw _ (List.mem_of_getElem? (i := 24) rfl)), rfl, hnm⟩) (hw _ (List.mem_of_getElem? (i := 8) rfl)) (ty := .byte) (v' := .int (0 : Int32)) (by decide) rfl (by decide) (g := (mkF m 23 #[.val (.ref x), .val (.ref b), .val (.int (0 : Int32)), .val (.int (0 : Int32)), .val .null, .unset] [(.int (0 : Int32)), (.ref x)])) rfl rfl (hb hby d4_23)
  refine Go.by (fun _ => st30 _) ?_
  have F31 : Exa Z h30 x "java/lang/String" := F19.wr W30
  have F32 : Str Z h30 ls2 lb2 ([] : List Int32) := F21.wr W30 (Ne.symm ne_x_ls2) (Ne.symm ne_x_lb2)
  have F33 : Exa Z h30 ls2 "java/lang/String" := F22.wr W30
  have F34 : Fld Z h30 ls2 "java/lang/String" "value" "[B" (.ref lb2) := F23.other W30 (Or.inl (Ne.symm ne_x_ls2))
  have F35 : Fld Z h30 ls2 "java/lang/String" "coder" "B" (.int (0 : Int32)) := F24.other W30 (Or.inl (Ne.symm ne_x_ls2))
  have F36 : Arv Z h30 lb2 kb7 .byte N7_ vs7 (.int (0 : Int32)) := F25.other W30 (Ne.symm ne_x_lb2)
  have F37 : Fld Z h30 x "java/lang/String" "value" "[B" (.ref lb2) := F26.other W30 (Or.inr (slot_ne (Or.inr (hw _ (List.mem_of_getElem? (i := 23) rfl))) (Or.inr (hw _ (List.mem_of_getElem? (i := 24) rfl))) (by decide) (t := (.array .byte)) (t' := .byte) (by decide) (by decide)))
  have F38 : Str Z h30 ls18 lb18 ([] : List Int32) := F27.wr W30 (Ne.symm ne_x_ls18) (Ne.symm ne_x_lb18)
  have F39 : Exa Z h30 ls18 "java/lang/String" := FE28.wr W30
  have F40 : Fld Z h30 ls18 "java/lang/String" "value" "[B" (.ref lb18) := FV28.other W30 (Or.inl (Ne.symm ne_x_ls18))
  have F41 : Fld Z h30 ls18 "java/lang/String" "coder" "B" (.int (0 : Int32)) := FC28.other W30 (Or.inl (Ne.symm ne_x_ls18))
  have F42 : Arv Z h30 lb18 kb28 .byte N28_ vs28 (.int (0 : Int32)) := FA28.other W30 (Ne.symm ne_x_lb18)
  have Sw30 := Sf18_x
  have Sf30_x := Safe.wr W30 Sw30 C18 Sf18_x
  have R30 := R18.trans (CHr.wr W30 Sw30 C18)
  have C30 := CHv.wr W30 Sw30 C18
  have hk := Nat.le_trans hk (Keep.of_wr W30).1
  have O30 := O18.wr W30 gx
  have Z30 : n0 ≤ h30.size := Nat.le_trans Z18 (Keep.of_wr W30).1
  have K30 : Keep h0 h30 [x] := K18.wr W30 (Or.inl (List.mem_of_getElem? (i := 0) rfl))
  have F43 : Fld Z h30 x "java/lang/String" "coder" "B" (.int (0 : Int32)) := F20.same W30
  have N30 := Fr.snoc X30 N9 gx
  show Go p e below P (T30.setTop (mkF m 26 #[.val (.ref x), .val (.ref b), .val (.int (0 : Int32)), .val (.int (0 : Int32)), .val .null, .unset] []))
  have F44 : Str Z h30 x lb2 ([] : List Int32) := Str.mk F31 F37 F43 F36 hcd7 hbd7 hl7
  subst hP
  refine Go.retVC X30 hx hS (by rw [e30]; exact hk) Bd.returns hlk (hb hby d4_26) (Nat.le_of_ble_eq_true rfl) (Nat.le_of_ble_eq_true rfl) ?_ (by rw [hh, e30]; exact R30.trans (CHv.at X30 hZ (own_EW hw) C30))
  rw [e30]
  exact ⟨lb2, rfl, N30, K30, F44⟩
theorem d3_0 : decode jdk_42_method_3_code 0 = .ok (.aload_n 0, 1) := by decide +kernel
theorem d3_1 : decode jdk_42_method_3_code 1 = .ok (.aload_n 1, 1) := by decide +kernel
theorem d3_2 : decode jdk_42_method_3_code 2 = .ok (.iconst 0, 1) := by decide +kernel
theorem d3_3 : decode jdk_42_method_3_code 3 = .ok (.aload_n 1, 1) := by decide +kernel
theorem d3_4 : decode jdk_42_method_3_code 4 = .ok (.arraylength, 1) := by decide +kernel
theorem d3_5 : decode jdk_42_method_3_code 5 = .ok (.aconst_null, 1) := by decide +kernel
theorem d3_6 : decode jdk_42_method_3_code 6 = .ok (.invokespecial 27, 3) := by decide +kernel
theorem d3_9 : decode jdk_42_method_3_code 9 = .ok (.return_, 1) := by decide +kernel
theorem ef_sn1 (m : MethodId) (x0 : Addr) (x1 : Addr) : entryFrame m #[(.ref x0), (.ref x1)] 2 = mkF m 0 #[.val (.ref x0), .val (.ref x1)] [] := by first | (simp [entryFrame, mkF, argsToLocals, Value.category]; done) | rfl
def Q_sn1 (Z : State) (zC : Int32) (x : Addr) (b : Addr) (kC : ClassId) (h0 : Heap) (n0 : Nat) (v : Option Value) (h : Heap) (L : List Loc) : Prop := ∃ (t : Addr), v = none ∧ Fr n0 L ∧ Keep h0 h [x] ∧ Str Z h x t ([] : List Int32)
set_option maxRecDepth 65536 in
set_option maxHeartbeats 40000000 in
theorem rm_sn1 (l : Launch) (Z : State) (a0 : Array Value) (hw : ∀ d ∈ tables_1, d.before a0 Z = true) (ws : List Jvm.Cond) (zC : Int32) (hG : Glob Z zC) (x : Addr) (b : Addr) (kC : ClassId) (h0 : Heap) (n0 : Nat) (Z0 : n0 ≤ h0.size) (O0 : Old Z n0 h0) (P0 : Exa Z h0 x "java/lang/String") (P1 : Fld Z h0 x "java/lang/String" "value" "[B" .null) (P2 : Fld Z h0 x "java/lang/String" "coder" "B" (.int (0 : Int32))) (P3 : Arv Z h0 b kC .char (0 : Int32) [] (.int (0 : Int32))) (gx : n0 ≤ x) (hxb : x ≠ b) :
    MetFree l (⟨"java/lang/String", "<init>", "([C)V"⟩ : MethodName) (head1 (Jvm.Cond.code (⟨"java/lang/String", "<init>", "([C)V"⟩ : MethodName) jdk_42_method_3_code 2 none :: ws) ({ frames := 2, cells := 4, slots := 8, locals := 29 } : Room)) (fun a U => a = #[(.ref x), (.ref b)] ∧ Z.Warmed39 U.vm ∧ U.heap = h0 ∧ CHv Z consts_1 U.vm h0) (fun _ _ _ _ _ => True) (fun _ U o U' => ∃ v L, o = .returned v ∧ Q_sn1 Z zC x b kC h0 n0 v U'.heap L ∧ CHr Z consts_1 U.vm U.heap U'.vm U'.heap ∧ ReturnedEndW U o U' L ({ frames := 2, cells := 4, slots := 8, locals := 29 } : Room).cells ({ frames := 2, cells := 4, slots := 8, locals := 29 } : Room).slots) := by
  refine MetFree.of_bodySF (plainFor_of_name pn_0) hisR ?_
  intro p e s m args below meth c s₁ Bd hml0 hP hK
  obtain ⟨rfl, hZ, hh, C0⟩ := hP
  have hx := Bd.exec
  have hby := Bd.bytes
  have hml : c.maxLocals = 2 := hml0
  have hown : s.vm.findClass "java/lang/String" = some m.cls := findClass_of_methodNamed Bd.named
  have hnm := (name_of_methodNamed Bd.named Bd.method).1
  have hlk : meth.locks = false := BodyLoose.notSynchronized Bd
  have X0 : Stand p l e ({ frames := 2, cells := 4, slots := 8, locals := 29 } : Room) (s.setVm s.vm) m #[(.ref x), (.ref b)] below meth c s₁ [] 0 0 := Stand.of_body Bd
  have e0 : s₁.heap = h0 := by rw [← hh, Bd.state]; rfl
  have N0 := Fr.nil n0
  obtain ⟨G0, own_cs⟩ := id hG
  have hS : s.Since s.vm 0 := (State.WarmedH.refl s).since 0
  have hk : 0 ≤ h0.size := Nat.zero_le _
  have R0 : CHr Z consts_1 s.vm h0 s.vm h0 := CHr.refl C0
  show Go p e below (EndC Z consts_1 s (Q_sn1 Z zC x b kC h0 n0) ({ frames := 2, cells := 4, slots := 8, locals := 29 } : Room).cells ({ frames := 2, cells := 4, slots := 8, locals := 29 } : Room).slots) (s₁.setTop (entryFrame m #[(.ref x), (.ref b)] 2))
  rw [ef_sn1]
  generalize hP : EndC Z consts_1 s (Q_sn1 Z zC x b kC h0 n0) ({ frames := 2, cells := 4, slots := 8, locals := 29 } : Room).cells ({ frames := 2, cells := 4, slots := 8, locals := 29 } : Room).slots = P
  show Go p e below P (s₁.setTop (mkF m 0 #[.val (.ref x), .val (.ref b)] []))
  refine Go.by (fun _ => XS.aloadN X0.here hx rfl (hb hby d3_0) rfl rfl) ?_
  show Go p e below P (s₁.setTop (mkF m 1 #[.val (.ref x), .val (.ref b)] [(.ref x)]))
  refine Go.by (fun _ => XS.aloadN X0.here hx rfl (hb hby d3_1) rfl rfl) ?_
  show Go p e below P (s₁.setTop (mkF m 2 #[.val (.ref x), .val (.ref b)] [(.ref b), (.ref x)]))
  refine Go.by (fun _ => XS.iconst X0.here hx rfl (hb hby d3_2)) ?_
  show Go p e below P (s₁.setTop (mkF m 3 #[.val (.ref x), .val (.ref b)] [(.int (0 : Int32)), (.ref b), (.ref x)]))
  refine Go.by (fun _ => XS.aloadN X0.here hx rfl (hb hby d3_3) rfl rfl) ?_
  show Go p e below P (s₁.setTop (mkF m 4 #[.val (.ref x), .val (.ref b)] [(.ref b), (.int (0 : Int32)), (.ref b), (.ref x)]))
  obtain ⟨cl1, Ar1, -, Sz1, Ng1, -, -⟩ := id (P3)
  refine Go.by (fun _ => X0.arraylength hx (by rw [e0]; exact Ar1.1) (State.isArrayOf_alike hZ.alike Ar1.2.1) (g := (mkF m 4 #[.val (.ref x), .val (.ref b)] [(.ref b), (.int (0 : Int32)), (.ref b), (.ref x)])) rfl rfl (hb hby d3_4) _) ?_
  rw [len_of Sz1 Ng1]
  show Go p e below P (s₁.setTop (mkF m 5 #[.val (.ref x), .val (.ref b)] [(.int (0 : Int32)), (.int (0 : Int32)), (.ref b), (.ref x)]))
  refine Go.by (fun _ => XS.aconstNull X0.here hx rfl (hb hby d3_5)) ?_
  show Go p e below P (s₁.setTop (mkF m 6 #[.val (.ref x), .val (.ref b)] [.null, (.int (0 : Int32)), (.int (0 : Int32)), (.ref b), (.ref x)]))
  obtain ⟨_, _, ⟨T2, L2, k2, n2⟩, -, X2, hSc2, hgr2, ⟨Lc2, hQ2, l2, y2, z2, Cr2⟩, st2⟩ := X0.specialBackS hx (y := (⟨"java/lang/String", "<init>", "([CIILjava/lang/Void;)V"⟩ : MethodName)) rfl hown (mvT hZ (hw _ (List.mem_of_getElem? (i := 14) rfl))) (mvT hZ (hw _ (List.mem_of_getElem? (i := 15) rfl))) (mvT hZ (hw _ (List.mem_of_getElem? (i := 17) rfl))) (by decide) (backOfSH (W := 0) (rm_sn4 l Z a0 hw [] zC hG x b h0 n0 Z0 O0 P0 P1 P2 gx) hZ (hw _ (List.mem_of_getElem? (i := 17) rfl)) (hw _ (List.mem_of_getElem? (i := 9) rfl)) (Nat.le_of_ble_eq_true rfl) (Nat.le_of_ble_eq_true rfl) (own_EW hw) C0) (g := (mkF m 6 #[.val (.ref x), .val (.ref b)] [.null, (.int (0 : Int32)), (.int (0 : Int32)), (.ref b), (.ref x)])) rfl (by rw [hml]; rfl) (Steps.refl _) (a := x) (argsL := [(.ref b), (.int (0 : Int32)), (.int (0 : Int32)), .null]) (rest := []) (lenOf pd_0 rfl) rfl (by show 2 * 0 + _ ≤ _; exact Nat.le_of_eq rfl) (hb hby d3_6) (fun _ _ => ⟨rfl, e0, (Nat.le_of_ble_eq_true rfl : 0 + 4 ≤ _), (Nat.le_of_ble_eq_true rfl : 0 + 8 ≤ _)⟩)
  dsimp only [Pt.U, Pt.locs, Pt.cells, Pt.slots] at X2 l2 y2 z2 st2 hQ2 hSc2 hgr2 Cr2
  subst l2 y2 z2
  have hZo := hZ
  obtain ⟨X2, hS, hZ, hown⟩ := rebS hS (by rw [e0]; exact hk) X2 hSc2 hgr2 hZ hown
  have hk : T2.heap.size ≤ T2.heap.size := Nat.le_refl _
  have Sf2_x := Cr2.safe P0.lt (own_blank (EL := consts_1) hZo.alike P0 P1)
  have R2 := R0.trans Cr2
  have C2 := Cr2.1
  obtain ⟨t_2, rfl, Nq2, Kc2, F3⟩ := hQ2
  have N2 := Fr.app N0 Nq2
  refine Go.by (fun _ k => st2.trans k) ?_
  have F4 : Exa Z T2.heap x "java/lang/String" := P0.keep Kc2
  have F5 : Arv Z T2.heap b kC .char (0 : Int32) [] (.int (0 : Int32)) := P3.keep Kc2 (ninS (Ne.symm hxb) nin0)
  have O2 := O0.keep Kc2 (allS gx all0)
  have Z2 : n0 ≤ T2.heap.size := Nat.le_trans Z0 Kc2.1
  have K2 : Keep h0 T2.heap [x] := (Keep.refl h0 [x]).trans Kc2 (allS (P := fun zz => zz ∈ [x] ∨ h0.size ≤ zz) (Or.inl (List.mem_of_getElem? (i := 0) rfl)) all0)
  show Go p e below P (T2.setTop (mkF m 9 #[.val (.ref x), .val (.ref b)] []))
  subst hP
  refine Go.retVC X2 hx hS hk Bd.returns hlk (hb hby d3_9) (Nat.le_of_ble_eq_true rfl) (Nat.le_of_ble_eq_true rfl) ?_ (by rw [hh]; exact R2.trans (CHv.at X2 hZ (own_EW hw) C2))
  exact ⟨t_2, rfl, N2, K2, F3⟩
theorem d2_0 : decode method_3_code 0 = .ok (.iload_n 0, 1) := by decide +kernel
theorem d2_1 : decode method_3_code 1 = .ok (.ifCond .ne 14, 3) := by decide +kernel
theorem d2_4 : decode method_3_code 4 = .ok (.new 7, 3) := by decide +kernel
theorem d2_7 : decode method_3_code 7 = .ok (.dup, 1) := by decide +kernel
theorem d2_8 : decode method_3_code 8 = .ok (.iconst 0, 1) := by decide +kernel
theorem d2_9 : decode method_3_code 9 = .ok (.newarray .char, 2) := by decide +kernel
theorem d2_11 : decode method_3_code 11 = .ok (.invokespecial 9, 3) := by decide +kernel
theorem d2_14 : decode method_3_code 14 = .ok (.areturn, 1) := by decide +kernel
theorem d2_15 : decode method_3_code 15 = .ok (.iload_n 0, 1) := by decide +kernel
theorem d2_16 : decode method_3_code 16 = .ok (.iconst 1, 1) := by decide +kernel
theorem d2_17 : decode method_3_code 17 = .ok (.if_icmp .ne 21, 3) := by decide +kernel
theorem d2_20 : decode method_3_code 20 = .ok (.iconst 1, 1) := by decide +kernel
theorem d2_21 : decode method_3_code 21 = .ok (.newarray .char, 2) := by decide +kernel
theorem d2_23 : decode method_3_code 23 = .ok (.astore_n 3, 1) := by decide +kernel
theorem d2_24 : decode method_3_code 24 = .ok (.aload_n 3, 1) := by decide +kernel
theorem d2_25 : decode method_3_code 25 = .ok (.iconst 0, 1) := by decide +kernel
theorem d2_26 : decode method_3_code 26 = .ok (.iload_n 1, 1) := by decide +kernel
theorem d2_27 : decode method_3_code 27 = .ok (.i2c, 1) := by decide +kernel
theorem d2_28 : decode method_3_code 28 = .ok (.castore, 1) := by decide +kernel
theorem d2_29 : decode method_3_code 29 = .ok (.new 7, 3) := by decide +kernel
theorem d2_32 : decode method_3_code 32 = .ok (.dup, 1) := by decide +kernel
theorem d2_33 : decode method_3_code 33 = .ok (.aload_n 3, 1) := by decide +kernel
theorem d2_34 : decode method_3_code 34 = .ok (.invokespecial 9, 3) := by decide +kernel
theorem d2_37 : decode method_3_code 37 = .ok (.areturn, 1) := by decide +kernel
theorem d2_38 : decode method_3_code 38 = .ok (.iconst 2, 1) := by decide +kernel
theorem d2_39 : decode method_3_code 39 = .ok (.newarray .char, 2) := by decide +kernel
theorem d2_41 : decode method_3_code 41 = .ok (.astore_n 3, 1) := by decide +kernel
theorem d2_42 : decode method_3_code 42 = .ok (.aload_n 3, 1) := by decide +kernel
theorem d2_43 : decode method_3_code 43 = .ok (.iconst 0, 1) := by decide +kernel
theorem d2_44 : decode method_3_code 44 = .ok (.iload_n 1, 1) := by decide +kernel
theorem d2_45 : decode method_3_code 45 = .ok (.i2c, 1) := by decide +kernel
theorem d2_46 : decode method_3_code 46 = .ok (.castore, 1) := by decide +kernel
theorem d2_47 : decode method_3_code 47 = .ok (.aload_n 3, 1) := by decide +kernel
theorem d2_48 : decode method_3_code 48 = .ok (.iconst 1, 1) := by decide +kernel
theorem d2_49 : decode method_3_code 49 = .ok (.iload_n 2, 1) := by decide +kernel
theorem d2_50 : decode method_3_code 50 = .ok (.i2c, 1) := by decide +kernel
theorem d2_51 : decode method_3_code 51 = .ok (.castore, 1) := by decide +kernel
theorem d2_52 : decode method_3_code 52 = .ok (.new 7, 3) := by decide +kernel
theorem d2_55 : decode method_3_code 55 = .ok (.dup, 1) := by decide +kernel
theorem d2_56 : decode method_3_code 56 = .ok (.aload_n 3, 1) := by decide +kernel
theorem d2_57 : decode method_3_code 57 = .ok (.invokespecial 9, 3) := by decide +kernel
theorem d2_60 : decode method_3_code 60 = .ok (.areturn, 1) := by decide +kernel
theorem ef_str (m : MethodId) (x0 : Int32) (x1 : Int32) (x2 : Int32) : entryFrame m #[(.int x0), (.int x1), (.int x2)] 4 = mkF m 0 #[.val (.int x0), .val (.int x1), .val (.int x2), .unset] [] := by first | (simp [entryFrame, mkF, argsToLocals, Value.category]; done) | rfl
def Q_str (Z : State) (zC : Int32) (p0 : Int32) (p1 : Int32) (p2 : Int32) (h0 : Heap) (n0 : Nat) (v : Option Value) (h : Heap) (L : List Loc) : Prop := ∃ (r : Addr), ∃ (t : Addr), v = some (.ref r) ∧ Fr n0 L ∧ Keep h0 h [] ∧ Str Z h r t (mkL p0 p1 p2)
set_option maxRecDepth 65536 in
set_option maxHeartbeats 40000000 in
theorem rm_str (l : Launch) (Z : State) (a0 : Array Value) (hw : ∀ d ∈ tables_1, d.before a0 Z = true) (ws : List Jvm.Cond) (zC : Int32) (hG : Glob Z zC) (p0 : Int32) (p1 : Int32) (p2 : Int32) (h0 : Heap) (n0 : Nat) (Z0 : n0 ≤ h0.size) (O0 : Old Z n0 h0) (h1 : ¬ p1 < 0 ∧ ¬ (255 : Int32) < p1) (h2 : ¬ p2 < 0 ∧ ¬ (255 : Int32) < p2) :
    MetFree l (⟨"com/example/gather_solvers/gathersolvers/model/SolverFunctionMatchesPinLaw", "str", "(III)Ljava/lang/String;"⟩ : MethodName) (head1 (Jvm.Cond.code (⟨"com/example/gather_solvers/gathersolvers/model/SolverFunctionMatchesPinLaw", "str", "(III)Ljava/lang/String;"⟩ : MethodName) method_3_code 4 (some (.object "java/lang/String")) :: ws) ({ frames := 4, cells := 6, slots := 12, locals := 66 } : Room)) (fun a U => a = #[(.int p0), (.int p1), (.int p2)] ∧ Z.Warmed39 U.vm ∧ U.heap = h0 ∧ CHv Z consts_1 U.vm h0) (fun _ _ _ _ _ => True) (fun _ U o U' => ∃ v L, o = .returned v ∧ Q_str Z zC p0 p1 p2 h0 n0 v U'.heap L ∧ CHr Z consts_1 U.vm U.heap U'.vm U'.heap ∧ ReturnedEndW U o U' L ({ frames := 4, cells := 6, slots := 12, locals := 66 } : Room).cells ({ frames := 4, cells := 6, slots := 12, locals := 66 } : Room).slots) := by
  refine MetFree.of_bodySF (plainFor_of_name pn_1) hisR ?_
  intro p e s m args below meth c s₁ Bd hml0 hP hK
  obtain ⟨rfl, hZ, hh, C0⟩ := hP
  have hx := Bd.exec
  have hby := Bd.bytes
  have hml : c.maxLocals = 4 := hml0
  have hown : s.vm.findClass "com/example/gather_solvers/gathersolvers/model/SolverFunctionMatchesPinLaw" = some m.cls := findClass_of_methodNamed Bd.named
  have hnm := (name_of_methodNamed Bd.named Bd.method).1
  have hlk : meth.locks = false := BodyLoose.notSynchronized Bd
  have X0 : Stand p l e ({ frames := 4, cells := 6, slots := 12, locals := 66 } : Room) (s.setVm s.vm) m #[(.int p0), (.int p1), (.int p2)] below meth c s₁ [] 0 0 := Stand.of_body Bd
  have e0 : s₁.heap = h0 := by rw [← hh, Bd.state]; rfl
  have N0 := Fr.nil n0
  obtain ⟨G0, own_cs⟩ := id hG
  have hS : s.Since s.vm 0 := (State.WarmedH.refl s).since 0
  have hk : 0 ≤ h0.size := Nat.zero_le _
  have R0 : CHr Z consts_1 s.vm h0 s.vm h0 := CHr.refl C0
  show Go p e below (EndC Z consts_1 s (Q_str Z zC p0 p1 p2 h0 n0) ({ frames := 4, cells := 6, slots := 12, locals := 66 } : Room).cells ({ frames := 4, cells := 6, slots := 12, locals := 66 } : Room).slots) (s₁.setTop (entryFrame m #[(.int p0), (.int p1), (.int p2)] 4))
  rw [ef_str]
  generalize hP : EndC Z consts_1 s (Q_str Z zC p0 p1 p2 h0 n0) ({ frames := 4, cells := 6, slots := 12, locals := 66 } : Room).cells ({ frames := 4, cells := 6, slots := 12, locals := 66 } : Room).slots = P
  show Go p e below P (s₁.setTop (mkF m 0 #[.val (.int p0), .val (.int p1), .val (.int p2), .unset] []))
  refine Go.by (fun _ => XS.iloadN X0.here hx rfl (hb hby d2_0) rfl) ?_
  show Go p e below P (s₁.setTop (mkF m 1 #[.val (.int p0), .val (.int p1), .val (.int p2), .unset] [(.int p0)]))
  by_cases hc1 : p0 = (0 : Int32)
  · refine Go.by (fun _ => XS.ifNo X0.here hx rfl (hb hby d2_1) rfl ((if0 _ _).trans (teq hc1).2)) ?_
    show Go p e below P (s₁.setTop (mkF m 4 #[.val (.int p0), .val (.int p1), .val (.int p2), .unset] []))
    obtain ⟨T1, h1, X1, e1, E1, A1, D1, -, st1⟩ := newO X0 hx hZ hown (hw _ (List.mem_of_getElem? (i := 7) rfl)) (hw _ (List.mem_of_getElem? (i := 8) rfl)) (hw _ (List.mem_of_getElem? (i := 9) rfl)) e0 (g := (mkF m 4 #[.val (.int p0), .val (.int p1), .val (.int p2), .unset] [])) rfl (hb hby d2_4) (Nat.le_of_ble_eq_true rfl) (Nat.le_of_ble_eq_true rfl)
    obtain ⟨b1, q1⟩ : ∃ z, z = h0.size := ⟨_, rfl⟩
    rw [← q1] at A1 D1 st1
    refine Go.by (fun _ => st1 _) ?_
    have g_b1 : n0 ≤ b1 := Nat.le_trans Z0 (Nat.le_of_eq q1.symm)
    have sz_b1 : h0.size ≤ b1 := Nat.le_trans (Keep.refl h0 []).1 (Nat.le_of_eq q1.symm)
    have O1 := O0.ext E1
    have R1 := R0.trans (CHr.ext E1 C0)
    have C1 := CHv.ext E1 C0
    have hk := Nat.le_trans hk E1.1
    have Z1 : n0 ≤ h1.size := Nat.le_trans Z0 E1.1
    have K1 : Keep h0 h1 [] := (Keep.refl h0 []).ext E1
    have F2 : Fld Z h1 b1 "java/lang/String" "value" "[B" .null := D1 (Or.inr (hw _ (List.mem_of_getElem? (i := 23) rfl))) (ty := (.array .byte)) (by decide)
    have F3 : Fld Z h1 b1 "java/lang/String" "coder" "B" (.int (0 : Int32)) := D1 (Or.inr (hw _ (List.mem_of_getElem? (i := 24) rfl))) (ty := .byte) (by decide)
    show Go p e below P (T1.setTop (mkF m 7 #[.val (.int p0), .val (.int p1), .val (.int p2), .unset] [(.ref b1)]))
    refine Go.by (fun _ => XS.dup X1.here hx rfl (hb hby d2_7) rfl rfl) ?_
    show Go p e below P (T1.setTop (mkF m 8 #[.val (.int p0), .val (.int p1), .val (.int p2), .unset] [(.ref b1), (.ref b1)]))
    refine Go.by (fun _ => XS.iconst X1.here hx rfl (hb hby d2_8)) ?_
    show Go p e below P (T1.setTop (mkF m 9 #[.val (.int p0), .val (.int p1), .val (.int p2), .unset] [(.int (0 : Int32)), (.ref b1), (.ref b1)]))
    obtain ⟨T4, h4, k4, X4, e4, E4, A4, st4⟩ := newP X1 hx hZ (hw _ (List.mem_of_getElem? (i := 10) rfl)) e1 (g := (mkF m 9 #[.val (.int p0), .val (.int p1), .val (.int p2), .unset] [(.int (0 : Int32)), (.ref b1), (.ref b1)])) rfl (hb hby d2_9) rfl (by decide) (cap := 0) (by decide) (Nat.le_of_ble_eq_true rfl) (Nat.le_of_ble_eq_true rfl) (Nat.le_of_ble_eq_true rfl)
    obtain ⟨b4, q4⟩ : ∃ z, z = h1.size := ⟨_, rfl⟩
    rw [← q4] at A4 st4
    refine Go.by (fun _ => st4 _) ?_
    have ne_b1_b4 : b1 ≠ b4 := Nat.ne_of_lt (Nat.lt_of_lt_of_le A1.lt (Nat.le_of_eq q4.symm))
    have g_b4 : n0 ≤ b4 := Nat.le_trans Z1 (Nat.le_of_eq q4.symm)
    have sz_b4 : h0.size ≤ b4 := Nat.le_trans K1.1 (Nat.le_of_eq q4.symm)
    have F5 : Exa Z h4 b1 "java/lang/String" := A1.ext E4
    have F6 : Fld Z h4 b1 "java/lang/String" "value" "[B" .null := F2.ext E4
    have F7 : Fld Z h4 b1 "java/lang/String" "coder" "B" (.int (0 : Int32)) := F3.ext E4
    have O4 := O1.ext E4
    have R4 := R1.trans (CHr.ext E4 C1)
    have C4 := CHv.ext E4 C1
    have hk := Nat.le_trans hk E4.1
    have Z4 : n0 ≤ h4.size := Nat.le_trans Z1 E4.1
    have K4 : Keep h0 h4 [] := K1.ext E4
    have F8 : Arv Z h4 b4 k4 .char (0 : Int32) [] (.int (0 : Int32)) := (Arv.new A4 (by decide)).pad (pad_rep [] (.int (0 : Int32)) 0)
    show Go p e below P (T4.setTop (mkF m 11 #[.val (.int p0), .val (.int p1), .val (.int p2), .unset] [(.ref b4), (.ref b1), (.ref b1)]))
    obtain ⟨_, _, ⟨T9, L9, k9, n9⟩, -, X9, hSc9, hgr9, ⟨Lc9, hQ9, l9, y9, z9, Cr9⟩, st9⟩ := X4.specialBackS hx (y := (⟨"java/lang/String", "<init>", "([C)V"⟩ : MethodName)) rfl hown (mvT hZ (hw _ (List.mem_of_getElem? (i := 11) rfl))) (mvT hZ (hw _ (List.mem_of_getElem? (i := 12) rfl))) (mvT hZ (hw _ (List.mem_of_getElem? (i := 13) rfl))) (by decide) (backOfSH (W := 1) (rm_sn1 l Z a0 hw [] zC hG b1 b4 k4 h4 n0 Z4 O4 F5 F6 F7 F8 g_b1 ne_b1_b4) hZ (hw _ (List.mem_of_getElem? (i := 13) rfl)) (hw _ (List.mem_of_getElem? (i := 9) rfl)) (Nat.le_of_ble_eq_true rfl) (Nat.le_of_ble_eq_true rfl) (own_EW hw) C4) (g := (mkF m 11 #[.val (.int p0), .val (.int p1), .val (.int p2), .unset] [(.ref b4), (.ref b1), (.ref b1)])) rfl (by rw [hml]; rfl) (Steps.refl _) (a := b1) (argsL := [(.ref b4)]) (rest := [(.ref b1)]) (lenOf pd_1 rfl) rfl (by show 2 * 0 + _ ≤ _; exact Nat.le_of_eq rfl) (hb hby d2_11) (fun _ _ => ⟨rfl, e4, (Nat.le_of_ble_eq_true rfl : 2 + 4 ≤ _), (Nat.le_of_ble_eq_true rfl : 4 + 8 ≤ _)⟩)
    dsimp only [Pt.U, Pt.locs, Pt.cells, Pt.slots] at X9 l9 y9 z9 st9 hQ9 hSc9 hgr9 Cr9
    subst l9 y9 z9
    have hZo := hZ
    obtain ⟨X9, hS, hZ, hown⟩ := rebS hS (by rw [e4]; exact hk) X9 hSc9 hgr9 hZ hown
    have hk : T9.heap.size ≤ T9.heap.size := Nat.le_refl _
    have Sf9_b1 := Cr9.safe F5.lt (own_blank (EL := consts_1) hZo.alike F5 F6)
    have Sf9_b4 := Cr9.safe F8.lt (own_safeA (EL := consts_1) hZo.alike F8 (by decide))
    have R9 := R4.trans Cr9
    have C9 := Cr9.1
    obtain ⟨t_9, rfl, Nq9, Kc9, F10⟩ := hQ9
    have N9 := Fr.app N0 Nq9
    refine Go.by (fun _ k => st9.trans k) ?_
    have F11 : Exa Z T9.heap b1 "java/lang/String" := F5.keep Kc9
    have F12 : Arv Z T9.heap b4 k4 .char (0 : Int32) [] (.int (0 : Int32)) := F8.keep Kc9 (ninS (Ne.symm ne_b1_b4) nin0)
    have O9 := O4.keep Kc9 (allS g_b1 all0)
    have Z9 : n0 ≤ T9.heap.size := Nat.le_trans Z4 Kc9.1
    have K9 : Keep h0 T9.heap [] := K4.trans Kc9 (allS (P := fun zz => zz ∈ [] ∨ h0.size ≤ zz) (Or.inr sz_b1) all0)
    show Go p e below P (T9.setTop (mkF m 14 #[.val (.int p0), .val (.int p1), .val (.int p2), .unset] [(.ref b1)]))
    have F13 : Str Z T9.heap b1 t_9 (mkL p0 p1 p2) := (by rw [mkL, if_pos hc1]; exact F10)
    subst hP
    refine Go.retRC X9 hx hS hk Bd.returns rfl rfl hlk (hb hby d2_14) (Nat.le_of_ble_eq_true rfl) (Nat.le_of_ble_eq_true rfl) ?_ (by rw [hh]; exact R9.trans (CHv.at X9 hZ (own_EW hw) C9))
    exact ⟨b1, t_9, rfl, N9, K9, F13⟩
  · refine Go.by (fun _ => XS.ifYes X0.here hx rfl (pc0 := 1) (pc' := 15) rfl (hb hby d2_1) rfl ((if0 _ _).trans (feq hc1).2) (by decide) (by decide)) ?_
    show Go p e below P (s₁.setTop (mkF m 15 #[.val (.int p0), .val (.int p1), .val (.int p2), .unset] []))
    refine Go.by (fun _ => XS.iloadN X0.here hx rfl (hb hby d2_15) rfl) ?_
    show Go p e below P (s₁.setTop (mkF m 16 #[.val (.int p0), .val (.int p1), .val (.int p2), .unset] [(.int p0)]))
    refine Go.by (fun _ => XS.iconst X0.here hx rfl (hb hby d2_16)) ?_
    show Go p e below P (s₁.setTop (mkF m 17 #[.val (.int p0), .val (.int p1), .val (.int p2), .unset] [(.int (1 : Int32)), (.int p0)]))
    by_cases hc17 : p0 = (1 : Int32)
    · refine Go.by (fun _ => XS.icmpNo X0.here hx rfl (hb hby d2_17) rfl (teq hc17).2) ?_
      show Go p e below P (s₁.setTop (mkF m 20 #[.val (.int p0), .val (.int p1), .val (.int p2), .unset] []))
      refine Go.by (fun _ => XS.iconst X0.here hx rfl (hb hby d2_20)) ?_
      show Go p e below P (s₁.setTop (mkF m 21 #[.val (.int p0), .val (.int p1), .val (.int p2), .unset] [(.int (1 : Int32))]))
      obtain ⟨T14, h14, k14, X14, e14, E14, A14, st14⟩ := newP X0 hx hZ (hw _ (List.mem_of_getElem? (i := 10) rfl)) e0 (g := (mkF m 21 #[.val (.int p0), .val (.int p1), .val (.int p2), .unset] [(.int (1 : Int32))])) rfl (hb hby d2_21) rfl (by decide) (cap := 1) (by decide) (Nat.le_of_ble_eq_true rfl) (Nat.le_of_ble_eq_true rfl) (Nat.le_of_ble_eq_true rfl)
      obtain ⟨b14, q14⟩ : ∃ z, z = h0.size := ⟨_, rfl⟩
      rw [← q14] at A14 st14
      refine Go.by (fun _ => st14 _) ?_
      have g_b14 : n0 ≤ b14 := Nat.le_trans Z0 (Nat.le_of_eq q14.symm)
      have sz_b14 : h0.size ≤ b14 := Nat.le_trans (Keep.refl h0 []).1 (Nat.le_of_eq q14.symm)
      have O14 := O0.ext E14
      have R14 := R0.trans (CHr.ext E14 C0)
      have C14 := CHv.ext E14 C0
      have hk := Nat.le_trans hk E14.1
      have Z14 : n0 ≤ h14.size := Nat.le_trans Z0 E14.1
      have K14 : Keep h0 h14 [] := (Keep.refl h0 []).ext E14
      have F15 : Arv Z h14 b14 k14 .char (1 : Int32) [(.int (0 : Int32))] (.int (0 : Int32)) := (Arv.new A14 (by decide)).pad (pad_rep [] (.int (0 : Int32)) 1)
      show Go p e below P (T14.setTop (mkF m 23 #[.val (.int p0), .val (.int p1), .val (.int p2), .unset] [(.ref b14)]))
      refine Go.by (fun _ => XS.astoreN X14.here hx rfl (hb hby d2_23) rfl rfl (l' := #[.val (.int p0), .val (.int p1), .val (.int p2), .val (.ref b14)]) rfl) ?_
      show Go p e below P (T14.setTop (mkF m 24 #[.val (.int p0), .val (.int p1), .val (.int p2), .val (.ref b14)] []))
      refine Go.by (fun _ => XS.aloadN X14.here hx rfl (hb hby d2_24) rfl rfl) ?_
      show Go p e below P (T14.setTop (mkF m 25 #[.val (.int p0), .val (.int p1), .val (.int p2), .val (.ref b14)] [(.ref b14)]))
      refine Go.by (fun _ => XS.iconst X14.here hx rfl (hb hby d2_25)) ?_
      show Go p e below P (T14.setTop (mkF m 26 #[.val (.int p0), .val (.int p1), .val (.int p2), .val (.ref b14)] [(.int (0 : Int32)), (.ref b14)]))
      refine Go.by (fun _ => XS.iloadN X14.here hx rfl (hb hby d2_26) rfl) ?_
      show Go p e below P (T14.setTop (mkF m 27 #[.val (.int p0), .val (.int p1), .val (.int p2), .val (.ref b14)] [(.int p1), (.int (0 : Int32)), (.ref b14)]))
      refine Go.by (fun _ => XS.i2c X14.here hx rfl (hb hby d2_27) rfl) ?_
      show Go p e below P (T14.setTop (mkF m 28 #[.val (.int p0), .val (.int p1), .val (.int p2), .val (.ref b14)] [(.int ((p1).toUInt32.toUInt16.toUInt32.toInt32)), (.int (0 : Int32)), (.ref b14)]))
      rw [own_i2c h1]
      show Go p e below P (T14.setTop (mkF m 28 #[.val (.int p0), .val (.int p1), .val (.int p2), .val (.ref b14)] [(.int p1), (.int (0 : Int32)), (.ref b14)]))
      obtain ⟨cl16, Ar16, qc16, Sz16, Ng16, Hs16, Gf16⟩ := id (F15)
      have hin16 : ¬ ((0 : Int32) < 0 ∨ cl16.slots.size ≤ ((0 : Int32)).toNatClampNeg) := inb_of Sz16 ⟨by decide, by decide⟩
      obtain ⟨T16, h16, X16, e16, W16, st16⟩ := stC X14 hx hZ e14 Ar16 (j := (0 : Int32)) hin16 (g := (mkF m 28 #[.val (.int p0), .val (.int p1), .val (.int p2), .val (.ref b14)] [(.int p1), (.int (0 : Int32)), (.ref b14)])) rfl rfl (hb hby d2_28)
      refine Go.by (fun _ => st16 _) ?_
      have Sw16 := (own_safeA (EL := consts_1) hZ.alike F15 (by decide))
      have R16 := R14.trans (CHr.wr W16 Sw16 C14)
      have C16 := CHv.wr W16 Sw16 C14
      have hk := Nat.le_trans hk (Keep.of_wr W16).1
      have O16 := O14.wr W16 g_b14
      have Z16 : n0 ≤ h16.size := Nat.le_trans Z14 (Keep.of_wr W16).1
      have K16 : Keep h0 h16 [] := K14.wr W16 (Or.inr sz_b14)
      have F17 : Arv Z h16 b14 k14 .char (1 : Int32) [(.int p1)] (.int (0 : Int32)) := (by have q := Arv.set Ar16 qc16 Sz16 Ng16 Hs16 Gf16 (fits_nar_char _) W16 0 rfl (Nat.le_of_ble_eq_true rfl); rw [(own_narr h1)] at q; exact q)
      have N16 := Fr.snoc X16 N0 g_b14
      show Go p e below P (T16.setTop (mkF m 29 #[.val (.int p0), .val (.int p1), .val (.int p2), .val (.ref b14)] []))
      obtain ⟨T18, h18, X18, e18, E18, A18, D18, -, st18⟩ := newO X16 hx hZ hown (hw _ (List.mem_of_getElem? (i := 7) rfl)) (hw _ (List.mem_of_getElem? (i := 8) rfl)) (hw _ (List.mem_of_getElem? (i := 9) rfl)) e16 (g := (mkF m 29 #[.val (.int p0), .val (.int p1), .val (.int p2), .val (.ref b14)] [])) rfl (hb hby d2_29) (Nat.le_of_ble_eq_true rfl) (Nat.le_of_ble_eq_true rfl)
      obtain ⟨b18, q18⟩ : ∃ z, z = h16.size := ⟨_, rfl⟩
      rw [← q18] at A18 D18 st18
      refine Go.by (fun _ => st18 _) ?_
      have ne_b14_b18 : b14 ≠ b18 := Nat.ne_of_lt (Nat.lt_of_lt_of_le F17.lt (Nat.le_of_eq q18.symm))
      have g_b18 : n0 ≤ b18 := Nat.le_trans Z16 (Nat.le_of_eq q18.symm)
      have sz_b18 : h0.size ≤ b18 := Nat.le_trans K16.1 (Nat.le_of_eq q18.symm)
      have F19 : Arv Z h18 b14 k14 .char (1 : Int32) [(.int p1)] (.int (0 : Int32)) := F17.ext E18
      have O18 := O16.ext E18
      have R18 := R16.trans (CHr.ext E18 C16)
      have C18 := CHv.ext E18 C16
      have hk := Nat.le_trans hk E18.1
      have Z18 : n0 ≤ h18.size := Nat.le_trans Z16 E18.1
      have K18 : Keep h0 h18 [] := K16.ext E18
      have F20 : Fld Z h18 b18 "java/lang/String" "value" "[B" .null := D18 (Or.inr (hw _ (List.mem_of_getElem? (i := 23) rfl))) (ty := (.array .byte)) (by decide)
      have F21 : Fld Z h18 b18 "java/lang/String" "coder" "B" (.int (0 : Int32)) := D18 (Or.inr (hw _ (List.mem_of_getElem? (i := 24) rfl))) (ty := .byte) (by decide)
      show Go p e below P (T18.setTop (mkF m 32 #[.val (.int p0), .val (.int p1), .val (.int p2), .val (.ref b14)] [(.ref b18)]))
      refine Go.by (fun _ => XS.dup X18.here hx rfl (hb hby d2_32) rfl rfl) ?_
      show Go p e below P (T18.setTop (mkF m 33 #[.val (.int p0), .val (.int p1), .val (.int p2), .val (.ref b14)] [(.ref b18), (.ref b18)]))
      refine Go.by (fun _ => XS.aloadN X18.here hx rfl (hb hby d2_33) rfl rfl) ?_
      show Go p e below P (T18.setTop (mkF m 34 #[.val (.int p0), .val (.int p1), .val (.int p2), .val (.ref b14)] [(.ref b14), (.ref b18), (.ref b18)]))
      obtain ⟨_, _, ⟨T22, L22, k22, n22⟩, -, X22, ⟨Lc22, hQ22, l22, y22, z22⟩, st22⟩ := X18.specialBack hx (y := (⟨"java/lang/String", "<init>", "([C)V"⟩ : MethodName)) rfl hown (mvT hZ (hw _ (List.mem_of_getElem? (i := 11) rfl))) (mvT hZ (hw _ (List.mem_of_getElem? (i := 12) rfl))) (mvT hZ (hw _ (List.mem_of_getElem? (i := 13) rfl))) (by decide) (StrChars.Road.backV (W := 1) hZ (own_words hw) (kI := 4) (hw _ (List.mem_of_getElem? (i := 8) rfl)) (cs := ([p1] : List Int32)) (bs := ((([p1] : List Int32)).map (fun c => c.toInt8.toInt32))) (n := 1) g_b18 Z18 A18 F20 F21 F19 (G0.ext O18.2) own_cs rfl rfl (Nat.le_of_ble_eq_true rfl) (Nat.le_of_ble_eq_true rfl) (own_one h1) rfl (Nat.le_of_ble_eq_true rfl) (Nat.le_of_ble_eq_true rfl)) (g := (mkF m 34 #[.val (.int p0), .val (.int p1), .val (.int p2), .val (.ref b14)] [(.ref b14), (.ref b18), (.ref b18)])) rfl (by rw [hml]; rfl) (Steps.refl _) (a := b18) (argsL := [(.ref b14)]) (rest := [(.ref b18)]) (lenOf pd_1 rfl) rfl (by show 2 * 0 + _ ≤ _; exact Nat.le_of_eq rfl) (hb hby d2_34) (fun _ _ => ⟨rfl, e18, (Nat.le_of_ble_eq_true rfl : 2 + 1 ≤ _), (Nat.le_of_ble_eq_true rfl : 5 + 1 ≤ _)⟩)
      dsimp only [Pt.U, Pt.locs, Pt.cells, Pt.slots] at X22 l22 y22 z22 st22 hQ22
      subst l22 y22 z22
      obtain ⟨rfl, Nq22, Kc22, FE22, FC22, t22, kb22, hn22, hs22, hne22, FV22, FA22⟩ := hQ22
      have N22 := Fr.app N16 Nq22
      refine Go.by (fun _ k => st22.trans k) ?_
      have ne_b14_t22 : b14 ≠ t22 := Nat.ne_of_lt (Nat.lt_of_lt_of_le F19.lt hs22)
      have ne_b18_t22 : b18 ≠ t22 := Nat.ne_of_lt (Nat.lt_of_lt_of_le A18.lt hs22)
      have g_t22 : n0 ≤ t22 := Nat.le_trans Z18 hs22
      have sz_t22 : h0.size ≤ t22 := Nat.le_trans K18.1 hs22
      have F23 : Arv Z T22.heap b14 k14 .char (1 : Int32) [(.int p1)] (.int (0 : Int32)) := F19.keep Kc22 (ninS ne_b14_b18 nin0)
      have F24 : Exa Z T22.heap b18 "java/lang/String" := A18.keep Kc22
      have Sk22 := own_sk (ws := [b18]) C18 (allS (own_blank (EL := consts_1) hZ.alike A18 F20) all0)
      have R22 := R18.trans (CHr.keep Kc22 Sk22 C18)
      have C22 := CHv.keep Kc22 Sk22 C18
      have hk := Nat.le_trans hk Kc22.1
      have O22 := O18.keep Kc22 (allS g_b18 all0)
      have Z22 : n0 ≤ T22.heap.size := Nat.le_trans Z18 Kc22.1
      have K22 : Keep h0 T22.heap [] := K18.trans Kc22 (allS (P := fun zz => zz ∈ [] ∨ h0.size ≤ zz) (Or.inr sz_b18) all0)
      have F25 : Str Z T22.heap b18 t22 ([p1] : List Int32) := Str.mk FE22 FV22 FC22 FA22 (StrChars.Road.codOf (n := 1) rfl (fun x hx => ((own_one h1) x hx).2)) (own_up _ (own_one h1)) (Nat.le_of_ble_eq_true rfl)
      show Go p e below P (T22.setTop (mkF m 37 #[.val (.int p0), .val (.int p1), .val (.int p2), .val (.ref b14)] [(.ref b18)]))
      have F26 : Str Z T22.heap b18 t22 (mkL p0 p1 p2) := (by rw [mkL, if_neg hc1, if_pos hc17]; exact F25)
      subst hP
      refine Go.retRC X22 hx hS hk Bd.returns rfl rfl hlk (hb hby d2_37) (Nat.le_of_ble_eq_true rfl) (Nat.le_of_ble_eq_true rfl) ?_ (by rw [hh]; exact R22.trans (CHv.at X22 hZ (own_EW hw) C22))
      exact ⟨b18, t22, rfl, N22, K22, F26⟩
    · refine Go.by (fun _ => XS.icmpYes X0.here hx rfl (pc0 := 17) (pc' := 38) rfl (hb hby d2_17) rfl (feq hc17).2 (by decide) (by decide)) ?_
      show Go p e below P (s₁.setTop (mkF m 38 #[.val (.int p0), .val (.int p1), .val (.int p2), .unset] []))
      refine Go.by (fun _ => XS.iconst X0.here hx rfl (hb hby d2_38)) ?_
      show Go p e below P (s₁.setTop (mkF m 39 #[.val (.int p0), .val (.int p1), .val (.int p2), .unset] [(.int (2 : Int32))]))
      obtain ⟨T27, h27, k27, X27, e27, E27, A27, st27⟩ := newP X0 hx hZ (hw _ (List.mem_of_getElem? (i := 10) rfl)) e0 (g := (mkF m 39 #[.val (.int p0), .val (.int p1), .val (.int p2), .unset] [(.int (2 : Int32))])) rfl (hb hby d2_39) rfl (by decide) (cap := 2) (by decide) (Nat.le_of_ble_eq_true rfl) (Nat.le_of_ble_eq_true rfl) (Nat.le_of_ble_eq_true rfl)
      obtain ⟨b27, q27⟩ : ∃ z, z = h0.size := ⟨_, rfl⟩
      rw [← q27] at A27 st27
      refine Go.by (fun _ => st27 _) ?_
      have g_b27 : n0 ≤ b27 := Nat.le_trans Z0 (Nat.le_of_eq q27.symm)
      have sz_b27 : h0.size ≤ b27 := Nat.le_trans (Keep.refl h0 []).1 (Nat.le_of_eq q27.symm)
      have O27 := O0.ext E27
      have R27 := R0.trans (CHr.ext E27 C0)
      have C27 := CHv.ext E27 C0
      have hk := Nat.le_trans hk E27.1
      have Z27 : n0 ≤ h27.size := Nat.le_trans Z0 E27.1
      have K27 : Keep h0 h27 [] := (Keep.refl h0 []).ext E27
      have F28 : Arv Z h27 b27 k27 .char (2 : Int32) [(.int (0 : Int32)), (.int (0 : Int32))] (.int (0 : Int32)) := (Arv.new A27 (by decide)).pad (pad_rep [] (.int (0 : Int32)) 2)
      show Go p e below P (T27.setTop (mkF m 41 #[.val (.int p0), .val (.int p1), .val (.int p2), .unset] [(.ref b27)]))
      refine Go.by (fun _ => XS.astoreN X27.here hx rfl (hb hby d2_41) rfl rfl (l' := #[.val (.int p0), .val (.int p1), .val (.int p2), .val (.ref b27)]) rfl) ?_
      show Go p e below P (T27.setTop (mkF m 42 #[.val (.int p0), .val (.int p1), .val (.int p2), .val (.ref b27)] []))
      refine Go.by (fun _ => XS.aloadN X27.here hx rfl (hb hby d2_42) rfl rfl) ?_
      show Go p e below P (T27.setTop (mkF m 43 #[.val (.int p0), .val (.int p1), .val (.int p2), .val (.ref b27)] [(.ref b27)]))
      refine Go.by (fun _ => XS.iconst X27.here hx rfl (hb hby d2_43)) ?_
      show Go p e below P (T27.setTop (mkF m 44 #[.val (.int p0), .val (.int p1), .val (.int p2), .val (.ref b27)] [(.int (0 : Int32)), (.ref b27)]))
      refine Go.by (fun _ => XS.iloadN X27.here hx rfl (hb hby d2_44) rfl) ?_
      show Go p e below P (T27.setTop (mkF m 45 #[.val (.int p0), .val (.int p1), .val (.int p2), .val (.ref b27)] [(.int p1), (.int (0 : Int32)), (.ref b27)]))
      refine Go.by (fun _ => XS.i2c X27.here hx rfl (hb hby d2_45) rfl) ?_
      show Go p e below P (T27.setTop (mkF m 46 #[.val (.int p0), .val (.int p1), .val (.int p2), .val (.ref b27)] [(.int ((p1).toUInt32.toUInt16.toUInt32.toInt32)), (.int (0 : Int32)), (.ref b27)]))
      rw [own_i2c h1]
      show Go p e below P (T27.setTop (mkF m 46 #[.val (.int p0), .val (.int p1), .val (.int p2), .val (.ref b27)] [(.int p1), (.int (0 : Int32)), (.ref b27)]))
      obtain ⟨cl29, Ar29, qc29, Sz29, Ng29, Hs29, Gf29⟩ := id (F28)
      have hin29 : ¬ ((0 : Int32) < 0 ∨ cl29.slots.size ≤ ((0 : Int32)).toNatClampNeg) := inb_of Sz29 ⟨by decide, by decide⟩
      obtain ⟨T29, h29, X29, e29, W29, st29⟩ := stC X27 hx hZ e27 Ar29 (j := (0 : Int32)) hin29 (g := (mkF m 46 #[.val (.int p0), .val (.int p1), .val (.int p2), .val (.ref b27)] [(.int p1), (.int (0 : Int32)), (.ref b27)])) rfl rfl (hb hby d2_46)
      refine Go.by (fun _ => st29 _) ?_
      have Sw29 := (own_safeA (EL := consts_1) hZ.alike F28 (by decide))
      have R29 := R27.trans (CHr.wr W29 Sw29 C27)
      have C29 := CHv.wr W29 Sw29 C27
      have hk := Nat.le_trans hk (Keep.of_wr W29).1
      have O29 := O27.wr W29 g_b27
      have Z29 : n0 ≤ h29.size := Nat.le_trans Z27 (Keep.of_wr W29).1
      have K29 : Keep h0 h29 [] := K27.wr W29 (Or.inr sz_b27)
      have F30 : Arv Z h29 b27 k27 .char (2 : Int32) [(.int p1), (.int (0 : Int32))] (.int (0 : Int32)) := (by have q := Arv.set Ar29 qc29 Sz29 Ng29 Hs29 Gf29 (fits_nar_char _) W29 0 rfl (Nat.le_of_ble_eq_true rfl); rw [(own_narr h1)] at q; exact q)
      have N29 := Fr.snoc X29 N0 g_b27
      show Go p e below P (T29.setTop (mkF m 47 #[.val (.int p0), .val (.int p1), .val (.int p2), .val (.ref b27)] []))
      refine Go.by (fun _ => XS.aloadN X29.here hx rfl (hb hby d2_47) rfl rfl) ?_
      show Go p e below P (T29.setTop (mkF m 48 #[.val (.int p0), .val (.int p1), .val (.int p2), .val (.ref b27)] [(.ref b27)]))
      refine Go.by (fun _ => XS.iconst X29.here hx rfl (hb hby d2_48)) ?_
      show Go p e below P (T29.setTop (mkF m 49 #[.val (.int p0), .val (.int p1), .val (.int p2), .val (.ref b27)] [(.int (1 : Int32)), (.ref b27)]))
      refine Go.by (fun _ => XS.iloadN X29.here hx rfl (hb hby d2_49) rfl) ?_
      show Go p e below P (T29.setTop (mkF m 50 #[.val (.int p0), .val (.int p1), .val (.int p2), .val (.ref b27)] [(.int p2), (.int (1 : Int32)), (.ref b27)]))
      refine Go.by (fun _ => XS.i2c X29.here hx rfl (hb hby d2_50) rfl) ?_
      show Go p e below P (T29.setTop (mkF m 51 #[.val (.int p0), .val (.int p1), .val (.int p2), .val (.ref b27)] [(.int ((p2).toUInt32.toUInt16.toUInt32.toInt32)), (.int (1 : Int32)), (.ref b27)]))
      rw [own_i2c h2]
      show Go p e below P (T29.setTop (mkF m 51 #[.val (.int p0), .val (.int p1), .val (.int p2), .val (.ref b27)] [(.int p2), (.int (1 : Int32)), (.ref b27)]))
      obtain ⟨cl31, Ar31, qc31, Sz31, Ng31, Hs31, Gf31⟩ := id (F30)
      have hin31 : ¬ ((1 : Int32) < 0 ∨ cl31.slots.size ≤ ((1 : Int32)).toNatClampNeg) := inb_of Sz31 ⟨by decide, by decide⟩
      obtain ⟨T31, h31, X31, e31, W31, st31⟩ := stC X29 hx hZ e29 Ar31 (j := (1 : Int32)) hin31 (g := (mkF m 51 #[.val (.int p0), .val (.int p1), .val (.int p2), .val (.ref b27)] [(.int p2), (.int (1 : Int32)), (.ref b27)])) rfl rfl (hb hby d2_51)
      refine Go.by (fun _ => st31 _) ?_
      have Sw31 := (own_safeA (EL := consts_1) hZ.alike F30 (by decide))
      have R31 := R29.trans (CHr.wr W31 Sw31 C29)
      have C31 := CHv.wr W31 Sw31 C29
      have hk := Nat.le_trans hk (Keep.of_wr W31).1
      have O31 := O29.wr W31 g_b27
      have Z31 : n0 ≤ h31.size := Nat.le_trans Z29 (Keep.of_wr W31).1
      have K31 : Keep h0 h31 [] := K29.wr W31 (Or.inr sz_b27)
      have F32 : Arv Z h31 b27 k27 .char (2 : Int32) [(.int p1), (.int p2)] (.int (0 : Int32)) := (by have q := Arv.set Ar31 qc31 Sz31 Ng31 Hs31 Gf31 (fits_nar_char _) W31 1 rfl (Nat.le_of_ble_eq_true rfl); rw [(own_narr h2)] at q; exact q)
      have N31 := Fr.snoc X31 N29 g_b27
      show Go p e below P (T31.setTop (mkF m 52 #[.val (.int p0), .val (.int p1), .val (.int p2), .val (.ref b27)] []))
      obtain ⟨T33, h33, X33, e33, E33, A33, D33, -, st33⟩ := newO X31 hx hZ hown (hw _ (List.mem_of_getElem? (i := 7) rfl)) (hw _ (List.mem_of_getElem? (i := 8) rfl)) (hw _ (List.mem_of_getElem? (i := 9) rfl)) e31 (g := (mkF m 52 #[.val (.int p0), .val (.int p1), .val (.int p2), .val (.ref b27)] [])) rfl (hb hby d2_52) (Nat.le_of_ble_eq_true rfl) (Nat.le_of_ble_eq_true rfl)
      obtain ⟨b33, q33⟩ : ∃ z, z = h31.size := ⟨_, rfl⟩
      rw [← q33] at A33 D33 st33
      refine Go.by (fun _ => st33 _) ?_
      have ne_b27_b33 : b27 ≠ b33 := Nat.ne_of_lt (Nat.lt_of_lt_of_le F32.lt (Nat.le_of_eq q33.symm))
      have g_b33 : n0 ≤ b33 := Nat.le_trans Z31 (Nat.le_of_eq q33.symm)
      have sz_b33 : h0.size ≤ b33 := Nat.le_trans K31.1 (Nat.le_of_eq q33.symm)
      have F34 : Arv Z h33 b27 k27 .char (2 : Int32) [(.int p1), (.int p2)] (.int (0 : Int32)) := F32.ext E33
      have O33 := O31.ext E33
      have R33 := R31.trans (CHr.ext E33 C31)
      have C33 := CHv.ext E33 C31
      have hk := Nat.le_trans hk E33.1
      have Z33 : n0 ≤ h33.size := Nat.le_trans Z31 E33.1
      have K33 : Keep h0 h33 [] := K31.ext E33
      have F35 : Fld Z h33 b33 "java/lang/String" "value" "[B" .null := D33 (Or.inr (hw _ (List.mem_of_getElem? (i := 23) rfl))) (ty := (.array .byte)) (by decide)
      have F36 : Fld Z h33 b33 "java/lang/String" "coder" "B" (.int (0 : Int32)) := D33 (Or.inr (hw _ (List.mem_of_getElem? (i := 24) rfl))) (ty := .byte) (by decide)
      show Go p e below P (T33.setTop (mkF m 55 #[.val (.int p0), .val (.int p1), .val (.int p2), .val (.ref b27)] [(.ref b33)]))
      refine Go.by (fun _ => XS.dup X33.here hx rfl (hb hby d2_55) rfl rfl) ?_
      show Go p e below P (T33.setTop (mkF m 56 #[.val (.int p0), .val (.int p1), .val (.int p2), .val (.ref b27)] [(.ref b33), (.ref b33)]))
      refine Go.by (fun _ => XS.aloadN X33.here hx rfl (hb hby d2_56) rfl rfl) ?_
      show Go p e below P (T33.setTop (mkF m 57 #[.val (.int p0), .val (.int p1), .val (.int p2), .val (.ref b27)] [(.ref b27), (.ref b33), (.ref b33)]))
      obtain ⟨_, _, ⟨T37, L37, k37, n37⟩, -, X37, ⟨Lc37, hQ37, l37, y37, z37⟩, st37⟩ := X33.specialBack hx (y := (⟨"java/lang/String", "<init>", "([C)V"⟩ : MethodName)) rfl hown (mvT hZ (hw _ (List.mem_of_getElem? (i := 11) rfl))) (mvT hZ (hw _ (List.mem_of_getElem? (i := 12) rfl))) (mvT hZ (hw _ (List.mem_of_getElem? (i := 13) rfl))) (by decide) (StrChars.Road.backV (W := 1) hZ (own_words hw) (kI := 4) (hw _ (List.mem_of_getElem? (i := 8) rfl)) (cs := ([p1, p2] : List Int32)) (bs := ((([p1, p2] : List Int32)).map (fun c => c.toInt8.toInt32))) (n := 2) g_b33 Z33 A33 F35 F36 F34 (G0.ext O33.2) own_cs rfl rfl (Nat.le_of_ble_eq_true rfl) (Nat.le_of_ble_eq_true rfl) (own_two h1 h2) rfl (Nat.le_of_ble_eq_true rfl) (Nat.le_of_ble_eq_true rfl)) (g := (mkF m 57 #[.val (.int p0), .val (.int p1), .val (.int p2), .val (.ref b27)] [(.ref b27), (.ref b33), (.ref b33)])) rfl (by rw [hml]; rfl) (Steps.refl _) (a := b33) (argsL := [(.ref b27)]) (rest := [(.ref b33)]) (lenOf pd_1 rfl) rfl (by show 2 * 0 + _ ≤ _; exact Nat.le_of_eq rfl) (hb hby d2_57) (fun _ _ => ⟨rfl, e33, (Nat.le_of_ble_eq_true rfl : 2 + 1 ≤ _), (Nat.le_of_ble_eq_true rfl : 6 + 2 ≤ _)⟩)
      dsimp only [Pt.U, Pt.locs, Pt.cells, Pt.slots] at X37 l37 y37 z37 st37 hQ37
      subst l37 y37 z37
      obtain ⟨rfl, Nq37, Kc37, FE37, FC37, t37, kb37, hn37, hs37, hne37, FV37, FA37⟩ := hQ37
      have N37 := Fr.app N31 Nq37
      refine Go.by (fun _ k => st37.trans k) ?_
      have ne_b27_t37 : b27 ≠ t37 := Nat.ne_of_lt (Nat.lt_of_lt_of_le F34.lt hs37)
      have ne_b33_t37 : b33 ≠ t37 := Nat.ne_of_lt (Nat.lt_of_lt_of_le A33.lt hs37)
      have g_t37 : n0 ≤ t37 := Nat.le_trans Z33 hs37
      have sz_t37 : h0.size ≤ t37 := Nat.le_trans K33.1 hs37
      have F38 : Arv Z T37.heap b27 k27 .char (2 : Int32) [(.int p1), (.int p2)] (.int (0 : Int32)) := F34.keep Kc37 (ninS ne_b27_b33 nin0)
      have F39 : Exa Z T37.heap b33 "java/lang/String" := A33.keep Kc37
      have Sk37 := own_sk (ws := [b33]) C33 (allS (own_blank (EL := consts_1) hZ.alike A33 F35) all0)
      have R37 := R33.trans (CHr.keep Kc37 Sk37 C33)
      have C37 := CHv.keep Kc37 Sk37 C33
      have hk := Nat.le_trans hk Kc37.1
      have O37 := O33.keep Kc37 (allS g_b33 all0)
      have Z37 : n0 ≤ T37.heap.size := Nat.le_trans Z33 Kc37.1
      have K37 : Keep h0 T37.heap [] := K33.trans Kc37 (allS (P := fun zz => zz ∈ [] ∨ h0.size ≤ zz) (Or.inr sz_b33) all0)
      have F40 : Str Z T37.heap b33 t37 ([p1, p2] : List Int32) := Str.mk FE37 FV37 FC37 FA37 (StrChars.Road.codOf (n := 2) rfl (fun x hx => ((own_two h1 h2) x hx).2)) (own_up _ (own_two h1 h2)) (Nat.le_of_ble_eq_true rfl)
      show Go p e below P (T37.setTop (mkF m 60 #[.val (.int p0), .val (.int p1), .val (.int p2), .val (.ref b27)] [(.ref b33)]))
      have F41 : Str Z T37.heap b33 t37 (mkL p0 p1 p2) := (by rw [mkL, if_neg hc1, if_neg hc17]; exact F40)
      subst hP
      refine Go.retRC X37 hx hS hk Bd.returns rfl rfl hlk (hb hby d2_60) (Nat.le_of_ble_eq_true rfl) (Nat.le_of_ble_eq_true rfl) ?_ (by rw [hh]; exact R37.trans (CHv.at X37 hZ (own_EW hw) C37))
      exact ⟨b33, t37, rfl, N37, K37, F41⟩
theorem d6_0 : decode method_4_code 0 = .ok (.iload_n 0, 1) := by decide +kernel
theorem d6_1 : decode method_4_code 1 = .ok (.ifCond .ne 6, 3) := by decide +kernel
theorem d6_4 : decode method_4_code 4 = .ok (.ldc 12, 2) := by decide +kernel
theorem d6_6 : decode method_4_code 6 = .ok (.areturn, 1) := by decide +kernel
theorem d6_7 : decode method_4_code 7 = .ok (.iload_n 0, 1) := by decide +kernel
theorem d6_8 : decode method_4_code 8 = .ok (.iconst 1, 1) := by decide +kernel
theorem d6_9 : decode method_4_code 9 = .ok (.if_icmp .ne 6, 3) := by decide +kernel
theorem d6_12 : decode method_4_code 12 = .ok (.ldc 14, 2) := by decide +kernel
theorem d6_14 : decode method_4_code 14 = .ok (.areturn, 1) := by decide +kernel
theorem d6_15 : decode method_4_code 15 = .ok (.iload_n 0, 1) := by decide +kernel
theorem d6_16 : decode method_4_code 16 = .ok (.iconst 2, 1) := by decide +kernel
theorem d6_17 : decode method_4_code 17 = .ok (.if_icmp .ne 6, 3) := by decide +kernel
theorem d6_20 : decode method_4_code 20 = .ok (.ldc 16, 2) := by decide +kernel
theorem d6_22 : decode method_4_code 22 = .ok (.areturn, 1) := by decide +kernel
theorem d6_23 : decode method_4_code 23 = .ok (.iload_n 0, 1) := by decide +kernel
theorem d6_24 : decode method_4_code 24 = .ok (.iconst 3, 1) := by decide +kernel
theorem d6_25 : decode method_4_code 25 = .ok (.if_icmp .ne 6, 3) := by decide +kernel
theorem d6_28 : decode method_4_code 28 = .ok (.ldc 18, 2) := by decide +kernel
theorem d6_30 : decode method_4_code 30 = .ok (.areturn, 1) := by decide +kernel
theorem d6_31 : decode method_4_code 31 = .ok (.iload_n 1, 1) := by decide +kernel
theorem d6_32 : decode method_4_code 32 = .ok (.iload_n 2, 1) := by decide +kernel
theorem d6_33 : decode method_4_code 33 = .ok (.iload_n 3, 1) := by decide +kernel
theorem d6_34 : decode method_4_code 34 = .ok (.invokestatic 20, 3) := by decide +kernel
theorem d6_37 : decode method_4_code 37 = .ok (.areturn, 1) := by decide +kernel
theorem ef_pkg (m : MethodId) (x0 : Int32) (x1 : Int32) (x2 : Int32) (x3 : Int32) : entryFrame m #[(.int x0), (.int x1), (.int x2), (.int x3)] 4 = mkF m 0 #[.val (.int x0), .val (.int x1), .val (.int x2), .val (.int x3)] [] := by first | (simp [entryFrame, mkF, argsToLocals, Value.category]; done) | rfl
def Q_pkg (Z : State) (zC : Int32) (p0 : Int32) (p1 : Int32) (p2 : Int32) (p3 : Int32) (h0 : Heap) (n0 : Nat) (v : Option Value) (h : Heap) (L : List Loc) : Prop := ∃ (r : Addr), ∃ (t : Addr), v = some (.ref r) ∧ Fr n0 L ∧ Keep h0 h [] ∧ Str Z h r t (pkL p0 p1 p2 p3)
set_option maxRecDepth 65536 in
set_option maxHeartbeats 40000000 in
theorem rm_pkg (l : Launch) (Z : State) (a0 : Array Value) (hw : ∀ d ∈ tables_1, d.before a0 Z = true) (ws : List Jvm.Cond) (zC : Int32) (hG : Glob Z zC) (p0 : Int32) (p1 : Int32) (p2 : Int32) (p3 : Int32) (h0 : Heap) (n0 : Nat) (Z0 : n0 ≤ h0.size) (O0 : Old Z n0 h0) (h2 : ¬ p2 < 0 ∧ ¬ (255 : Int32) < p2) (h3 : ¬ p3 < 0 ∧ ¬ (255 : Int32) < p3) :
    MetFree l (⟨"com/example/gather_solvers/gathersolvers/model/SolverFunctionMatchesPinLaw", "pkg", "(IIII)Ljava/lang/String;"⟩ : MethodName) (head1 (Jvm.Cond.code (⟨"com/example/gather_solvers/gathersolvers/model/SolverFunctionMatchesPinLaw", "pkg", "(IIII)Ljava/lang/String;"⟩ : MethodName) method_4_code 4 (some (.object "java/lang/String")) :: ws) ({ frames := 5, cells := 6, slots := 36, locals := 81 } : Room)) (fun a U => a = #[(.int p0), (.int p1), (.int p2), (.int p3)] ∧ Z.Warmed39 U.vm ∧ U.heap = h0 ∧ CHv Z consts_1 U.vm h0) (fun _ _ _ _ _ => True) (fun _ U o U' => ∃ v L, o = .returned v ∧ Q_pkg Z zC p0 p1 p2 p3 h0 n0 v U'.heap L ∧ CHr Z consts_1 U.vm U.heap U'.vm U'.heap ∧ ReturnedEndW U o U' L ({ frames := 5, cells := 6, slots := 36, locals := 81 } : Room).cells ({ frames := 5, cells := 6, slots := 36, locals := 81 } : Room).slots) := by
  refine MetFree.of_bodySF (plainFor_of_name pn_1) hisR ?_
  intro p e s m args below meth c s₁ Bd hml0 hP hK
  obtain ⟨rfl, hZ, hh, C0⟩ := hP
  have hx := Bd.exec
  have hby := Bd.bytes
  have hml : c.maxLocals = 4 := hml0
  have hown : s.vm.findClass "com/example/gather_solvers/gathersolvers/model/SolverFunctionMatchesPinLaw" = some m.cls := findClass_of_methodNamed Bd.named
  have hnm := (name_of_methodNamed Bd.named Bd.method).1
  have hlk : meth.locks = false := BodyLoose.notSynchronized Bd
  have X0 : Stand p l e ({ frames := 5, cells := 6, slots := 36, locals := 81 } : Room) (s.setVm s.vm) m #[(.int p0), (.int p1), (.int p2), (.int p3)] below meth c s₁ [] 0 0 := Stand.of_body Bd
  have e0 : s₁.heap = h0 := by rw [← hh, Bd.state]; rfl
  have N0 := Fr.nil n0
  obtain ⟨G0, own_cs⟩ := id hG
  have hS : s.Since s.vm 0 := (State.WarmedH.refl s).since 0
  have hk : 0 ≤ h0.size := Nat.zero_le _
  have R0 : CHr Z consts_1 s.vm h0 s.vm h0 := CHr.refl C0
  show Go p e below (EndC Z consts_1 s (Q_pkg Z zC p0 p1 p2 p3 h0 n0) ({ frames := 5, cells := 6, slots := 36, locals := 81 } : Room).cells ({ frames := 5, cells := 6, slots := 36, locals := 81 } : Room).slots) (s₁.setTop (entryFrame m #[(.int p0), (.int p1), (.int p2), (.int p3)] 4))
  rw [ef_pkg]
  generalize hP : EndC Z consts_1 s (Q_pkg Z zC p0 p1 p2 p3 h0 n0) ({ frames := 5, cells := 6, slots := 36, locals := 81 } : Room).cells ({ frames := 5, cells := 6, slots := 36, locals := 81 } : Room).slots = P
  show Go p e below P (s₁.setTop (mkF m 0 #[.val (.int p0), .val (.int p1), .val (.int p2), .val (.int p3)] []))
  refine Go.by (fun _ => XS.iloadN X0.here hx rfl (hb hby d6_0) rfl) ?_
  show Go p e below P (s₁.setTop (mkF m 1 #[.val (.int p0), .val (.int p1), .val (.int p2), .val (.int p3)] [(.int p0)]))
  by_cases hc1 : p0 = (0 : Int32)
  · refine Go.by (fun _ => XS.ifNo X0.here hx rfl (hb hby d6_1) rfl ((if0 _ _).trans (teq hc1).2)) ?_
    show Go p e below P (s₁.setTop (mkF m 4 #[.val (.int p0), .val (.int p1), .val (.int p2), .val (.int p3)] []))
    have hZo := hZ
    obtain ⟨ls1, T1, h1, k1, lb1, kk1, X1, e1, E1, hS, hk, hZ, hown, FE1, FC1, FV1, FA1, -, -, Cr1, Li1, Sn1, st1⟩ := ldcCH X0 hx hZ hown (hw _ (List.mem_of_getElem? (i := 75) rfl)) (own_wS hw) e0 hS hk (own_EW hw) (List.mem_of_getElem? (i := 1) rfl) C0 (vs := [(.int (100 : Int32)), (.int (101 : Int32)), (.int (102 : Int32)), (.int (97 : Int32)), (.int (117 : Int32)), (.int (108 : Int32)), (.int (116 : Int32))]) (z := (7 : Int32)) ⟨by decide, rfl⟩ (by decide) rfl (g := (mkF m 4 #[.val (.int p0), .val (.int p1), .val (.int p2), .val (.int p3)] [])) rfl (hb hby d6_4) (n := 28) (Nat.le_of_ble_eq_true rfl) (Nat.le_of_ble_eq_true rfl) (Nat.le_of_ble_eq_true rfl) (Nat.le_of_ble_eq_true rfl)
    refine Go.by (fun _ => st1 _) ?_
    have R1 := R0.trans Cr1
    have C1 := Cr1.1
    have O1 := O0.ext E1
    have Z1 : n0 ≤ h1.size := Nat.le_trans Z0 E1.1
    have K1 : Keep h0 h1 [] := (Keep.refl h0 []).ext E1
    have F2 : Str Z h1 ls1 lb1 ([(100 : Int32), (101 : Int32), (102 : Int32), (97 : Int32), (117 : Int32), (108 : Int32), (116 : Int32)] : List Int32) := Str.mk FE1 FV1 FC1 FA1 (Or.inl ⟨rfl, rfl, rfl, by decide⟩) (by decide) (Nat.le_of_ble_eq_true rfl)
    show Go p e below P (T1.setTop (mkF m 6 #[.val (.int p0), .val (.int p1), .val (.int p2), .val (.int p3)] [(.ref ls1)]))
    have F3 : Str Z h1 ls1 lb1 (pkL p0 p1 p2 p3) := (by rw [pkL, if_pos hc1]; exact F2)
    subst hP
    refine Go.retRC X1 hx hS (by rw [e1]; exact hk) Bd.returns rfl rfl hlk (hb hby d6_6) (Nat.le_of_ble_eq_true rfl) (Nat.le_of_ble_eq_true rfl) ?_ (by rw [hh, e1]; exact R1.trans (CHv.at X1 hZ (own_EW hw) C1))
    rw [e1]
    exact ⟨ls1, lb1, rfl, N0, K1, F3⟩
  · refine Go.by (fun _ => XS.ifYes X0.here hx rfl (pc0 := 1) (pc' := 7) rfl (hb hby d6_1) rfl ((if0 _ _).trans (feq hc1).2) (by decide) (by decide)) ?_
    show Go p e below P (s₁.setTop (mkF m 7 #[.val (.int p0), .val (.int p1), .val (.int p2), .val (.int p3)] []))
    refine Go.by (fun _ => XS.iloadN X0.here hx rfl (hb hby d6_7) rfl) ?_
    show Go p e below P (s₁.setTop (mkF m 8 #[.val (.int p0), .val (.int p1), .val (.int p2), .val (.int p3)] [(.int p0)]))
    refine Go.by (fun _ => XS.iconst X0.here hx rfl (hb hby d6_8)) ?_
    show Go p e below P (s₁.setTop (mkF m 9 #[.val (.int p0), .val (.int p1), .val (.int p2), .val (.int p3)] [(.int (1 : Int32)), (.int p0)]))
    by_cases hc9 : p0 = (1 : Int32)
    · refine Go.by (fun _ => XS.icmpNo X0.here hx rfl (hb hby d6_9) rfl (teq hc9).2) ?_
      show Go p e below P (s₁.setTop (mkF m 12 #[.val (.int p0), .val (.int p1), .val (.int p2), .val (.int p3)] []))
      have hZo := hZ
      obtain ⟨ls4, T4, h4, k4, lb4, kk4, X4, e4, E4, hS, hk, hZ, hown, FE4, FC4, FV4, FA4, -, -, Cr4, Li4, Sn4, st4⟩ := ldcCH X0 hx hZ hown (hw _ (List.mem_of_getElem? (i := 33) rfl)) (own_wS hw) e0 hS hk (own_EW hw) (List.mem_of_getElem? (i := 2) rfl) C0 (vs := [(.int (68 : Int32)), (.int (101 : Int32)), (.int (102 : Int32)), (.int (97 : Int32)), (.int (117 : Int32)), (.int (108 : Int32)), (.int (116 : Int32))]) (z := (7 : Int32)) ⟨by decide, rfl⟩ (by decide) rfl (g := (mkF m 12 #[.val (.int p0), .val (.int p1), .val (.int p2), .val (.int p3)] [])) rfl (hb hby d6_12) (n := 28) (Nat.le_of_ble_eq_true rfl) (Nat.le_of_ble_eq_true rfl) (Nat.le_of_ble_eq_true rfl) (Nat.le_of_ble_eq_true rfl)
      refine Go.by (fun _ => st4 _) ?_
      have R4 := R0.trans Cr4
      have C4 := Cr4.1
      have O4 := O0.ext E4
      have Z4 : n0 ≤ h4.size := Nat.le_trans Z0 E4.1
      have K4 : Keep h0 h4 [] := (Keep.refl h0 []).ext E4
      have F5 : Str Z h4 ls4 lb4 ([(68 : Int32), (101 : Int32), (102 : Int32), (97 : Int32), (117 : Int32), (108 : Int32), (116 : Int32)] : List Int32) := Str.mk FE4 FV4 FC4 FA4 (Or.inl ⟨rfl, rfl, rfl, by decide⟩) (by decide) (Nat.le_of_ble_eq_true rfl)
      show Go p e below P (T4.setTop (mkF m 14 #[.val (.int p0), .val (.int p1), .val (.int p2), .val (.int p3)] [(.ref ls4)]))
      have F6 : Str Z h4 ls4 lb4 (pkL p0 p1 p2 p3) := (by rw [pkL, if_neg hc1, if_pos hc9]; exact F5)
      subst hP
      refine Go.retRC X4 hx hS (by rw [e4]; exact hk) Bd.returns rfl rfl hlk (hb hby d6_14) (Nat.le_of_ble_eq_true rfl) (Nat.le_of_ble_eq_true rfl) ?_ (by rw [hh, e4]; exact R4.trans (CHv.at X4 hZ (own_EW hw) C4))
      rw [e4]
      exact ⟨ls4, lb4, rfl, N0, K4, F6⟩
    · refine Go.by (fun _ => XS.icmpYes X0.here hx rfl (pc0 := 9) (pc' := 15) rfl (hb hby d6_9) rfl (feq hc9).2 (by decide) (by decide)) ?_
      show Go p e below P (s₁.setTop (mkF m 15 #[.val (.int p0), .val (.int p1), .val (.int p2), .val (.int p3)] []))
      refine Go.by (fun _ => XS.iloadN X0.here hx rfl (hb hby d6_15) rfl) ?_
      show Go p e below P (s₁.setTop (mkF m 16 #[.val (.int p0), .val (.int p1), .val (.int p2), .val (.int p3)] [(.int p0)]))
      refine Go.by (fun _ => XS.iconst X0.here hx rfl (hb hby d6_16)) ?_
      show Go p e below P (s₁.setTop (mkF m 17 #[.val (.int p0), .val (.int p1), .val (.int p2), .val (.int p3)] [(.int (2 : Int32)), (.int p0)]))
      by_cases hc17 : p0 = (2 : Int32)
      · refine Go.by (fun _ => XS.icmpNo X0.here hx rfl (hb hby d6_17) rfl (teq hc17).2) ?_
        show Go p e below P (s₁.setTop (mkF m 20 #[.val (.int p0), .val (.int p1), .val (.int p2), .val (.int p3)] []))
        have hZo := hZ
        obtain ⟨ls7, T7, h7, k7, lb7, kk7, X7, e7, E7, hS, hk, hZ, hown, FE7, FC7, FV7, FA7, -, -, Cr7, Li7, Sn7, st7⟩ := ldcCH X0 hx hZ hown (hw _ (List.mem_of_getElem? (i := 32) rfl)) (own_wS hw) e0 hS hk (own_EW hw) (List.mem_of_getElem? (i := 3) rfl) C0 (vs := [(.int (100 : Int32)), (.int (101 : Int32)), (.int (102 : Int32)), (.int (97 : Int32)), (.int (117 : Int32)), (.int (108 : Int32))]) (z := (6 : Int32)) ⟨by decide, rfl⟩ (by decide) rfl (g := (mkF m 20 #[.val (.int p0), .val (.int p1), .val (.int p2), .val (.int p3)] [])) rfl (hb hby d6_20) (n := 24) (Nat.le_of_ble_eq_true rfl) (Nat.le_of_ble_eq_true rfl) (Nat.le_of_ble_eq_true rfl) (Nat.le_of_ble_eq_true rfl)
        refine Go.by (fun _ => st7 _) ?_
        have R7 := R0.trans Cr7
        have C7 := Cr7.1
        have O7 := O0.ext E7
        have Z7 : n0 ≤ h7.size := Nat.le_trans Z0 E7.1
        have K7 : Keep h0 h7 [] := (Keep.refl h0 []).ext E7
        have F8 : Str Z h7 ls7 lb7 ([(100 : Int32), (101 : Int32), (102 : Int32), (97 : Int32), (117 : Int32), (108 : Int32)] : List Int32) := Str.mk FE7 FV7 FC7 FA7 (Or.inl ⟨rfl, rfl, rfl, by decide⟩) (by decide) (Nat.le_of_ble_eq_true rfl)
        show Go p e below P (T7.setTop (mkF m 22 #[.val (.int p0), .val (.int p1), .val (.int p2), .val (.int p3)] [(.ref ls7)]))
        have F9 : Str Z h7 ls7 lb7 (pkL p0 p1 p2 p3) := (by rw [pkL, if_neg hc1, if_neg hc9, if_pos hc17]; exact F8)
        subst hP
        refine Go.retRC X7 hx hS (by rw [e7]; exact hk) Bd.returns rfl rfl hlk (hb hby d6_22) (Nat.le_of_ble_eq_true rfl) (Nat.le_of_ble_eq_true rfl) ?_ (by rw [hh, e7]; exact R7.trans (CHv.at X7 hZ (own_EW hw) C7))
        rw [e7]
        exact ⟨ls7, lb7, rfl, N0, K7, F9⟩
      · refine Go.by (fun _ => XS.icmpYes X0.here hx rfl (pc0 := 17) (pc' := 23) rfl (hb hby d6_17) rfl (feq hc17).2 (by decide) (by decide)) ?_
        show Go p e below P (s₁.setTop (mkF m 23 #[.val (.int p0), .val (.int p1), .val (.int p2), .val (.int p3)] []))
        refine Go.by (fun _ => XS.iloadN X0.here hx rfl (hb hby d6_23) rfl) ?_
        show Go p e below P (s₁.setTop (mkF m 24 #[.val (.int p0), .val (.int p1), .val (.int p2), .val (.int p3)] [(.int p0)]))
        refine Go.by (fun _ => XS.iconst X0.here hx rfl (hb hby d6_24)) ?_
        show Go p e below P (s₁.setTop (mkF m 25 #[.val (.int p0), .val (.int p1), .val (.int p2), .val (.int p3)] [(.int (3 : Int32)), (.int p0)]))
        by_cases hc25 : p0 = (3 : Int32)
        · refine Go.by (fun _ => XS.icmpNo X0.here hx rfl (hb hby d6_25) rfl (teq hc25).2) ?_
          show Go p e below P (s₁.setTop (mkF m 28 #[.val (.int p0), .val (.int p1), .val (.int p2), .val (.int p3)] []))
          have hZo := hZ
          obtain ⟨ls10, T10, h10, k10, lb10, kk10, X10, e10, E10, hS, hk, hZ, hown, FE10, FC10, FV10, FA10, -, -, Cr10, Li10, Sn10, st10⟩ := ldcCH X0 hx hZ hown (hw _ (List.mem_of_getElem? (i := 86) rfl)) (own_wS hw) e0 hS hk (own_EW hw) (List.mem_of_getElem? (i := 4) rfl) C0 (vs := [(.int (100 : Int32)), (.int (101 : Int32)), (.int (102 : Int32)), (.int (97 : Int32)), (.int (117 : Int32)), (.int (108 : Int32)), (.int (116 : Int32)), (.int (115 : Int32))]) (z := (8 : Int32)) ⟨by decide, rfl⟩ (by decide) rfl (g := (mkF m 28 #[.val (.int p0), .val (.int p1), .val (.int p2), .val (.int p3)] [])) rfl (hb hby d6_28) (n := 32) (Nat.le_of_ble_eq_true rfl) (Nat.le_of_ble_eq_true rfl) (Nat.le_of_ble_eq_true rfl) (Nat.le_of_ble_eq_true rfl)
          refine Go.by (fun _ => st10 _) ?_
          have R10 := R0.trans Cr10
          have C10 := Cr10.1
          have O10 := O0.ext E10
          have Z10 : n0 ≤ h10.size := Nat.le_trans Z0 E10.1
          have K10 : Keep h0 h10 [] := (Keep.refl h0 []).ext E10
          have F11 : Str Z h10 ls10 lb10 ([(100 : Int32), (101 : Int32), (102 : Int32), (97 : Int32), (117 : Int32), (108 : Int32), (116 : Int32), (115 : Int32)] : List Int32) := Str.mk FE10 FV10 FC10 FA10 (Or.inl ⟨rfl, rfl, rfl, by decide⟩) (by decide) (Nat.le_of_ble_eq_true rfl)
          show Go p e below P (T10.setTop (mkF m 30 #[.val (.int p0), .val (.int p1), .val (.int p2), .val (.int p3)] [(.ref ls10)]))
          have F12 : Str Z h10 ls10 lb10 (pkL p0 p1 p2 p3) := (by rw [pkL, if_neg hc1, if_neg hc9, if_neg hc17, if_pos hc25]; exact F11)
          subst hP
          refine Go.retRC X10 hx hS (by rw [e10]; exact hk) Bd.returns rfl rfl hlk (hb hby d6_30) (Nat.le_of_ble_eq_true rfl) (Nat.le_of_ble_eq_true rfl) ?_ (by rw [hh, e10]; exact R10.trans (CHv.at X10 hZ (own_EW hw) C10))
          rw [e10]
          exact ⟨ls10, lb10, rfl, N0, K10, F12⟩
        · refine Go.by (fun _ => XS.icmpYes X0.here hx rfl (pc0 := 25) (pc' := 31) rfl (hb hby d6_25) rfl (feq hc25).2 (by decide) (by decide)) ?_
          show Go p e below P (s₁.setTop (mkF m 31 #[.val (.int p0), .val (.int p1), .val (.int p2), .val (.int p3)] []))
          refine Go.by (fun _ => XS.iloadN X0.here hx rfl (hb hby d6_31) rfl) ?_
          show Go p e below P (s₁.setTop (mkF m 32 #[.val (.int p0), .val (.int p1), .val (.int p2), .val (.int p3)] [(.int p1)]))
          refine Go.by (fun _ => XS.iloadN X0.here hx rfl (hb hby d6_32) rfl) ?_
          show Go p e below P (s₁.setTop (mkF m 33 #[.val (.int p0), .val (.int p1), .val (.int p2), .val (.int p3)] [(.int p2), (.int p1)]))
          refine Go.by (fun _ => XS.iloadN X0.here hx rfl (hb hby d6_33) rfl) ?_
          show Go p e below P (s₁.setTop (mkF m 34 #[.val (.int p0), .val (.int p1), .val (.int p2), .val (.int p3)] [(.int p3), (.int p2), (.int p1)]))
          obtain ⟨_, _, ⟨T13, L13, k13, n13⟩, -, X13, hSc13, hgr13, ⟨Lc13, hQ13, l13, y13, z13, Cr13⟩, st13⟩ := callSS X0 hx (y := (⟨"com/example/gather_solvers/gathersolvers/model/SolverFunctionMatchesPinLaw", "str", "(III)Ljava/lang/String;"⟩ : MethodName)) hown (mvT hZ (hw _ (List.mem_of_getElem? (i := 4) rfl))) (mvT hZ (hw _ (List.mem_of_getElem? (i := 5) rfl))) (mvT hZ (hw _ (List.mem_of_getElem? (i := 2) rfl))) (mvT hZ (hw _ (List.mem_of_getElem? (i := 6) rfl))) (by decide) (backOfSH (W := 0) (rm_str l Z a0 hw [] zC hG p1 p2 p3 h0 n0 Z0 O0  h2 h3) hZ (hw _ (List.mem_of_getElem? (i := 6) rfl)) (hw _ (List.mem_of_getElem? (i := 2) rfl)) (Nat.le_of_ble_eq_true rfl) (Nat.le_of_ble_eq_true rfl) (own_EW hw) C0) (g := (mkF m 34 #[.val (.int p0), .val (.int p1), .val (.int p2), .val (.int p3)] [(.int p3), (.int p2), (.int p1)])) rfl (by rw [hml]; rfl) (argsL := [(.int p1), (.int p2), (.int p3)]) (rest := []) (lenOf pd_2 rfl) rfl (by show 2 * 0 + _ ≤ _; exact Nat.le_of_eq rfl) (hb hby d6_34) (fun _ _ => ⟨rfl, e0, (Nat.le_of_ble_eq_true rfl : 0 + 6 ≤ _), (Nat.le_of_ble_eq_true rfl : 0 + 12 ≤ _)⟩)
          dsimp only [Pt.U, Pt.locs, Pt.cells, Pt.slots] at X13 l13 y13 z13 st13 hQ13 hSc13 hgr13 Cr13
          subst l13 y13 z13
          have hZo := hZ
          obtain ⟨X13, hS, hZ, hown⟩ := rebS hS (by rw [e0]; exact hk) X13 hSc13 hgr13 hZ hown
          have hk : T13.heap.size ≤ T13.heap.size := Nat.le_refl _
          have R13 := R0.trans Cr13
          have C13 := Cr13.1
          obtain ⟨r_13, t_13, rfl, Nq13, Kc13, F14⟩ := hQ13
          have N13 := Fr.app N0 Nq13
          refine Go.by (fun _ k => st13.trans k) ?_
          have O13 := O0.keep Kc13 all0
          have Z13 : n0 ≤ T13.heap.size := Nat.le_trans Z0 Kc13.1
          have K13 : Keep h0 T13.heap [] := (Keep.refl h0 []).trans Kc13 (fun _ q => nomatch q)
          show Go p e below P (T13.setTop (mkF m 37 #[.val (.int p0), .val (.int p1), .val (.int p2), .val (.int p3)] [(.ref r_13)]))
          have F15 : Str Z T13.heap r_13 t_13 (pkL p0 p1 p2 p3) := (by rw [pkL, if_neg hc1, if_neg hc9, if_neg hc17, if_neg hc25]; exact F14)
          subst hP
          refine Go.retRC X13 hx hS hk Bd.returns rfl rfl hlk (hb hby d6_37) (Nat.le_of_ble_eq_true rfl) (Nat.le_of_ble_eq_true rfl) ?_ (by rw [hh]; exact R13.trans (CHv.at X13 hZ (own_EW hw) C13))
          exact ⟨r_13, t_13, rfl, N13, K13, F15⟩
theorem d1_0 : decode method_2_code 0 = .ok (.iload_n 0, 1) := by decide +kernel
theorem d1_1 : decode method_2_code 1 = .ok (.iconst 3, 1) := by decide +kernel
theorem d1_2 : decode method_2_code 2 = .ok (.iand, 1) := by decide +kernel
theorem d1_3 : decode method_2_code 3 = .ok (.istore_n 1, 1) := by decide +kernel
theorem d1_4 : decode method_2_code 4 = .ok (.iload_n 1, 1) := by decide +kernel
theorem d1_5 : decode method_2_code 5 = .ok (.iconst 3, 1) := by decide +kernel
theorem d1_6 : decode method_2_code 6 = .ok (.if_icmp .ne 7, 3) := by decide +kernel
theorem d1_9 : decode method_2_code 9 = .ok (.iconst 2, 1) := by decide +kernel
theorem d1_10 : decode method_2_code 10 = .ok (.goto 4, 3) := by decide +kernel
theorem d1_13 : decode method_2_code 13 = .ok (.iload_n 1, 1) := by decide +kernel
theorem d1_14 : decode method_2_code 14 = .ok (.ireturn, 1) := by decide +kernel
theorem ef_len (m : MethodId) (x0 : Int32) : entryFrame m #[(.int x0)] 2 = mkF m 0 #[.val (.int x0), .unset] [] := by first | (simp [entryFrame, mkF, argsToLocals, Value.category]; done) | rfl
def Q_len (Z : State) (zC : Int32) (p0 : Int32) (h0 : Heap) (n0 : Nat) (v : Option Value) (h : Heap) (L : List Loc) : Prop := ∃ (r : Int32), v = some (.int r) ∧ Fr n0 L ∧ h = h0 ∧ 0 ≤ r.toInt ∧ r.toInt < 3
set_option maxRecDepth 65536 in
set_option maxHeartbeats 40000000 in
theorem rm_len (l : Launch) (Z : State) (a0 : Array Value) (hw : ∀ d ∈ tables_1, d.before a0 Z = true) (ws : List Jvm.Cond) (zC : Int32) (hG : Glob Z zC) (p0 : Int32) (h0 : Heap) (n0 : Nat) (Z0 : n0 ≤ h0.size) (O0 : Old Z n0 h0) :
    MetFree l (⟨"com/example/gather_solvers/gathersolvers/model/SolverFunctionMatchesPinLaw", "lenOf", "(I)I"⟩ : MethodName) (head1 (Jvm.Cond.code (⟨"com/example/gather_solvers/gathersolvers/model/SolverFunctionMatchesPinLaw", "lenOf", "(I)I"⟩ : MethodName) method_2_code 2 (some .int) :: ws) ({ frames := 0, cells := 0, slots := 0, locals := 0 } : Room)) (fun a U => a = #[(.int p0)] ∧ Z.Warmed39 U.vm ∧ U.heap = h0) (fun _ _ _ _ _ => True) (fun _ U o U' => ∃ v L, o = .returned v ∧ Q_len Z zC p0 h0 n0 v U'.heap L ∧ FrameEnd U o U' L ({ frames := 0, cells := 0, slots := 0, locals := 0 } : Room).cells ({ frames := 0, cells := 0, slots := 0, locals := 0 } : Room).slots) := by
  refine MetFree.of_bodySF (plainFor_of_name pn_1) hisR ?_
  intro p e s m args below meth c s₁ Bd hml0 hP hK
  obtain ⟨rfl, hZ, hh⟩ := hP
  have hx := Bd.exec
  have hby := Bd.bytes
  have hml : c.maxLocals = 2 := hml0
  have hown : s.vm.findClass "com/example/gather_solvers/gathersolvers/model/SolverFunctionMatchesPinLaw" = some m.cls := findClass_of_methodNamed Bd.named
  have hnm := (name_of_methodNamed Bd.named Bd.method).1
  have hlk : meth.locks = false := BodyLoose.notSynchronized Bd
  have X0 : Stand p l e ({ frames := 0, cells := 0, slots := 0, locals := 0 } : Room) s m #[(.int p0)] below meth c s₁ [] 0 0 := Stand.of_body Bd
  have e0 : s₁.heap = h0 := by rw [← hh, Bd.state]; rfl
  have N0 := Fr.nil n0
  obtain ⟨G0, own_cs⟩ := id hG
  show Go p e below (End s (Q_len Z zC p0 h0 n0) ({ frames := 0, cells := 0, slots := 0, locals := 0 } : Room).cells ({ frames := 0, cells := 0, slots := 0, locals := 0 } : Room).slots) (s₁.setTop (entryFrame m #[(.int p0)] 2))
  rw [ef_len]
  generalize hP : End s (Q_len Z zC p0 h0 n0) ({ frames := 0, cells := 0, slots := 0, locals := 0 } : Room).cells ({ frames := 0, cells := 0, slots := 0, locals := 0 } : Room).slots = P
  show Go p e below P (s₁.setTop (mkF m 0 #[.val (.int p0), .unset] []))
  refine Go.by (fun _ => XS.iloadN X0.here hx rfl (hb hby d1_0) rfl) ?_
  show Go p e below P (s₁.setTop (mkF m 1 #[.val (.int p0), .unset] [(.int p0)]))
  refine Go.by (fun _ => XS.iconst X0.here hx rfl (hb hby d1_1)) ?_
  show Go p e below P (s₁.setTop (mkF m 2 #[.val (.int p0), .unset] [(.int (3 : Int32)), (.int p0)]))
  refine Go.by (fun _ => XS.iand X0.here hx rfl (hb hby d1_2) rfl) ?_
  show Go p e below P (s₁.setTop (mkF m 3 #[.val (.int p0), .unset] [(.int (p0 &&& (3 : Int32)))]))
  generalize hv_l : (p0 &&& (3 : Int32)) = l
  refine Go.by (fun _ => XS.istoreN X0.here hx rfl (hb hby d1_3) rfl (l' := #[.val (.int p0), .val (.int l)]) rfl) ?_
  show Go p e below P (s₁.setTop (mkF m 4 #[.val (.int p0), .val (.int l)] []))
  refine Go.by (fun _ => XS.iloadN X0.here hx rfl (hb hby d1_4) rfl) ?_
  show Go p e below P (s₁.setTop (mkF m 5 #[.val (.int p0), .val (.int l)] [(.int l)]))
  refine Go.by (fun _ => XS.iconst X0.here hx rfl (hb hby d1_5)) ?_
  show Go p e below P (s₁.setTop (mkF m 6 #[.val (.int p0), .val (.int l)] [(.int (3 : Int32)), (.int l)]))
  by_cases hc6 : l = (3 : Int32)
  · refine Go.by (fun _ => XS.icmpNo X0.here hx rfl (hb hby d1_6) rfl (teq hc6).2) ?_
    show Go p e below P (s₁.setTop (mkF m 9 #[.val (.int p0), .val (.int l)] []))
    refine Go.by (fun _ => XS.iconst X0.here hx rfl (hb hby d1_9)) ?_
    show Go p e below P (s₁.setTop (mkF m 10 #[.val (.int p0), .val (.int l)] [(.int (2 : Int32))]))
    refine Go.by (fun _ => XS.goto X0.here hx rfl (pc0 := 10) (pc' := 14) rfl (hb hby d1_10) (by decide) (by decide)) ?_
    show Go p e below P (s₁.setTop (mkF m 14 #[.val (.int p0), .val (.int l)] [(.int (2 : Int32))]))
    subst hP
    refine Go.retI X0 hx Bd.returns hlk (hb hby d1_14) (Nat.le_of_ble_eq_true rfl) (Nat.le_of_ble_eq_true rfl) ?_
    rw [e0]
    exact ⟨_, rfl, N0, rfl, own_len p0 l hv_l (Or.inl rfl)⟩
  · refine Go.by (fun _ => XS.icmpYes X0.here hx rfl (pc0 := 6) (pc' := 13) rfl (hb hby d1_6) rfl (feq hc6).2 (by decide) (by decide)) ?_
    show Go p e below P (s₁.setTop (mkF m 13 #[.val (.int p0), .val (.int l)] []))
    refine Go.by (fun _ => XS.iloadN X0.here hx rfl (hb hby d1_13) rfl) ?_
    show Go p e below P (s₁.setTop (mkF m 14 #[.val (.int p0), .val (.int l)] [(.int l)]))
    subst hP
    refine Go.retI X0 hx Bd.returns hlk (hb hby d1_14) (Nat.le_of_ble_eq_true rfl) (Nat.le_of_ble_eq_true rfl) ?_
    rw [e0]
    exact ⟨_, rfl, N0, rfl, own_len p0 l hv_l (Or.inr ⟨rfl, hc6⟩)⟩
theorem d7_0 : decode method_5_code 0 = .ok (.iload_n 0, 1) := by decide +kernel
theorem d7_1 : decode method_5_code 1 = .ok (.iload_n 3, 1) := by decide +kernel
theorem d7_2 : decode method_5_code 2 = .ok (.if_icmp .ne 29, 3) := by decide +kernel
theorem d7_5 : decode method_5_code 5 = .ok (.iload_n 0, 1) := by decide +kernel
theorem d7_6 : decode method_5_code 6 = .ok (.iconst 1, 1) := by decide +kernel
theorem d7_7 : decode method_5_code 7 = .ok (.if_icmp .lt 9, 3) := by decide +kernel
theorem d7_10 : decode method_5_code 10 = .ok (.iload_n 1, 1) := by decide +kernel
theorem d7_11 : decode method_5_code 11 = .ok (.iload 4, 2) := by decide +kernel
theorem d7_13 : decode method_5_code 13 = .ok (.if_icmp .ne 18, 3) := by decide +kernel
theorem d7_16 : decode method_5_code 16 = .ok (.iload_n 0, 1) := by decide +kernel
theorem d7_17 : decode method_5_code 17 = .ok (.iconst 2, 1) := by decide +kernel
theorem d7_18 : decode method_5_code 18 = .ok (.if_icmp .lt 9, 3) := by decide +kernel
theorem d7_21 : decode method_5_code 21 = .ok (.iload_n 2, 1) := by decide +kernel
theorem d7_22 : decode method_5_code 22 = .ok (.iload 5, 2) := by decide +kernel
theorem d7_24 : decode method_5_code 24 = .ok (.if_icmp .ne 7, 3) := by decide +kernel
theorem d7_27 : decode method_5_code 27 = .ok (.iconst 1, 1) := by decide +kernel
theorem d7_28 : decode method_5_code 28 = .ok (.goto 4, 3) := by decide +kernel
theorem d7_31 : decode method_5_code 31 = .ok (.iconst 0, 1) := by decide +kernel
theorem d7_32 : decode method_5_code 32 = .ok (.ireturn, 1) := by decide +kernel
theorem ef_deq (m : MethodId) (x0 : Int32) (x1 : Int32) (x2 : Int32) (x3 : Int32) (x4 : Int32) (x5 : Int32) : entryFrame m #[(.int x0), (.int x1), (.int x2), (.int x3), (.int x4), (.int x5)] 6 = mkF m 0 #[.val (.int x0), .val (.int x1), .val (.int x2), .val (.int x3), .val (.int x4), .val (.int x5)] [] := by first | (simp [entryFrame, mkF, argsToLocals, Value.category]; done) | rfl
def Q_deq (Z : State) (zC : Int32) (p0 : Int32) (p1 : Int32) (p2 : Int32) (p3 : Int32) (p4 : Int32) (p5 : Int32) (r : Int32) (h0 : Heap) (n0 : Nat) (v : Option Value) (h : Heap) (L : List Loc) : Prop := v = some (.int r) ∧ Fr n0 L ∧ h = h0
set_option maxRecDepth 65536 in
set_option maxHeartbeats 40000000 in
theorem rm_deq (l : Launch) (Z : State) (a0 : Array Value) (hw : ∀ d ∈ tables_1, d.before a0 Z = true) (ws : List Jvm.Cond) (zC : Int32) (hG : Glob Z zC) (p0 : Int32) (p1 : Int32) (p2 : Int32) (p3 : Int32) (p4 : Int32) (p5 : Int32) (r : Int32) (h0 : Heap) (n0 : Nat) (Z0 : n0 ≤ h0.size) (O0 : Old Z n0 h0) (hr : r = if (p0 = p3 ∧ (p0 < 1 ∨ p1 = p4) ∧ (p0 < 2 ∨ p2 = p5)) then 1 else 0) :
    MetFree l (⟨"com/example/gather_solvers/gathersolvers/model/SolverFunctionMatchesPinLaw", "drawnEq", "(IIIIII)Z"⟩ : MethodName) (head1 (Jvm.Cond.code (⟨"com/example/gather_solvers/gathersolvers/model/SolverFunctionMatchesPinLaw", "drawnEq", "(IIIIII)Z"⟩ : MethodName) method_5_code 6 (some .boolean) :: ws) ({ frames := 0, cells := 0, slots := 0, locals := 0 } : Room)) (fun a U => a = #[(.int p0), (.int p1), (.int p2), (.int p3), (.int p4), (.int p5)] ∧ Z.Warmed39 U.vm ∧ U.heap = h0) (fun _ _ _ _ _ => True) (fun _ U o U' => ∃ v L, o = .returned v ∧ Q_deq Z zC p0 p1 p2 p3 p4 p5 r h0 n0 v U'.heap L ∧ FrameEnd U o U' L ({ frames := 0, cells := 0, slots := 0, locals := 0 } : Room).cells ({ frames := 0, cells := 0, slots := 0, locals := 0 } : Room).slots) := by
  refine MetFree.of_bodySF (plainFor_of_name pn_1) hisR ?_
  intro p e s m args below meth c s₁ Bd hml0 hP hK
  obtain ⟨rfl, hZ, hh⟩ := hP
  have hx := Bd.exec
  have hby := Bd.bytes
  have hml : c.maxLocals = 6 := hml0
  have hown : s.vm.findClass "com/example/gather_solvers/gathersolvers/model/SolverFunctionMatchesPinLaw" = some m.cls := findClass_of_methodNamed Bd.named
  have hnm := (name_of_methodNamed Bd.named Bd.method).1
  have hlk : meth.locks = false := BodyLoose.notSynchronized Bd
  have X0 : Stand p l e ({ frames := 0, cells := 0, slots := 0, locals := 0 } : Room) s m #[(.int p0), (.int p1), (.int p2), (.int p3), (.int p4), (.int p5)] below meth c s₁ [] 0 0 := Stand.of_body Bd
  have e0 : s₁.heap = h0 := by rw [← hh, Bd.state]; rfl
  have N0 := Fr.nil n0
  obtain ⟨G0, own_cs⟩ := id hG
  show Go p e below (End s (Q_deq Z zC p0 p1 p2 p3 p4 p5 r h0 n0) ({ frames := 0, cells := 0, slots := 0, locals := 0 } : Room).cells ({ frames := 0, cells := 0, slots := 0, locals := 0 } : Room).slots) (s₁.setTop (entryFrame m #[(.int p0), (.int p1), (.int p2), (.int p3), (.int p4), (.int p5)] 6))
  rw [ef_deq]
  generalize hP : End s (Q_deq Z zC p0 p1 p2 p3 p4 p5 r h0 n0) ({ frames := 0, cells := 0, slots := 0, locals := 0 } : Room).cells ({ frames := 0, cells := 0, slots := 0, locals := 0 } : Room).slots = P
  show Go p e below P (s₁.setTop (mkF m 0 #[.val (.int p0), .val (.int p1), .val (.int p2), .val (.int p3), .val (.int p4), .val (.int p5)] []))
  refine Go.by (fun _ => XS.iloadN X0.here hx rfl (hb hby d7_0) rfl) ?_
  show Go p e below P (s₁.setTop (mkF m 1 #[.val (.int p0), .val (.int p1), .val (.int p2), .val (.int p3), .val (.int p4), .val (.int p5)] [(.int p0)]))
  refine Go.by (fun _ => XS.iloadN X0.here hx rfl (hb hby d7_1) rfl) ?_
  show Go p e below P (s₁.setTop (mkF m 2 #[.val (.int p0), .val (.int p1), .val (.int p2), .val (.int p3), .val (.int p4), .val (.int p5)] [(.int p3), (.int p0)]))
  by_cases hc2 : p0 = p3
  · refine Go.by (fun _ => XS.icmpNo X0.here hx rfl (hb hby d7_2) rfl (teq hc2).2) ?_
    show Go p e below P (s₁.setTop (mkF m 5 #[.val (.int p0), .val (.int p1), .val (.int p2), .val (.int p3), .val (.int p4), .val (.int p5)] []))
    refine Go.by (fun _ => XS.iloadN X0.here hx rfl (hb hby d7_5) rfl) ?_
    show Go p e below P (s₁.setTop (mkF m 6 #[.val (.int p0), .val (.int p1), .val (.int p2), .val (.int p3), .val (.int p4), .val (.int p5)] [(.int p0)]))
    refine Go.by (fun _ => XS.iconst X0.here hx rfl (hb hby d7_6)) ?_
    show Go p e below P (s₁.setTop (mkF m 7 #[.val (.int p0), .val (.int p1), .val (.int p2), .val (.int p3), .val (.int p4), .val (.int p5)] [(.int (1 : Int32)), (.int p0)]))
    by_cases hc7 : p0 < (1 : Int32)
    · refine Go.by (fun _ => XS.icmpYes X0.here hx rfl (pc0 := 7) (pc' := 16) rfl (hb hby d7_7) rfl (tlt hc7).1 (by decide) (by decide)) ?_
      show Go p e below P (s₁.setTop (mkF m 16 #[.val (.int p0), .val (.int p1), .val (.int p2), .val (.int p3), .val (.int p4), .val (.int p5)] []))
      refine Go.by (fun _ => XS.iloadN X0.here hx rfl (hb hby d7_16) rfl) ?_
      show Go p e below P (s₁.setTop (mkF m 17 #[.val (.int p0), .val (.int p1), .val (.int p2), .val (.int p3), .val (.int p4), .val (.int p5)] [(.int p0)]))
      refine Go.by (fun _ => XS.iconst X0.here hx rfl (hb hby d7_17)) ?_
      show Go p e below P (s₁.setTop (mkF m 18 #[.val (.int p0), .val (.int p1), .val (.int p2), .val (.int p3), .val (.int p4), .val (.int p5)] [(.int (2 : Int32)), (.int p0)]))
      by_cases hc18 : p0 < (2 : Int32)
      · refine Go.by (fun _ => XS.icmpYes X0.here hx rfl (pc0 := 18) (pc' := 27) rfl (hb hby d7_18) rfl (tlt hc18).1 (by decide) (by decide)) ?_
        show Go p e below P (s₁.setTop (mkF m 27 #[.val (.int p0), .val (.int p1), .val (.int p2), .val (.int p3), .val (.int p4), .val (.int p5)] []))
        refine Go.by (fun _ => XS.iconst X0.here hx rfl (hb hby d7_27)) ?_
        show Go p e below P (s₁.setTop (mkF m 28 #[.val (.int p0), .val (.int p1), .val (.int p2), .val (.int p3), .val (.int p4), .val (.int p5)] [(.int (1 : Int32))]))
        refine Go.by (fun _ => XS.goto X0.here hx rfl (pc0 := 28) (pc' := 32) rfl (hb hby d7_28) (by decide) (by decide)) ?_
        show Go p e below P (s₁.setTop (mkF m 32 #[.val (.int p0), .val (.int p1), .val (.int p2), .val (.int p3), .val (.int p4), .val (.int p5)] [(.int (1 : Int32))]))
        subst hP
        refine Go.retZ X0 hx (t := .boolean) Bd.returns (by simp) hlk (hb hby d7_32) (Nat.le_of_ble_eq_true rfl) (Nat.le_of_ble_eq_true rfl) ?_
        rw [e0]
        exact ⟨by simp [hr, own_n1, own_n0, hc2.symm, hc7, hc18], N0, rfl⟩
      · refine Go.by (fun _ => XS.icmpNo X0.here hx rfl (hb hby d7_18) rfl (flt hc18).1) ?_
        show Go p e below P (s₁.setTop (mkF m 21 #[.val (.int p0), .val (.int p1), .val (.int p2), .val (.int p3), .val (.int p4), .val (.int p5)] []))
        refine Go.by (fun _ => XS.iloadN X0.here hx rfl (hb hby d7_21) rfl) ?_
        show Go p e below P (s₁.setTop (mkF m 22 #[.val (.int p0), .val (.int p1), .val (.int p2), .val (.int p3), .val (.int p4), .val (.int p5)] [(.int p2)]))
        refine Go.by (fun _ => XS.iload X0.here hx rfl (hb hby d7_22) rfl) ?_
        show Go p e below P (s₁.setTop (mkF m 24 #[.val (.int p0), .val (.int p1), .val (.int p2), .val (.int p3), .val (.int p4), .val (.int p5)] [(.int p5), (.int p2)]))
        by_cases hc24 : p2 = p5
        · refine Go.by (fun _ => XS.icmpNo X0.here hx rfl (hb hby d7_24) rfl (teq hc24).2) ?_
          show Go p e below P (s₁.setTop (mkF m 27 #[.val (.int p0), .val (.int p1), .val (.int p2), .val (.int p3), .val (.int p4), .val (.int p5)] []))
          refine Go.by (fun _ => XS.iconst X0.here hx rfl (hb hby d7_27)) ?_
          show Go p e below P (s₁.setTop (mkF m 28 #[.val (.int p0), .val (.int p1), .val (.int p2), .val (.int p3), .val (.int p4), .val (.int p5)] [(.int (1 : Int32))]))
          refine Go.by (fun _ => XS.goto X0.here hx rfl (pc0 := 28) (pc' := 32) rfl (hb hby d7_28) (by decide) (by decide)) ?_
          show Go p e below P (s₁.setTop (mkF m 32 #[.val (.int p0), .val (.int p1), .val (.int p2), .val (.int p3), .val (.int p4), .val (.int p5)] [(.int (1 : Int32))]))
          subst hP
          refine Go.retZ X0 hx (t := .boolean) Bd.returns (by simp) hlk (hb hby d7_32) (Nat.le_of_ble_eq_true rfl) (Nat.le_of_ble_eq_true rfl) ?_
          rw [e0]
          exact ⟨by simp [hr, own_n1, own_n0, hc2.symm, hc7, hc18, hc24], N0, rfl⟩
        · refine Go.by (fun _ => XS.icmpYes X0.here hx rfl (pc0 := 24) (pc' := 31) rfl (hb hby d7_24) rfl (feq hc24).2 (by decide) (by decide)) ?_
          show Go p e below P (s₁.setTop (mkF m 31 #[.val (.int p0), .val (.int p1), .val (.int p2), .val (.int p3), .val (.int p4), .val (.int p5)] []))
          refine Go.by (fun _ => XS.iconst X0.here hx rfl (hb hby d7_31)) ?_
          show Go p e below P (s₁.setTop (mkF m 32 #[.val (.int p0), .val (.int p1), .val (.int p2), .val (.int p3), .val (.int p4), .val (.int p5)] [(.int (0 : Int32))]))
          subst hP
          refine Go.retZ X0 hx (t := .boolean) Bd.returns (by simp) hlk (hb hby d7_32) (Nat.le_of_ble_eq_true rfl) (Nat.le_of_ble_eq_true rfl) ?_
          rw [e0]
          exact ⟨by simp [hr, own_n1, own_n0, hc2.symm, hc7, hc18, hc24], N0, rfl⟩
    · refine Go.by (fun _ => XS.icmpNo X0.here hx rfl (hb hby d7_7) rfl (flt hc7).1) ?_
      show Go p e below P (s₁.setTop (mkF m 10 #[.val (.int p0), .val (.int p1), .val (.int p2), .val (.int p3), .val (.int p4), .val (.int p5)] []))
      refine Go.by (fun _ => XS.iloadN X0.here hx rfl (hb hby d7_10) rfl) ?_
      show Go p e below P (s₁.setTop (mkF m 11 #[.val (.int p0), .val (.int p1), .val (.int p2), .val (.int p3), .val (.int p4), .val (.int p5)] [(.int p1)]))
      refine Go.by (fun _ => XS.iload X0.here hx rfl (hb hby d7_11) rfl) ?_
      show Go p e below P (s₁.setTop (mkF m 13 #[.val (.int p0), .val (.int p1), .val (.int p2), .val (.int p3), .val (.int p4), .val (.int p5)] [(.int p4), (.int p1)]))
      by_cases hc13 : p1 = p4
      · refine Go.by (fun _ => XS.icmpNo X0.here hx rfl (hb hby d7_13) rfl (teq hc13).2) ?_
        show Go p e below P (s₁.setTop (mkF m 16 #[.val (.int p0), .val (.int p1), .val (.int p2), .val (.int p3), .val (.int p4), .val (.int p5)] []))
        refine Go.by (fun _ => XS.iloadN X0.here hx rfl (hb hby d7_16) rfl) ?_
        show Go p e below P (s₁.setTop (mkF m 17 #[.val (.int p0), .val (.int p1), .val (.int p2), .val (.int p3), .val (.int p4), .val (.int p5)] [(.int p0)]))
        refine Go.by (fun _ => XS.iconst X0.here hx rfl (hb hby d7_17)) ?_
        show Go p e below P (s₁.setTop (mkF m 18 #[.val (.int p0), .val (.int p1), .val (.int p2), .val (.int p3), .val (.int p4), .val (.int p5)] [(.int (2 : Int32)), (.int p0)]))
        by_cases hc18 : p0 < (2 : Int32)
        · refine Go.by (fun _ => XS.icmpYes X0.here hx rfl (pc0 := 18) (pc' := 27) rfl (hb hby d7_18) rfl (tlt hc18).1 (by decide) (by decide)) ?_
          show Go p e below P (s₁.setTop (mkF m 27 #[.val (.int p0), .val (.int p1), .val (.int p2), .val (.int p3), .val (.int p4), .val (.int p5)] []))
          refine Go.by (fun _ => XS.iconst X0.here hx rfl (hb hby d7_27)) ?_
          show Go p e below P (s₁.setTop (mkF m 28 #[.val (.int p0), .val (.int p1), .val (.int p2), .val (.int p3), .val (.int p4), .val (.int p5)] [(.int (1 : Int32))]))
          refine Go.by (fun _ => XS.goto X0.here hx rfl (pc0 := 28) (pc' := 32) rfl (hb hby d7_28) (by decide) (by decide)) ?_
          show Go p e below P (s₁.setTop (mkF m 32 #[.val (.int p0), .val (.int p1), .val (.int p2), .val (.int p3), .val (.int p4), .val (.int p5)] [(.int (1 : Int32))]))
          subst hP
          refine Go.retZ X0 hx (t := .boolean) Bd.returns (by simp) hlk (hb hby d7_32) (Nat.le_of_ble_eq_true rfl) (Nat.le_of_ble_eq_true rfl) ?_
          rw [e0]
          exact ⟨by simp [hr, own_n1, own_n0, hc2.symm, hc7, hc13, hc18], N0, rfl⟩
        · refine Go.by (fun _ => XS.icmpNo X0.here hx rfl (hb hby d7_18) rfl (flt hc18).1) ?_
          show Go p e below P (s₁.setTop (mkF m 21 #[.val (.int p0), .val (.int p1), .val (.int p2), .val (.int p3), .val (.int p4), .val (.int p5)] []))
          refine Go.by (fun _ => XS.iloadN X0.here hx rfl (hb hby d7_21) rfl) ?_
          show Go p e below P (s₁.setTop (mkF m 22 #[.val (.int p0), .val (.int p1), .val (.int p2), .val (.int p3), .val (.int p4), .val (.int p5)] [(.int p2)]))
          refine Go.by (fun _ => XS.iload X0.here hx rfl (hb hby d7_22) rfl) ?_
          show Go p e below P (s₁.setTop (mkF m 24 #[.val (.int p0), .val (.int p1), .val (.int p2), .val (.int p3), .val (.int p4), .val (.int p5)] [(.int p5), (.int p2)]))
          by_cases hc24 : p2 = p5
          · refine Go.by (fun _ => XS.icmpNo X0.here hx rfl (hb hby d7_24) rfl (teq hc24).2) ?_
            show Go p e below P (s₁.setTop (mkF m 27 #[.val (.int p0), .val (.int p1), .val (.int p2), .val (.int p3), .val (.int p4), .val (.int p5)] []))
            refine Go.by (fun _ => XS.iconst X0.here hx rfl (hb hby d7_27)) ?_
            show Go p e below P (s₁.setTop (mkF m 28 #[.val (.int p0), .val (.int p1), .val (.int p2), .val (.int p3), .val (.int p4), .val (.int p5)] [(.int (1 : Int32))]))
            refine Go.by (fun _ => XS.goto X0.here hx rfl (pc0 := 28) (pc' := 32) rfl (hb hby d7_28) (by decide) (by decide)) ?_
            show Go p e below P (s₁.setTop (mkF m 32 #[.val (.int p0), .val (.int p1), .val (.int p2), .val (.int p3), .val (.int p4), .val (.int p5)] [(.int (1 : Int32))]))
            subst hP
            refine Go.retZ X0 hx (t := .boolean) Bd.returns (by simp) hlk (hb hby d7_32) (Nat.le_of_ble_eq_true rfl) (Nat.le_of_ble_eq_true rfl) ?_
            rw [e0]
            exact ⟨by simp [hr, own_n1, own_n0, hc2.symm, hc7, hc13, hc18, hc24], N0, rfl⟩
          · refine Go.by (fun _ => XS.icmpYes X0.here hx rfl (pc0 := 24) (pc' := 31) rfl (hb hby d7_24) rfl (feq hc24).2 (by decide) (by decide)) ?_
            show Go p e below P (s₁.setTop (mkF m 31 #[.val (.int p0), .val (.int p1), .val (.int p2), .val (.int p3), .val (.int p4), .val (.int p5)] []))
            refine Go.by (fun _ => XS.iconst X0.here hx rfl (hb hby d7_31)) ?_
            show Go p e below P (s₁.setTop (mkF m 32 #[.val (.int p0), .val (.int p1), .val (.int p2), .val (.int p3), .val (.int p4), .val (.int p5)] [(.int (0 : Int32))]))
            subst hP
            refine Go.retZ X0 hx (t := .boolean) Bd.returns (by simp) hlk (hb hby d7_32) (Nat.le_of_ble_eq_true rfl) (Nat.le_of_ble_eq_true rfl) ?_
            rw [e0]
            exact ⟨by simp [hr, own_n1, own_n0, hc2.symm, hc7, hc13, hc18, hc24], N0, rfl⟩
      · refine Go.by (fun _ => XS.icmpYes X0.here hx rfl (pc0 := 13) (pc' := 31) rfl (hb hby d7_13) rfl (feq hc13).2 (by decide) (by decide)) ?_
        show Go p e below P (s₁.setTop (mkF m 31 #[.val (.int p0), .val (.int p1), .val (.int p2), .val (.int p3), .val (.int p4), .val (.int p5)] []))
        refine Go.by (fun _ => XS.iconst X0.here hx rfl (hb hby d7_31)) ?_
        show Go p e below P (s₁.setTop (mkF m 32 #[.val (.int p0), .val (.int p1), .val (.int p2), .val (.int p3), .val (.int p4), .val (.int p5)] [(.int (0 : Int32))]))
        subst hP
        refine Go.retZ X0 hx (t := .boolean) Bd.returns (by simp) hlk (hb hby d7_32) (Nat.le_of_ble_eq_true rfl) (Nat.le_of_ble_eq_true rfl) ?_
        rw [e0]
        exact ⟨by simp [hr, own_n1, own_n0, hc2.symm, hc7, hc13], N0, rfl⟩
  · refine Go.by (fun _ => XS.icmpYes X0.here hx rfl (pc0 := 2) (pc' := 31) rfl (hb hby d7_2) rfl (feq hc2).2 (by decide) (by decide)) ?_
    show Go p e below P (s₁.setTop (mkF m 31 #[.val (.int p0), .val (.int p1), .val (.int p2), .val (.int p3), .val (.int p4), .val (.int p5)] []))
    refine Go.by (fun _ => XS.iconst X0.here hx rfl (hb hby d7_31)) ?_
    show Go p e below P (s₁.setTop (mkF m 32 #[.val (.int p0), .val (.int p1), .val (.int p2), .val (.int p3), .val (.int p4), .val (.int p5)] [(.int (0 : Int32))]))
    subst hP
    refine Go.retZ X0 hx (t := .boolean) Bd.returns (by simp) hlk (hb hby d7_32) (Nat.le_of_ble_eq_true rfl) (Nat.le_of_ble_eq_true rfl) ?_
    rw [e0]
    exact ⟨by simp [hr, own_n1, own_n0, hc2], N0, rfl⟩
theorem d9_0 : decode jdk_30_method_1_code 0 = .ok (.aload_n 0, 1) := by decide +kernel
theorem d9_1 : decode jdk_30_method_1_code 1 = .ok (.invokespecial 1, 3) := by decide +kernel
theorem d9_4 : decode jdk_30_method_1_code 4 = .ok (.return_, 1) := by decide +kernel
theorem ef_rec (m : MethodId) (x0 : Addr) : entryFrame m #[(.ref x0)] 1 = mkF m 0 #[.val (.ref x0)] [] := by first | (simp [entryFrame, mkF, argsToLocals, Value.category]; done) | rfl
def Q_rec (Z : State) (zC : Int32) (a1 : Addr) (h0 : Heap) (n0 : Nat) (v : Option Value) (h : Heap) (L : List Loc) : Prop := v = none ∧ Fr n0 L ∧ h = h0
set_option maxRecDepth 65536 in
set_option maxHeartbeats 40000000 in
theorem rm_rec (l : Launch) (Z : State) (a0 : Array Value) (hw : ∀ d ∈ tables_1, d.before a0 Z = true) (ws : List Jvm.Cond) (zC : Int32) (hG : Glob Z zC) (a1 : Addr) (h0 : Heap) (n0 : Nat) (Z0 : n0 ≤ h0.size) (O0 : Old Z n0 h0) :
    MetFree l (⟨"java/lang/Record", "<init>", "()V"⟩ : MethodName) (head1 (Jvm.Cond.code (⟨"java/lang/Record", "<init>", "()V"⟩ : MethodName) jdk_30_method_1_code 1 none :: ws) ({ frames := 1, cells := 0, slots := 0, locals := 12 } : Room)) (fun a U => a = #[(.ref a1)] ∧ Z.Warmed39 U.vm ∧ U.heap = h0) (fun _ _ _ _ _ => True) (fun _ U o U' => ∃ v L, o = .returned v ∧ Q_rec Z zC a1 h0 n0 v U'.heap L ∧ FrameEnd U o U' L ({ frames := 1, cells := 0, slots := 0, locals := 12 } : Room).cells ({ frames := 1, cells := 0, slots := 0, locals := 12 } : Room).slots) := by
  refine MetFree.of_bodySF (plainFor_of_name pn_2) hisR ?_
  intro p e s m args below meth c s₁ Bd hml0 hP hK
  obtain ⟨rfl, hZ, hh⟩ := hP
  have hx := Bd.exec
  have hby := Bd.bytes
  have hml : c.maxLocals = 1 := hml0
  have hown : s.vm.findClass "java/lang/Record" = some m.cls := findClass_of_methodNamed Bd.named
  have hnm := (name_of_methodNamed Bd.named Bd.method).1
  have hlk : meth.locks = false := BodyLoose.notSynchronized Bd
  have X0 : Stand p l e ({ frames := 1, cells := 0, slots := 0, locals := 12 } : Room) s m #[(.ref a1)] below meth c s₁ [] 0 0 := Stand.of_body Bd
  have e0 : s₁.heap = h0 := by rw [← hh, Bd.state]; rfl
  have N0 := Fr.nil n0
  obtain ⟨G0, own_cs⟩ := id hG
  show Go p e below (End s (Q_rec Z zC a1 h0 n0) ({ frames := 1, cells := 0, slots := 0, locals := 12 } : Room).cells ({ frames := 1, cells := 0, slots := 0, locals := 12 } : Room).slots) (s₁.setTop (entryFrame m #[(.ref a1)] 1))
  rw [ef_rec]
  generalize hP : End s (Q_rec Z zC a1 h0 n0) ({ frames := 1, cells := 0, slots := 0, locals := 12 } : Room).cells ({ frames := 1, cells := 0, slots := 0, locals := 12 } : Room).slots = P
  show Go p e below P (s₁.setTop (mkF m 0 #[.val (.ref a1)] []))
  refine Go.by (fun _ => XS.aloadN X0.here hx rfl (hb hby d9_0) rfl rfl) ?_
  show Go p e below P (s₁.setTop (mkF m 1 #[.val (.ref a1)] [(.ref a1)]))
  obtain ⟨T1, X1, e1, st1⟩ := initO X0 hx hZ hown (hw _ (List.mem_of_getElem? (i := 49) rfl)) (hw _ (List.mem_of_getElem? (i := 19) rfl)) (hw _ (List.mem_of_getElem? (i := 20) rfl)) e0 (g := (mkF m 1 #[.val (.ref a1)] [(.ref a1)])) rfl (by rw [hml]; rfl) rfl (hb hby d9_1) (Nat.le_of_ble_eq_true rfl) (W := 0) (by show 2 * 0 + _ ≤ _; exact Nat.le_of_eq rfl) (Nat.le_of_ble_eq_true rfl)
  refine Go.by (fun _ => st1 _) ?_
  show Go p e below P (T1.setTop (mkF m 4 #[.val (.ref a1)] []))
  subst hP
  refine Go.retV X1 hx Bd.returns hlk (hb hby d9_4) (Nat.le_of_ble_eq_true rfl) (Nat.le_of_ble_eq_true rfl) ?_
  rw [e1]
  exact ⟨rfl, N0, rfl⟩
theorem d8_0 : decode prog_113_method_1_code 0 = .ok (.aload_n 0, 1) := by decide +kernel
theorem d8_1 : decode prog_113_method_1_code 1 = .ok (.invokespecial 1, 3) := by decide +kernel
theorem d8_4 : decode prog_113_method_1_code 4 = .ok (.aload_n 0, 1) := by decide +kernel
theorem d8_5 : decode prog_113_method_1_code 5 = .ok (.aload_n 1, 1) := by decide +kernel
theorem d8_6 : decode prog_113_method_1_code 6 = .ok (.putfield 7, 3) := by decide +kernel
theorem d8_9 : decode prog_113_method_1_code 9 = .ok (.aload_n 0, 1) := by decide +kernel
theorem d8_10 : decode prog_113_method_1_code 10 = .ok (.aload_n 2, 1) := by decide +kernel
theorem d8_11 : decode prog_113_method_1_code 11 = .ok (.putfield 13, 3) := by decide +kernel
theorem d8_14 : decode prog_113_method_1_code 14 = .ok (.aload_n 0, 1) := by decide +kernel
theorem d8_15 : decode prog_113_method_1_code 15 = .ok (.aload_n 3, 1) := by decide +kernel
theorem d8_16 : decode prog_113_method_1_code 16 = .ok (.putfield 16, 3) := by decide +kernel
theorem d8_19 : decode prog_113_method_1_code 19 = .ok (.aload_n 0, 1) := by decide +kernel
theorem d8_20 : decode prog_113_method_1_code 20 = .ok (.aload 4, 2) := by decide +kernel
theorem d8_22 : decode prog_113_method_1_code 22 = .ok (.putfield 19, 3) := by decide +kernel
theorem d8_25 : decode prog_113_method_1_code 25 = .ok (.return_, 1) := by decide +kernel
theorem ef_sf (m : MethodId) (x0 : Addr) (x1 : Addr) (x2 : Addr) (x3 : Addr) (x4 : Addr) : entryFrame m #[(.ref x0), (.ref x1), (.ref x2), (.ref x3), (.ref x4)] 5 = mkF m 0 #[.val (.ref x0), .val (.ref x1), .val (.ref x2), .val (.ref x3), .val (.ref x4)] [] := by first | (simp [entryFrame, mkF, argsToLocals, Value.category]; done) | rfl
def Q_sf (Z : State) (zC : Int32) (a1 : Addr) (x : Addr) (y : Addr) (z1 : Addr) (z2 : Addr) (h0 : Heap) (n0 : Nat) (v : Option Value) (h : Heap) (L : List Loc) : Prop := v = none ∧ Fr n0 L ∧ Keep h0 h [a1] ∧ Fld Z h a1 "com/example/gather_solvers/gathersolvers/model/SolverFunction" "name" "Ljava/lang/String;" (.ref x) ∧ Fld Z h a1 "com/example/gather_solvers/gathersolvers/model/SolverFunction" "packageName" "Ljava/lang/String;" (.ref y)
set_option maxRecDepth 65536 in
set_option maxHeartbeats 40000000 in
theorem rm_sf (l : Launch) (Z : State) (a0 : Array Value) (hw : ∀ d ∈ tables_1, d.before a0 Z = true) (ws : List Jvm.Cond) (zC : Int32) (hG : Glob Z zC) (a1 : Addr) (x : Addr) (y : Addr) (z1 : Addr) (z2 : Addr) (h0 : Heap) (n0 : Nat) (Z0 : n0 ≤ h0.size) (O0 : Old Z n0 h0) (P0 : Exa Z h0 a1 "com/example/gather_solvers/gathersolvers/model/SolverFunction") (P1 : Fld Z h0 a1 "com/example/gather_solvers/gathersolvers/model/SolverFunction" "name" "Ljava/lang/String;" .null) (P2 : Fld Z h0 a1 "com/example/gather_solvers/gathersolvers/model/SolverFunction" "packageName" "Ljava/lang/String;" .null) (P3 : Fld Z h0 a1 "com/example/gather_solvers/gathersolvers/model/SolverFunction" "signature" "Ljava/lang/String;" .null) (P4 : Fld Z h0 a1 "com/example/gather_solvers/gathersolvers/model/SolverFunction" "description" "Ljava/lang/String;" .null) (ga : n0 ≤ a1) :
    MetFree l (⟨"com/example/gather_solvers/gathersolvers/model/SolverFunction", "<init>", "(Ljava/lang/String;Ljava/lang/String;Ljava/lang/String;Ljava/lang/String;)V"⟩ : MethodName) (head1 (Jvm.Cond.code (⟨"com/example/gather_solvers/gathersolvers/model/SolverFunction", "<init>", "(Ljava/lang/String;Ljava/lang/String;Ljava/lang/String;Ljava/lang/String;)V"⟩ : MethodName) prog_113_method_1_code 5 none :: ws) ({ frames := 2, cells := 0, slots := 0, locals := 24 } : Room)) (fun a U => a = #[(.ref a1), (.ref x), (.ref y), (.ref z1), (.ref z2)] ∧ Z.Warmed39 U.vm ∧ U.heap = h0) (fun _ _ _ _ _ => True) (fun _ U o U' => ∃ v L, o = .returned v ∧ Q_sf Z zC a1 x y z1 z2 h0 n0 v U'.heap L ∧ FrameEnd U o U' L ({ frames := 2, cells := 0, slots := 0, locals := 24 } : Room).cells ({ frames := 2, cells := 0, slots := 0, locals := 24 } : Room).slots) := by
  refine MetFree.of_bodySF (plainFor_of_name pn_3) hisR ?_
  intro p e s m args below meth c s₁ Bd hml0 hP hK
  obtain ⟨rfl, hZ, hh⟩ := hP
  have hx := Bd.exec
  have hby := Bd.bytes
  have hml : c.maxLocals = 5 := hml0
  have hown : s.vm.findClass "com/example/gather_solvers/gathersolvers/model/SolverFunction" = some m.cls := findClass_of_methodNamed Bd.named
  have hnm := (name_of_methodNamed Bd.named Bd.method).1
  have hlk : meth.locks = false := BodyLoose.notSynchronized Bd
  have X0 : Stand p l e ({ frames := 2, cells := 0, slots := 0, locals := 24 } : Room) s m #[(.ref a1), (.ref x), (.ref y), (.ref z1), (.ref z2)] below meth c s₁ [] 0 0 := Stand.of_body Bd
  have e0 : s₁.heap = h0 := by rw [← hh, Bd.state]; rfl
  have N0 := Fr.nil n0
  obtain ⟨G0, own_cs⟩ := id hG
  show Go p e below (End s (Q_sf Z zC a1 x y z1 z2 h0 n0) ({ frames := 2, cells := 0, slots := 0, locals := 24 } : Room).cells ({ frames := 2, cells := 0, slots := 0, locals := 24 } : Room).slots) (s₁.setTop (entryFrame m #[(.ref a1), (.ref x), (.ref y), (.ref z1), (.ref z2)] 5))
  rw [ef_sf]
  generalize hP : End s (Q_sf Z zC a1 x y z1 z2 h0 n0) ({ frames := 2, cells := 0, slots := 0, locals := 24 } : Room).cells ({ frames := 2, cells := 0, slots := 0, locals := 24 } : Room).slots = P
  show Go p e below P (s₁.setTop (mkF m 0 #[.val (.ref a1), .val (.ref x), .val (.ref y), .val (.ref z1), .val (.ref z2)] []))
  refine Go.by (fun _ => XS.aloadN X0.here hx rfl (hb hby d8_0) rfl rfl) ?_
  show Go p e below P (s₁.setTop (mkF m 1 #[.val (.ref a1), .val (.ref x), .val (.ref y), .val (.ref z1), .val (.ref z2)] [(.ref a1)]))
  obtain ⟨_, _, ⟨T1, L1, k1, n1⟩, -, X1, ⟨Lc1, hQ1, l1, y1, z1⟩, st1⟩ := X0.specialBack hx (y := (⟨"java/lang/Record", "<init>", "()V"⟩ : MethodName)) rfl hown (mvT hZ (hw _ (List.mem_of_getElem? (i := 44) rfl))) (mvT hZ (hw _ (List.mem_of_getElem? (i := 45) rfl))) (mvT hZ (hw _ (List.mem_of_getElem? (i := 48) rfl))) (by decide) (backOf (W := 0) (rm_rec l Z a0 hw [] zC hG a1 h0 n0 Z0 O0  ) hZ (hw _ (List.mem_of_getElem? (i := 48) rfl)) (hw _ (List.mem_of_getElem? (i := 47) rfl)) (Nat.le_of_ble_eq_true rfl) (Nat.le_of_ble_eq_true rfl)) (g := (mkF m 1 #[.val (.ref a1), .val (.ref x), .val (.ref y), .val (.ref z1), .val (.ref z2)] [(.ref a1)])) rfl (by rw [hml]; rfl) (Steps.refl _) (a := a1) (argsL := []) (rest := []) (lenOf pd_3 rfl) rfl (by show 2 * 0 + _ ≤ _; exact Nat.le_of_eq rfl) (hb hby d8_1) (fun _ _ => ⟨rfl, e0, (Nat.le_of_ble_eq_true rfl : 0 + 0 ≤ _), (Nat.le_of_ble_eq_true rfl : 0 + 0 ≤ _)⟩)
  dsimp only [Pt.U, Pt.locs, Pt.cells, Pt.slots] at X1 l1 y1 z1 st1 hQ1
  subst l1 y1 z1
  obtain ⟨rfl, Nq1, eq1⟩ := hQ1
  have N1 := Fr.app N0 Nq1
  refine Go.by (fun _ k => st1.trans k) ?_
  show Go p e below P (T1.setTop (mkF m 4 #[.val (.ref a1), .val (.ref x), .val (.ref y), .val (.ref z1), .val (.ref z2)] []))
  refine Go.by (fun _ => XS.aloadN X1.here hx rfl (hb hby d8_4) rfl rfl) ?_
  show Go p e below P (T1.setTop (mkF m 5 #[.val (.ref a1), .val (.ref x), .val (.ref y), .val (.ref z1), .val (.ref z2)] [(.ref a1)]))
  refine Go.by (fun _ => XS.aloadN X1.here hx rfl (hb hby d8_5) rfl rfl) ?_
  show Go p e below P (T1.setTop (mkF m 6 #[.val (.ref a1), .val (.ref x), .val (.ref y), .val (.ref z1), .val (.ref z2)] [(.ref x), (.ref a1)]))
  obtain ⟨T2, h2, X2, e2, W2, st2⟩ := putF X1 hx hZ hown (host := "") (Or.inl (hw _ (List.mem_of_getElem? (i := 50) rfl))) Via.refl eq1 P1 P0 (Or.inr ⟨(hw _ (List.mem_of_getElem? (i := 51) rfl)), rfl, hnm⟩) (hw _ (List.mem_of_getElem? (i := 38) rfl)) (ty := (.object "java/lang/String")) (by decide) rfl rfl (g := (mkF m 6 #[.val (.ref a1), .val (.ref x), .val (.ref y), .val (.ref z1), .val (.ref z2)] [(.ref x), (.ref a1)])) rfl rfl (hb hby d8_6)
  refine Go.by (fun _ => st2 _) ?_
  have F3 : Exa Z h2 a1 "com/example/gather_solvers/gathersolvers/model/SolverFunction" := P0.wr W2
  have F4 : Fld Z h2 a1 "com/example/gather_solvers/gathersolvers/model/SolverFunction" "packageName" "Ljava/lang/String;" .null := P2.other W2 (Or.inr (slot_ne (Or.inr (hw _ (List.mem_of_getElem? (i := 53) rfl))) (Or.inr (hw _ (List.mem_of_getElem? (i := 51) rfl))) (by decide) (t := (.object "java/lang/String")) (t' := (.object "java/lang/String")) (by decide) (by decide)))
  have F5 : Fld Z h2 a1 "com/example/gather_solvers/gathersolvers/model/SolverFunction" "signature" "Ljava/lang/String;" .null := P3.other W2 (Or.inr (slot_ne (Or.inr (hw _ (List.mem_of_getElem? (i := 55) rfl))) (Or.inr (hw _ (List.mem_of_getElem? (i := 51) rfl))) (by decide) (t := (.object "java/lang/String")) (t' := (.object "java/lang/String")) (by decide) (by decide)))
  have F6 : Fld Z h2 a1 "com/example/gather_solvers/gathersolvers/model/SolverFunction" "description" "Ljava/lang/String;" .null := P4.other W2 (Or.inr (slot_ne (Or.inr (hw _ (List.mem_of_getElem? (i := 57) rfl))) (Or.inr (hw _ (List.mem_of_getElem? (i := 51) rfl))) (by decide) (t := (.object "java/lang/String")) (t' := (.object "java/lang/String")) (by decide) (by decide)))
  have O2 := O0.wr W2 ga
  have Z2 : n0 ≤ h2.size := Nat.le_trans Z0 (Keep.of_wr W2).1
  have K2 : Keep h0 h2 [a1] := (Keep.refl h0 [a1]).wr W2 (Or.inl (List.mem_of_getElem? (i := 0) rfl))
  have F7 : Fld Z h2 a1 "com/example/gather_solvers/gathersolvers/model/SolverFunction" "name" "Ljava/lang/String;" (.ref x) := P1.same W2
  have N2 := Fr.snoc X2 N1 ga
  show Go p e below P (T2.setTop (mkF m 9 #[.val (.ref a1), .val (.ref x), .val (.ref y), .val (.ref z1), .val (.ref z2)] []))
  refine Go.by (fun _ => XS.aloadN X2.here hx rfl (hb hby d8_9) rfl rfl) ?_
  show Go p e below P (T2.setTop (mkF m 10 #[.val (.ref a1), .val (.ref x), .val (.ref y), .val (.ref z1), .val (.ref z2)] [(.ref a1)]))
  refine Go.by (fun _ => XS.aloadN X2.here hx rfl (hb hby d8_10) rfl rfl) ?_
  show Go p e below P (T2.setTop (mkF m 11 #[.val (.ref a1), .val (.ref x), .val (.ref y), .val (.ref z1), .val (.ref z2)] [(.ref y), (.ref a1)]))
  obtain ⟨T8, h8, X8, e8, W8, st8⟩ := putF X2 hx hZ hown (host := "") (Or.inl (hw _ (List.mem_of_getElem? (i := 52) rfl))) Via.refl e2 F4 F3 (Or.inr ⟨(hw _ (List.mem_of_getElem? (i := 53) rfl)), rfl, hnm⟩) (hw _ (List.mem_of_getElem? (i := 38) rfl)) (ty := (.object "java/lang/String")) (by decide) rfl rfl (g := (mkF m 11 #[.val (.ref a1), .val (.ref x), .val (.ref y), .val (.ref z1), .val (.ref z2)] [(.ref y), (.ref a1)])) rfl rfl (hb hby d8_11)
  refine Go.by (fun _ => st8 _) ?_
  have F9 : Exa Z h8 a1 "com/example/gather_solvers/gathersolvers/model/SolverFunction" := F3.wr W8
  have F10 : Fld Z h8 a1 "com/example/gather_solvers/gathersolvers/model/SolverFunction" "signature" "Ljava/lang/String;" .null := F5.other W8 (Or.inr (slot_ne (Or.inr (hw _ (List.mem_of_getElem? (i := 55) rfl))) (Or.inr (hw _ (List.mem_of_getElem? (i := 53) rfl))) (by decide) (t := (.object "java/lang/String")) (t' := (.object "java/lang/String")) (by decide) (by decide)))
  have F11 : Fld Z h8 a1 "com/example/gather_solvers/gathersolvers/model/SolverFunction" "description" "Ljava/lang/String;" .null := F6.other W8 (Or.inr (slot_ne (Or.inr (hw _ (List.mem_of_getElem? (i := 57) rfl))) (Or.inr (hw _ (List.mem_of_getElem? (i := 53) rfl))) (by decide) (t := (.object "java/lang/String")) (t' := (.object "java/lang/String")) (by decide) (by decide)))
  have F12 : Fld Z h8 a1 "com/example/gather_solvers/gathersolvers/model/SolverFunction" "name" "Ljava/lang/String;" (.ref x) := F7.other W8 (Or.inr (slot_ne (Or.inr (hw _ (List.mem_of_getElem? (i := 51) rfl))) (Or.inr (hw _ (List.mem_of_getElem? (i := 53) rfl))) (by decide) (t := (.object "java/lang/String")) (t' := (.object "java/lang/String")) (by decide) (by decide)))
  have O8 := O2.wr W8 ga
  have Z8 : n0 ≤ h8.size := Nat.le_trans Z2 (Keep.of_wr W8).1
  have K8 : Keep h0 h8 [a1] := K2.wr W8 (Or.inl (List.mem_of_getElem? (i := 0) rfl))
  have F13 : Fld Z h8 a1 "com/example/gather_solvers/gathersolvers/model/SolverFunction" "packageName" "Ljava/lang/String;" (.ref y) := F4.same W8
  have N8 := Fr.snoc X8 N2 ga
  show Go p e below P (T8.setTop (mkF m 14 #[.val (.ref a1), .val (.ref x), .val (.ref y), .val (.ref z1), .val (.ref z2)] []))
  refine Go.by (fun _ => XS.aloadN X8.here hx rfl (hb hby d8_14) rfl rfl) ?_
  show Go p e below P (T8.setTop (mkF m 15 #[.val (.ref a1), .val (.ref x), .val (.ref y), .val (.ref z1), .val (.ref z2)] [(.ref a1)]))
  refine Go.by (fun _ => XS.aloadN X8.here hx rfl (hb hby d8_15) rfl rfl) ?_
  show Go p e below P (T8.setTop (mkF m 16 #[.val (.ref a1), .val (.ref x), .val (.ref y), .val (.ref z1), .val (.ref z2)] [(.ref z1), (.ref a1)]))
  obtain ⟨T14, h14, X14, e14, W14, st14⟩ := putF X8 hx hZ hown (host := "") (Or.inl (hw _ (List.mem_of_getElem? (i := 54) rfl))) Via.refl e8 F10 F9 (Or.inr ⟨(hw _ (List.mem_of_getElem? (i := 55) rfl)), rfl, hnm⟩) (hw _ (List.mem_of_getElem? (i := 38) rfl)) (ty := (.object "java/lang/String")) (by decide) rfl rfl (g := (mkF m 16 #[.val (.ref a1), .val (.ref x), .val (.ref y), .val (.ref z1), .val (.ref z2)] [(.ref z1), (.ref a1)])) rfl rfl (hb hby d8_16)
  refine Go.by (fun _ => st14 _) ?_
  have F15 : Exa Z h14 a1 "com/example/gather_solvers/gathersolvers/model/SolverFunction" := F9.wr W14
  have F16 : Fld Z h14 a1 "com/example/gather_solvers/gathersolvers/model/SolverFunction" "description" "Ljava/lang/String;" .null := F11.other W14 (Or.inr (slot_ne (Or.inr (hw _ (List.mem_of_getElem? (i := 57) rfl))) (Or.inr (hw _ (List.mem_of_getElem? (i := 55) rfl))) (by decide) (t := (.object "java/lang/String")) (t' := (.object "java/lang/String")) (by decide) (by decide)))
  have F17 : Fld Z h14 a1 "com/example/gather_solvers/gathersolvers/model/SolverFunction" "name" "Ljava/lang/String;" (.ref x) := F12.other W14 (Or.inr (slot_ne (Or.inr (hw _ (List.mem_of_getElem? (i := 51) rfl))) (Or.inr (hw _ (List.mem_of_getElem? (i := 55) rfl))) (by decide) (t := (.object "java/lang/String")) (t' := (.object "java/lang/String")) (by decide) (by decide)))
  have F18 : Fld Z h14 a1 "com/example/gather_solvers/gathersolvers/model/SolverFunction" "packageName" "Ljava/lang/String;" (.ref y) := F13.other W14 (Or.inr (slot_ne (Or.inr (hw _ (List.mem_of_getElem? (i := 53) rfl))) (Or.inr (hw _ (List.mem_of_getElem? (i := 55) rfl))) (by decide) (t := (.object "java/lang/String")) (t' := (.object "java/lang/String")) (by decide) (by decide)))
  have O14 := O8.wr W14 ga
  have Z14 : n0 ≤ h14.size := Nat.le_trans Z8 (Keep.of_wr W14).1
  have K14 : Keep h0 h14 [a1] := K8.wr W14 (Or.inl (List.mem_of_getElem? (i := 0) rfl))
  have F19 : Fld Z h14 a1 "com/example/gather_solvers/gathersolvers/model/SolverFunction" "signature" "Ljava/lang/String;" (.ref z1) := F10.same W14
  have N14 := Fr.snoc X14 N8 ga
  show Go p e below P (T14.setTop (mkF m 19 #[.val (.ref a1), .val (.ref x), .val (.ref y), .val (.ref z1), .val (.ref z2)] []))
  refine Go.by (fun _ => XS.aloadN X14.here hx rfl (hb hby d8_19) rfl rfl) ?_
  show Go p e below P (T14.setTop (mkF m 20 #[.val (.ref a1), .val (.ref x), .val (.ref y), .val (.ref z1), .val (.ref z2)] [(.ref a1)]))
  refine Go.by (fun _ => XS.aload X14.here hx rfl (hb hby d8_20) rfl rfl) ?_
  show Go p e below P (T14.setTop (mkF m 22 #[.val (.ref a1), .val (.ref x), .val (.ref y), .val (.ref z1), .val (.ref z2)] [(.ref z2), (.ref a1)]))
  obtain ⟨T20, h20, X20, e20, W20, st20⟩ := putF X14 hx hZ hown (host := "") (Or.inl (hw _ (List.mem_of_getElem? (i := 56) rfl))) Via.refl e14 F16 F15 (Or.inr ⟨(hw _ (List.mem_of_getElem? (i := 57) rfl)), rfl, hnm⟩) (hw _ (List.mem_of_getElem? (i := 38) rfl)) (ty := (.object "java/lang/String")) (by decide) rfl rfl (g := (mkF m 22 #[.val (.ref a1), .val (.ref x), .val (.ref y), .val (.ref z1), .val (.ref z2)] [(.ref z2), (.ref a1)])) rfl rfl (hb hby d8_22)
  refine Go.by (fun _ => st20 _) ?_
  have F21 : Exa Z h20 a1 "com/example/gather_solvers/gathersolvers/model/SolverFunction" := F15.wr W20
  have F22 : Fld Z h20 a1 "com/example/gather_solvers/gathersolvers/model/SolverFunction" "name" "Ljava/lang/String;" (.ref x) := F17.other W20 (Or.inr (slot_ne (Or.inr (hw _ (List.mem_of_getElem? (i := 51) rfl))) (Or.inr (hw _ (List.mem_of_getElem? (i := 57) rfl))) (by decide) (t := (.object "java/lang/String")) (t' := (.object "java/lang/String")) (by decide) (by decide)))
  have F23 : Fld Z h20 a1 "com/example/gather_solvers/gathersolvers/model/SolverFunction" "packageName" "Ljava/lang/String;" (.ref y) := F18.other W20 (Or.inr (slot_ne (Or.inr (hw _ (List.mem_of_getElem? (i := 53) rfl))) (Or.inr (hw _ (List.mem_of_getElem? (i := 57) rfl))) (by decide) (t := (.object "java/lang/String")) (t' := (.object "java/lang/String")) (by decide) (by decide)))
  have F24 : Fld Z h20 a1 "com/example/gather_solvers/gathersolvers/model/SolverFunction" "signature" "Ljava/lang/String;" (.ref z1) := F19.other W20 (Or.inr (slot_ne (Or.inr (hw _ (List.mem_of_getElem? (i := 55) rfl))) (Or.inr (hw _ (List.mem_of_getElem? (i := 57) rfl))) (by decide) (t := (.object "java/lang/String")) (t' := (.object "java/lang/String")) (by decide) (by decide)))
  have O20 := O14.wr W20 ga
  have Z20 : n0 ≤ h20.size := Nat.le_trans Z14 (Keep.of_wr W20).1
  have K20 : Keep h0 h20 [a1] := K14.wr W20 (Or.inl (List.mem_of_getElem? (i := 0) rfl))
  have F25 : Fld Z h20 a1 "com/example/gather_solvers/gathersolvers/model/SolverFunction" "description" "Ljava/lang/String;" (.ref z2) := F16.same W20
  have N20 := Fr.snoc X20 N14 ga
  show Go p e below P (T20.setTop (mkF m 25 #[.val (.ref a1), .val (.ref x), .val (.ref y), .val (.ref z1), .val (.ref z2)] []))
  subst hP
  refine Go.retV X20 hx Bd.returns hlk (hb hby d8_25) (Nat.le_of_ble_eq_true rfl) (Nat.le_of_ble_eq_true rfl) ?_
  rw [e20]
  exact ⟨rfl, N20, K20, F22, F23⟩
theorem d10_0 : decode prog_113_method_3_code 0 = .ok (.aload_n 0, 1) := by decide +kernel
theorem d10_1 : decode prog_113_method_3_code 1 = .ok (.getfield 7, 3) := by decide +kernel
theorem d10_4 : decode prog_113_method_3_code 4 = .ok (.aload_n 1, 1) := by decide +kernel
theorem d10_5 : decode prog_113_method_3_code 5 = .ok (.invokevirtual 22, 3) := by decide +kernel
theorem d10_8 : decode prog_113_method_3_code 8 = .ok (.ifCond .eq 27, 3) := by decide +kernel
theorem d10_11 : decode prog_113_method_3_code 11 = .ok (.aload_n 2, 1) := by decide +kernel
theorem d10_12 : decode prog_113_method_3_code 12 = .ok (.ldc 28, 2) := by decide +kernel
theorem d10_14 : decode prog_113_method_3_code 14 = .ok (.invokevirtual 22, 3) := by decide +kernel
theorem d10_17 : decode prog_113_method_3_code 17 = .ok (.ifCond .ne 14, 3) := by decide +kernel
theorem d10_20 : decode prog_113_method_3_code 20 = .ok (.aload_n 2, 1) := by decide +kernel
theorem d10_21 : decode prog_113_method_3_code 21 = .ok (.aload_n 0, 1) := by decide +kernel
theorem d10_22 : decode prog_113_method_3_code 22 = .ok (.getfield 13, 3) := by decide +kernel
theorem d10_25 : decode prog_113_method_3_code 25 = .ok (.invokevirtual 22, 3) := by decide +kernel
theorem d10_28 : decode prog_113_method_3_code 28 = .ok (.ifCond .eq 7, 3) := by decide +kernel
theorem d10_31 : decode prog_113_method_3_code 31 = .ok (.iconst 1, 1) := by decide +kernel
theorem d10_32 : decode prog_113_method_3_code 32 = .ok (.goto 4, 3) := by decide +kernel
theorem d10_35 : decode prog_113_method_3_code 35 = .ok (.iconst 0, 1) := by decide +kernel
theorem d10_36 : decode prog_113_method_3_code 36 = .ok (.ireturn, 1) := by decide +kernel
theorem ef_mat (m : MethodId) (x0 : Addr) (x1 : Addr) (x2 : Addr) : entryFrame m #[(.ref x0), (.ref x1), (.ref x2)] 3 = mkF m 0 #[.val (.ref x0), .val (.ref x1), .val (.ref x2)] [] := by first | (simp [entryFrame, mkF, argsToLocals, Value.category]; done) | rfl
def Q_mat (Z : State) (zC : Int32) (a1 : Addr) (x : Addr) (y : Addr) (n1 : Addr) (k1 : Addr) (t1 : Addr) (t2 : Addr) (t3 : Addr) (t4 : Addr) (ns : List Int32) (ps : List Int32) (as : List Int32) (qs : List Int32) (r : Int32) (h0 : Heap) (n0 : Nat) (v : Option Value) (h : Heap) (L : List Loc) : Prop := v = some (.int r) ∧ Fr n0 L ∧ Keep h0 h []
set_option maxRecDepth 65536 in
set_option maxHeartbeats 40000000 in
theorem rm_mat (l : Launch) (Z : State) (a0 : Array Value) (hw : ∀ d ∈ tables_1, d.before a0 Z = true) (ws : List Jvm.Cond) (zC : Int32) (hG : Glob Z zC) (a1 : Addr) (x : Addr) (y : Addr) (n1 : Addr) (k1 : Addr) (t1 : Addr) (t2 : Addr) (t3 : Addr) (t4 : Addr) (ns : List Int32) (ps : List Int32) (as : List Int32) (qs : List Int32) (r : Int32) (h0 : Heap) (n0 : Nat) (Z0 : n0 ≤ h0.size) (O0 : Old Z n0 h0) (P0 : Fld Z h0 a1 "com/example/gather_solvers/gathersolvers/model/SolverFunction" "name" "Ljava/lang/String;" (.ref n1)) (P1 : Fld Z h0 a1 "com/example/gather_solvers/gathersolvers/model/SolverFunction" "packageName" "Ljava/lang/String;" (.ref k1)) (P2 : Str Z h0 n1 t1 ns) (P3 : Str Z h0 k1 t2 ps) (P4 : Str Z h0 x t3 as) (P5 : Str Z h0 y t4 qs) (hr : r = if ns = as then (if qs = DEF then 1 else if qs = ps then 1 else 0) else 0) :
    MetFree l (⟨"com/example/gather_solvers/gathersolvers/model/SolverFunction", "matches", "(Ljava/lang/String;Ljava/lang/String;)Z"⟩ : MethodName) (head1 (Jvm.Cond.code (⟨"com/example/gather_solvers/gathersolvers/model/SolverFunction", "matches", "(Ljava/lang/String;Ljava/lang/String;)Z"⟩ : MethodName) prog_113_method_3_code 3 (some .boolean) :: ws) ({ frames := 2, cells := 2, slots := 32, locals := 28 } : Room)) (fun a U => a = #[(.ref a1), (.ref x), (.ref y)] ∧ Z.Warmed39 U.vm ∧ U.heap = h0 ∧ CHv Z consts_1 U.vm h0) (fun _ _ _ _ _ => True) (fun _ U o U' => ∃ v L, o = .returned v ∧ Q_mat Z zC a1 x y n1 k1 t1 t2 t3 t4 ns ps as qs r h0 n0 v U'.heap L ∧ CHr Z consts_1 U.vm U.heap U'.vm U'.heap ∧ ReturnedEndW U o U' L ({ frames := 2, cells := 2, slots := 32, locals := 28 } : Room).cells ({ frames := 2, cells := 2, slots := 32, locals := 28 } : Room).slots) := by
  refine MetFree.of_bodySF (plainFor_of_name pn_3) hisR ?_
  intro p e s m args below meth c s₁ Bd hml0 hP hK
  obtain ⟨rfl, hZ, hh, C0⟩ := hP
  have hx := Bd.exec
  have hby := Bd.bytes
  have hml : c.maxLocals = 3 := hml0
  have hown : s.vm.findClass "com/example/gather_solvers/gathersolvers/model/SolverFunction" = some m.cls := findClass_of_methodNamed Bd.named
  have hnm := (name_of_methodNamed Bd.named Bd.method).1
  have hlk : meth.locks = false := BodyLoose.notSynchronized Bd
  have X0 : Stand p l e ({ frames := 2, cells := 2, slots := 32, locals := 28 } : Room) (s.setVm s.vm) m #[(.ref a1), (.ref x), (.ref y)] below meth c s₁ [] 0 0 := Stand.of_body Bd
  have e0 : s₁.heap = h0 := by rw [← hh, Bd.state]; rfl
  have N0 := Fr.nil n0
  obtain ⟨G0, own_cs⟩ := id hG
  have hS : s.Since s.vm 0 := (State.WarmedH.refl s).since 0
  have hk : 0 ≤ h0.size := Nat.zero_le _
  have R0 : CHr Z consts_1 s.vm h0 s.vm h0 := CHr.refl C0
  show Go p e below (EndC Z consts_1 s (Q_mat Z zC a1 x y n1 k1 t1 t2 t3 t4 ns ps as qs r h0 n0) ({ frames := 2, cells := 2, slots := 32, locals := 28 } : Room).cells ({ frames := 2, cells := 2, slots := 32, locals := 28 } : Room).slots) (s₁.setTop (entryFrame m #[(.ref a1), (.ref x), (.ref y)] 3))
  rw [ef_mat]
  generalize hP : EndC Z consts_1 s (Q_mat Z zC a1 x y n1 k1 t1 t2 t3 t4 ns ps as qs r h0 n0) ({ frames := 2, cells := 2, slots := 32, locals := 28 } : Room).cells ({ frames := 2, cells := 2, slots := 32, locals := 28 } : Room).slots = P
  show Go p e below P (s₁.setTop (mkF m 0 #[.val (.ref a1), .val (.ref x), .val (.ref y)] []))
  refine Go.by (fun _ => XS.aloadN X0.here hx rfl (hb hby d10_0) rfl rfl) ?_
  show Go p e below P (s₁.setTop (mkF m 1 #[.val (.ref a1), .val (.ref x), .val (.ref y)] [(.ref a1)]))
  obtain ⟨T1, X1, e1, st1⟩ := getF X0 hx hZ hown (host := "") (Or.inl (hw _ (List.mem_of_getElem? (i := 50) rfl))) Via.refl e0 P0 (g := (mkF m 1 #[.val (.ref a1), .val (.ref x), .val (.ref y)] [(.ref a1)])) rfl rfl (hb hby d10_1)
  refine Go.by (fun _ => st1 _) ?_
  show Go p e below P (T1.setTop (mkF m 4 #[.val (.ref a1), .val (.ref x), .val (.ref y)] [(.ref n1)]))
  refine Go.by (fun _ => XS.aloadN X1.here hx rfl (hb hby d10_4) rfl rfl) ?_
  show Go p e below P (T1.setTop (mkF m 5 #[.val (.ref a1), .val (.ref x), .val (.ref y)] [(.ref x), (.ref n1)]))
  obtain ⟨cq2, kq2, qa2, qb2, qc2⟩ := isOf hZ e1 P2.exa
  obtain ⟨_, _, ⟨T2, L2, k2, n2⟩, -, X2, ⟨Lc2, hQ2, l2, y2, z2⟩, st2⟩ := X1.virtualBack hx (y := (⟨"java/lang/String", "equals", "(Ljava/lang/Object;)Z"⟩ : MethodName)) (z := (⟨"java/lang/String", "equals", "(Ljava/lang/Object;)Z"⟩ : MethodName)) hown (mvT hZ (hw _ (List.mem_of_getElem? (i := 63) rfl))) (mvT hZ (hw _ (List.mem_of_getElem? (i := 64) rfl))) (notFace_of_selects (args := #[]) (mvT hZ (hw _ (List.mem_of_getElem? (i := 66) rfl)))) (mvT hZ (hw _ (List.mem_of_getElem? (i := 66) rfl))) (mvT hZ (hw _ (List.mem_of_getElem? (i := 65) rfl))) (by decide) (own_eqW (W := 0) hZ (own_wordsEq hw) (hw _ (List.mem_of_getElem? (i := 8) rfl)) P2 P4 (G0.ext O0.2) own_cs (Nat.le_of_ble_eq_true rfl) (Nat.le_of_ble_eq_true rfl)) qa2 qc2 (g := (mkF m 5 #[.val (.ref a1), .val (.ref x), .val (.ref y)] [(.ref x), (.ref n1)])) rfl (by rw [hml]; rfl) (Steps.refl _) (argsL := [(.ref x)]) (rest := []) (lenOf pd_4 rfl) rfl (by show 2 * 0 + _ ≤ _; exact Nat.le_of_eq rfl) (hb hby d10_5) (fun _ _ => ⟨rfl, e1, (Nat.le_of_ble_eq_true rfl : 0 + 0 ≤ _), (Nat.le_of_ble_eq_true rfl : 0 + 0 ≤ _)⟩)
  dsimp only [Pt.U, Pt.locs, Pt.cells, Pt.slots] at X2 l2 y2 z2 st2 hQ2
  subst l2 y2 z2
  obtain ⟨hor2, rfl, eq2⟩ := hQ2
  have N2 := Fr.app N0 (Fr.nil n0)
  rcases hor2 with ⟨rfl, hcs2⟩ | ⟨rfl, hcs2⟩
  · refine Go.by (fun _ k => st2.trans k) ?_
    show Go p e below P (T2.setTop (mkF m 8 #[.val (.ref a1), .val (.ref x), .val (.ref y)] [(.int (1 : Int32))]))
    have hc8 : ¬ ((1 : Int32) = (0 : Int32)) := by decide
    refine Go.by (fun _ => XS.ifNo X2.here hx rfl (hb hby d10_8) rfl ((if0 _ _).trans (feq hc8).1)) ?_
    show Go p e below P (T2.setTop (mkF m 11 #[.val (.ref a1), .val (.ref x), .val (.ref y)] []))
    refine Go.by (fun _ => XS.aloadN X2.here hx rfl (hb hby d10_11) rfl rfl) ?_
    show Go p e below P (T2.setTop (mkF m 12 #[.val (.ref a1), .val (.ref x), .val (.ref y)] [(.ref y)]))
    have hZo := hZ
    obtain ⟨ls3, T3, h3, k3, lb3, kk3, X3, e3, E3, hS, hk, hZ, hown, FE3, FC3, FV3, FA3, -, -, Cr3, Li3, Sn3, st3⟩ := ldcCH X2 hx hZ hown (hw _ (List.mem_of_getElem? (i := 74) rfl)) (own_wS hw) eq2 hS hk (own_EW hw) (List.mem_of_getElem? (i := 0) rfl) C0 (vs := [(.int (100 : Int32)), (.int (101 : Int32)), (.int (102 : Int32)), (.int (97 : Int32)), (.int (117 : Int32)), (.int (108 : Int32)), (.int (116 : Int32))]) (z := (7 : Int32)) ⟨by decide, rfl⟩ (by decide) rfl (g := (mkF m 12 #[.val (.ref a1), .val (.ref x), .val (.ref y)] [(.ref y)])) rfl (hb hby d10_12) (n := 28) (Nat.le_of_ble_eq_true rfl) (Nat.le_of_ble_eq_true rfl) (Nat.le_of_ble_eq_true rfl) (Nat.le_of_ble_eq_true rfl)
    refine Go.by (fun _ => st3 _) ?_
    have R3 := R0.trans Cr3
    have C3 := Cr3.1
    have F4 : Fld Z h3 a1 "com/example/gather_solvers/gathersolvers/model/SolverFunction" "name" "Ljava/lang/String;" (.ref n1) := P0.ext E3
    have F5 : Fld Z h3 a1 "com/example/gather_solvers/gathersolvers/model/SolverFunction" "packageName" "Ljava/lang/String;" (.ref k1) := P1.ext E3
    have F6 : Str Z h3 n1 t1 ns := P2.ext E3
    have F7 : Str Z h3 k1 t2 ps := P3.ext E3
    have F8 : Str Z h3 x t3 as := P4.ext E3
    have F9 : Str Z h3 y t4 qs := P5.ext E3
    have O3 := O0.ext E3
    have Z3 : n0 ≤ h3.size := Nat.le_trans Z0 E3.1
    have K3 : Keep h0 h3 [] := (Keep.refl h0 []).ext E3
    have F10 : Str Z h3 ls3 lb3 ([(100 : Int32), (101 : Int32), (102 : Int32), (97 : Int32), (117 : Int32), (108 : Int32), (116 : Int32)] : List Int32) := Str.mk FE3 FV3 FC3 FA3 (Or.inl ⟨rfl, rfl, rfl, by decide⟩) (by decide) (Nat.le_of_ble_eq_true rfl)
    show Go p e below P (T3.setTop (mkF m 14 #[.val (.ref a1), .val (.ref x), .val (.ref y)] [(.ref ls3), (.ref y)]))
    obtain ⟨cq11, kq11, qa11, qb11, qc11⟩ := isOf hZ e3 F9.exa
    obtain ⟨_, _, ⟨T11, L11, k11, n11⟩, -, X11, ⟨Lc11, hQ11, l11, y11, z11⟩, st11⟩ := X3.virtualBack hx (y := (⟨"java/lang/String", "equals", "(Ljava/lang/Object;)Z"⟩ : MethodName)) (z := (⟨"java/lang/String", "equals", "(Ljava/lang/Object;)Z"⟩ : MethodName)) hown (mvT hZ (hw _ (List.mem_of_getElem? (i := 63) rfl))) (mvT hZ (hw _ (List.mem_of_getElem? (i := 64) rfl))) (notFace_of_selects (args := #[]) (mvT hZ (hw _ (List.mem_of_getElem? (i := 66) rfl)))) (mvT hZ (hw _ (List.mem_of_getElem? (i := 66) rfl))) (mvT hZ (hw _ (List.mem_of_getElem? (i := 65) rfl))) (by decide) (own_eqW (W := 0) hZ (own_wordsEq hw) (hw _ (List.mem_of_getElem? (i := 8) rfl)) F9 F10 (G0.ext O3.2) own_cs (Nat.le_of_ble_eq_true rfl) (Nat.le_of_ble_eq_true rfl)) qa11 qc11 (g := (mkF m 14 #[.val (.ref a1), .val (.ref x), .val (.ref y)] [(.ref ls3), (.ref y)])) rfl (by rw [hml]; rfl) (Steps.refl _) (argsL := [(.ref ls3)]) (rest := []) (lenOf pd_4 rfl) rfl (by show 2 * 0 + _ ≤ _; exact Nat.le_of_eq rfl) (hb hby d10_14) (fun _ _ => ⟨rfl, e3, (Nat.le_of_ble_eq_true rfl : 2 + 0 ≤ _), (Nat.le_of_ble_eq_true rfl : 32 + 0 ≤ _)⟩)
    dsimp only [Pt.U, Pt.locs, Pt.cells, Pt.slots] at X11 l11 y11 z11 st11 hQ11
    subst l11 y11 z11
    obtain ⟨hor11, rfl, eq11⟩ := hQ11
    have N11 := Fr.app N2 (Fr.nil n0)
    rcases hor11 with ⟨rfl, hcs11⟩ | ⟨rfl, hcs11⟩
    · refine Go.by (fun _ k => st11.trans k) ?_
      show Go p e below P (T11.setTop (mkF m 17 #[.val (.ref a1), .val (.ref x), .val (.ref y)] [(.int (1 : Int32))]))
      have hc17 : ¬ ((1 : Int32) = (0 : Int32)) := by decide
      refine Go.by (fun _ => XS.ifYes X11.here hx rfl (pc0 := 17) (pc' := 31) rfl (hb hby d10_17) rfl ((if0 _ _).trans (feq hc17).2) (by decide) (by decide)) ?_
      show Go p e below P (T11.setTop (mkF m 31 #[.val (.ref a1), .val (.ref x), .val (.ref y)] []))
      refine Go.by (fun _ => XS.iconst X11.here hx rfl (hb hby d10_31)) ?_
      show Go p e below P (T11.setTop (mkF m 32 #[.val (.ref a1), .val (.ref x), .val (.ref y)] [(.int (1 : Int32))]))
      refine Go.by (fun _ => XS.goto X11.here hx rfl (pc0 := 32) (pc' := 36) rfl (hb hby d10_32) (by decide) (by decide)) ?_
      show Go p e below P (T11.setTop (mkF m 36 #[.val (.ref a1), .val (.ref x), .val (.ref y)] [(.int (1 : Int32))]))
      subst hP
      refine Go.retZC (t := .boolean) X11 hx hS (by rw [eq11]; exact hk) Bd.returns (by simp) hlk (hb hby d10_36) (Nat.le_of_ble_eq_true rfl) (Nat.le_of_ble_eq_true rfl) ?_ (by rw [hh, eq11]; exact R3.trans (CHv.at X11 hZ (own_EW hw) C3))
      rw [eq11]
      exact ⟨by simp [hr, own_n1, own_n0, DEF, hcs2, hcs11], N11, K3⟩
    · refine Go.by (fun _ k => st11.trans k) ?_
      show Go p e below P (T11.setTop (mkF m 17 #[.val (.ref a1), .val (.ref x), .val (.ref y)] [(.int (0 : Int32))]))
      have hc17 : (0 : Int32) = (0 : Int32) := by decide
      refine Go.by (fun _ => XS.ifNo X11.here hx rfl (hb hby d10_17) rfl ((if0 _ _).trans (teq hc17).2)) ?_
      show Go p e below P (T11.setTop (mkF m 20 #[.val (.ref a1), .val (.ref x), .val (.ref y)] []))
      refine Go.by (fun _ => XS.aloadN X11.here hx rfl (hb hby d10_20) rfl rfl) ?_
      show Go p e below P (T11.setTop (mkF m 21 #[.val (.ref a1), .val (.ref x), .val (.ref y)] [(.ref y)]))
      refine Go.by (fun _ => XS.aloadN X11.here hx rfl (hb hby d10_21) rfl rfl) ?_
      show Go p e below P (T11.setTop (mkF m 22 #[.val (.ref a1), .val (.ref x), .val (.ref y)] [(.ref a1), (.ref y)]))
      obtain ⟨T12, X12, e12, st12⟩ := getF X11 hx hZ hown (host := "") (Or.inl (hw _ (List.mem_of_getElem? (i := 52) rfl))) Via.refl eq11 F5 (g := (mkF m 22 #[.val (.ref a1), .val (.ref x), .val (.ref y)] [(.ref a1), (.ref y)])) rfl rfl (hb hby d10_22)
      refine Go.by (fun _ => st12 _) ?_
      show Go p e below P (T12.setTop (mkF m 25 #[.val (.ref a1), .val (.ref x), .val (.ref y)] [(.ref k1), (.ref y)]))
      obtain ⟨cq13, kq13, qa13, qb13, qc13⟩ := isOf hZ e12 F9.exa
      obtain ⟨_, _, ⟨T13, L13, k13, n13⟩, -, X13, ⟨Lc13, hQ13, l13, y13, z13⟩, st13⟩ := X12.virtualBack hx (y := (⟨"java/lang/String", "equals", "(Ljava/lang/Object;)Z"⟩ : MethodName)) (z := (⟨"java/lang/String", "equals", "(Ljava/lang/Object;)Z"⟩ : MethodName)) hown (mvT hZ (hw _ (List.mem_of_getElem? (i := 63) rfl))) (mvT hZ (hw _ (List.mem_of_getElem? (i := 64) rfl))) (notFace_of_selects (args := #[]) (mvT hZ (hw _ (List.mem_of_getElem? (i := 66) rfl)))) (mvT hZ (hw _ (List.mem_of_getElem? (i := 66) rfl))) (mvT hZ (hw _ (List.mem_of_getElem? (i := 65) rfl))) (by decide) (own_eqW (W := 0) hZ (own_wordsEq hw) (hw _ (List.mem_of_getElem? (i := 8) rfl)) F9 F7 (G0.ext O3.2) own_cs (Nat.le_of_ble_eq_true rfl) (Nat.le_of_ble_eq_true rfl)) qa13 qc13 (g := (mkF m 25 #[.val (.ref a1), .val (.ref x), .val (.ref y)] [(.ref k1), (.ref y)])) rfl (by rw [hml]; rfl) (Steps.refl _) (argsL := [(.ref k1)]) (rest := []) (lenOf pd_4 rfl) rfl (by show 2 * 0 + _ ≤ _; exact Nat.le_of_eq rfl) (hb hby d10_25) (fun _ _ => ⟨rfl, e12, (Nat.le_of_ble_eq_true rfl : 2 + 0 ≤ _), (Nat.le_of_ble_eq_true rfl : 32 + 0 ≤ _)⟩)
      dsimp only [Pt.U, Pt.locs, Pt.cells, Pt.slots] at X13 l13 y13 z13 st13 hQ13
      subst l13 y13 z13
      obtain ⟨hor13, rfl, eq13⟩ := hQ13
      have N13 := Fr.app N11 (Fr.nil n0)
      rcases hor13 with ⟨rfl, hcs13⟩ | ⟨rfl, hcs13⟩
      · refine Go.by (fun _ k => st13.trans k) ?_
        show Go p e below P (T13.setTop (mkF m 28 #[.val (.ref a1), .val (.ref x), .val (.ref y)] [(.int (1 : Int32))]))
        have hc28 : ¬ ((1 : Int32) = (0 : Int32)) := by decide
        refine Go.by (fun _ => XS.ifNo X13.here hx rfl (hb hby d10_28) rfl ((if0 _ _).trans (feq hc28).1)) ?_
        show Go p e below P (T13.setTop (mkF m 31 #[.val (.ref a1), .val (.ref x), .val (.ref y)] []))
        refine Go.by (fun _ => XS.iconst X13.here hx rfl (hb hby d10_31)) ?_
        show Go p e below P (T13.setTop (mkF m 32 #[.val (.ref a1), .val (.ref x), .val (.ref y)] [(.int (1 : Int32))]))
        refine Go.by (fun _ => XS.goto X13.here hx rfl (pc0 := 32) (pc' := 36) rfl (hb hby d10_32) (by decide) (by decide)) ?_
        show Go p e below P (T13.setTop (mkF m 36 #[.val (.ref a1), .val (.ref x), .val (.ref y)] [(.int (1 : Int32))]))
        subst hP
        refine Go.retZC (t := .boolean) X13 hx hS (by rw [eq13]; exact hk) Bd.returns (by simp) hlk (hb hby d10_36) (Nat.le_of_ble_eq_true rfl) (Nat.le_of_ble_eq_true rfl) ?_ (by rw [hh, eq13]; exact R3.trans (CHv.at X13 hZ (own_EW hw) C3))
        rw [eq13]
        exact ⟨by simp [hr, own_n1, own_n0, DEF, hcs2, hcs11, hcs13], N13, K3⟩
      · refine Go.by (fun _ k => st13.trans k) ?_
        show Go p e below P (T13.setTop (mkF m 28 #[.val (.ref a1), .val (.ref x), .val (.ref y)] [(.int (0 : Int32))]))
        have hc28 : (0 : Int32) = (0 : Int32) := by decide
        refine Go.by (fun _ => XS.ifYes X13.here hx rfl (pc0 := 28) (pc' := 35) rfl (hb hby d10_28) rfl ((if0 _ _).trans (teq hc28).1) (by decide) (by decide)) ?_
        show Go p e below P (T13.setTop (mkF m 35 #[.val (.ref a1), .val (.ref x), .val (.ref y)] []))
        refine Go.by (fun _ => XS.iconst X13.here hx rfl (hb hby d10_35)) ?_
        show Go p e below P (T13.setTop (mkF m 36 #[.val (.ref a1), .val (.ref x), .val (.ref y)] [(.int (0 : Int32))]))
        subst hP
        refine Go.retZC (t := .boolean) X13 hx hS (by rw [eq13]; exact hk) Bd.returns (by simp) hlk (hb hby d10_36) (Nat.le_of_ble_eq_true rfl) (Nat.le_of_ble_eq_true rfl) ?_ (by rw [hh, eq13]; exact R3.trans (CHv.at X13 hZ (own_EW hw) C3))
        rw [eq13]
        exact ⟨by simp [hr, own_n1, own_n0, DEF, hcs2, hcs11, hcs13], N13, K3⟩
  · refine Go.by (fun _ k => st2.trans k) ?_
    show Go p e below P (T2.setTop (mkF m 8 #[.val (.ref a1), .val (.ref x), .val (.ref y)] [(.int (0 : Int32))]))
    have hc8 : (0 : Int32) = (0 : Int32) := by decide
    refine Go.by (fun _ => XS.ifYes X2.here hx rfl (pc0 := 8) (pc' := 35) rfl (hb hby d10_8) rfl ((if0 _ _).trans (teq hc8).1) (by decide) (by decide)) ?_
    show Go p e below P (T2.setTop (mkF m 35 #[.val (.ref a1), .val (.ref x), .val (.ref y)] []))
    refine Go.by (fun _ => XS.iconst X2.here hx rfl (hb hby d10_35)) ?_
    show Go p e below P (T2.setTop (mkF m 36 #[.val (.ref a1), .val (.ref x), .val (.ref y)] [(.int (0 : Int32))]))
    subst hP
    refine Go.retZC (t := .boolean) X2 hx hS (by rw [eq2]; exact hk) Bd.returns (by simp) hlk (hb hby d10_36) (Nat.le_of_ble_eq_true rfl) (Nat.le_of_ble_eq_true rfl) ?_ (by rw [hh, eq2]; exact R0.trans (CHv.at X2 hZ (own_EW hw) C0))
    rw [eq2]
    exact ⟨by simp [hr, own_n1, own_n0, DEF, hcs2], N2, (Keep.refl h0 [])⟩
theorem ef_law (m : MethodId) (x0 : Int32) (x1 : Int32) (x2 : Int32) (x3 : Int32) : entryFrame m #[(.int x0), (.int x1), (.int x2), (.int x3)] maxLocals = mkF m 0 #[.val (.int x0), .val (.int x1), .val (.int x2), .val (.int x3), .unset, .unset, .unset, .unset, .unset, .unset, .unset, .unset, .unset, .unset, .unset, .unset, .unset, .unset, .unset, .unset, .unset, .unset, .unset, .unset, .unset, .unset] [] := by first | (simp [entryFrame, mkF, argsToLocals, Value.category, maxLocals]; done) | rfl
def Q_law (Z : State) (zC : Int32) (p0 : Int32) (p1 : Int32) (p2 : Int32) (p3 : Int32) (h0 : Heap) (n0 : Nat) (v : Option Value) (h : Heap) (L : List Loc) : Prop := v = some (.int 1) ∧ Fr n0 L
set_option maxRecDepth 65536 in
set_option maxHeartbeats 40000000 in
theorem rm_law (l : Launch) (Z : State) (a0 : Array Value) (hw : ∀ d ∈ tables_1, d.before a0 Z = true) (ws : List Jvm.Cond) (zC : Int32) (hG : Glob Z zC) (p0 : Int32) (p1 : Int32) (p2 : Int32) (p3 : Int32) (h0 : Heap) (n0 : Nat) (Z0 : n0 ≤ h0.size) (O0 : Old Z n0 h0) :
    MetFree l x (head1 (Jvm.Cond.code x code maxLocals ret :: ws) room_1) (fun a U => a = #[(.int p0), (.int p1), (.int p2), (.int p3)] ∧ Z.Warmed39 U.vm ∧ U.heap = h0 ∧ CHv Z consts_1 U.vm h0) (fun _ _ _ _ _ => True) (fun _ U o U' => ∃ v L, o = .returned v ∧ Q_law Z zC p0 p1 p2 p3 h0 n0 v U'.heap L ∧ CHr Z consts_1 U.vm U.heap U'.vm U'.heap ∧ ReturnedEndW U o U' L 31 140) := by
  refine MetFree.of_bodySF (plainFor_of_name pn_1) hisR ?_
  intro p e s m args below meth c s₁ Bd hml0 hP hK
  obtain ⟨rfl, hZ, hh, C0⟩ := hP
  have hx := Bd.exec
  have hby := Bd.bytes
  have hml : c.maxLocals = 26 := hml0
  have hown : s.vm.findClass "com/example/gather_solvers/gathersolvers/model/SolverFunctionMatchesPinLaw" = some m.cls := findClass_of_methodNamed Bd.named
  have hnm := (name_of_methodNamed Bd.named Bd.method).1
  have hlk : meth.locks = false := BodyLoose.notSynchronized Bd
  have X0 : Stand p l e room_1 (s.setVm s.vm) m #[(.int p0), (.int p1), (.int p2), (.int p3)] below meth c s₁ [] 0 0 := Stand.of_body Bd
  have e0 : s₁.heap = h0 := by rw [← hh, Bd.state]; rfl
  have N0 := Fr.nil n0
  obtain ⟨G0, own_cs⟩ := id hG
  have hS : s.Since s.vm 0 := (State.WarmedH.refl s).since 0
  have hk : 0 ≤ h0.size := Nat.zero_le _
  have R0 : CHr Z consts_1 s.vm h0 s.vm h0 := CHr.refl C0
  show Go p e below (EndC Z consts_1 s (Q_law Z zC p0 p1 p2 p3 h0 n0) 31 140) (s₁.setTop (entryFrame m #[(.int p0), (.int p1), (.int p2), (.int p3)] maxLocals))
  rw [ef_law]
  generalize hP : EndC Z consts_1 s (Q_law Z zC p0 p1 p2 p3 h0 n0) 31 140 = P
  show Go p e below P (s₁.setTop (mkF m 0 #[.val (.int p0), .val (.int p1), .val (.int p2), .val (.int p3), .unset, .unset, .unset, .unset, .unset, .unset, .unset, .unset, .unset, .unset, .unset, .unset, .unset, .unset, .unset, .unset, .unset, .unset, .unset, .unset, .unset, .unset] []))
  refine Go.by (fun _ => XS.iloadN X0.here hx rfl (hb hby at_0) rfl) ?_
  show Go p e below P (s₁.setTop (mkF m 1 #[.val (.int p0), .val (.int p1), .val (.int p2), .val (.int p3), .unset, .unset, .unset, .unset, .unset, .unset, .unset, .unset, .unset, .unset, .unset, .unset, .unset, .unset, .unset, .unset, .unset, .unset, .unset, .unset, .unset, .unset] [(.int p0)]))
  refine Go.by (fun _ => XS.sipush X0.here hx rfl (hb hby at_1)) ?_
  show Go p e below P (s₁.setTop (mkF m 4 #[.val (.int p0), .val (.int p1), .val (.int p2), .val (.int p3), .unset, .unset, .unset, .unset, .unset, .unset, .unset, .unset, .unset, .unset, .unset, .unset, .unset, .unset, .unset, .unset, .unset, .unset, .unset, .unset, .unset, .unset] [(.int (255 : Int32)), (.int p0)]))
  refine Go.by (fun _ => XS.iand X0.here hx rfl (hb hby at_4) rfl) ?_
  show Go p e below P (s₁.setTop (mkF m 5 #[.val (.int p0), .val (.int p1), .val (.int p2), .val (.int p3), .unset, .unset, .unset, .unset, .unset, .unset, .unset, .unset, .unset, .unset, .unset, .unset, .unset, .unset, .unset, .unset, .unset, .unset, .unset, .unset, .unset, .unset] [(.int (p0 &&& (255 : Int32)))]))
  generalize hv_r0 : (p0 &&& (255 : Int32)) = r0
  refine Go.by (fun _ => XS.istore X0.here hx rfl (hb hby at_5) rfl (l' := #[.val (.int p0), .val (.int p1), .val (.int p2), .val (.int p3), .val (.int r0), .unset, .unset, .unset, .unset, .unset, .unset, .unset, .unset, .unset, .unset, .unset, .unset, .unset, .unset, .unset, .unset, .unset, .unset, .unset, .unset, .unset]) rfl) ?_
  show Go p e below P (s₁.setTop (mkF m 7 #[.val (.int p0), .val (.int p1), .val (.int p2), .val (.int p3), .val (.int r0), .unset, .unset, .unset, .unset, .unset, .unset, .unset, .unset, .unset, .unset, .unset, .unset, .unset, .unset, .unset, .unset, .unset, .unset, .unset, .unset, .unset] []))
  have hr_r0 : ¬ r0 < 0 ∧ ¬ (255 : Int32) < r0 := by rw [← hv_r0]; exact own_and255 _
  refine Go.by (fun _ => XS.iloadN X0.here hx rfl (hb hby at_7) rfl) ?_
  show Go p e below P (s₁.setTop (mkF m 8 #[.val (.int p0), .val (.int p1), .val (.int p2), .val (.int p3), .val (.int r0), .unset, .unset, .unset, .unset, .unset, .unset, .unset, .unset, .unset, .unset, .unset, .unset, .unset, .unset, .unset, .unset, .unset, .unset, .unset, .unset, .unset] [(.int p0)]))
  refine Go.by (fun _ => XS.bipush X0.here hx rfl (hb hby at_8)) ?_
  show Go p e below P (s₁.setTop (mkF m 10 #[.val (.int p0), .val (.int p1), .val (.int p2), .val (.int p3), .val (.int r0), .unset, .unset, .unset, .unset, .unset, .unset, .unset, .unset, .unset, .unset, .unset, .unset, .unset, .unset, .unset, .unset, .unset, .unset, .unset, .unset, .unset] [(.int (8 : Int32)), (.int p0)]))
  refine Go.by (fun _ => XS.iushr X0.here hx rfl (hb hby at_10) rfl) ?_
  show Go p e below P (s₁.setTop (mkF m 11 #[.val (.int p0), .val (.int p1), .val (.int p2), .val (.int p3), .val (.int r0), .unset, .unset, .unset, .unset, .unset, .unset, .unset, .unset, .unset, .unset, .unset, .unset, .unset, .unset, .unset, .unset, .unset, .unset, .unset, .unset, .unset] [(.int (((p0).toUInt32 >>> ((8 : Int32) &&& 31).toUInt32).toInt32))]))
  refine Go.by (fun _ => XS.sipush X0.here hx rfl (hb hby at_11)) ?_
  show Go p e below P (s₁.setTop (mkF m 14 #[.val (.int p0), .val (.int p1), .val (.int p2), .val (.int p3), .val (.int r0), .unset, .unset, .unset, .unset, .unset, .unset, .unset, .unset, .unset, .unset, .unset, .unset, .unset, .unset, .unset, .unset, .unset, .unset, .unset, .unset, .unset] [(.int (255 : Int32)), (.int (((p0).toUInt32 >>> ((8 : Int32) &&& 31).toUInt32).toInt32))]))
  refine Go.by (fun _ => XS.iand X0.here hx rfl (hb hby at_14) rfl) ?_
  show Go p e below P (s₁.setTop (mkF m 15 #[.val (.int p0), .val (.int p1), .val (.int p2), .val (.int p3), .val (.int r0), .unset, .unset, .unset, .unset, .unset, .unset, .unset, .unset, .unset, .unset, .unset, .unset, .unset, .unset, .unset, .unset, .unset, .unset, .unset, .unset, .unset] [(.int ((((p0).toUInt32 >>> ((8 : Int32) &&& 31).toUInt32).toInt32) &&& (255 : Int32)))]))
  generalize hv_r1 : ((((p0).toUInt32 >>> ((8 : Int32) &&& 31).toUInt32).toInt32) &&& (255 : Int32)) = r1
  refine Go.by (fun _ => XS.istore X0.here hx rfl (hb hby at_15) rfl (l' := #[.val (.int p0), .val (.int p1), .val (.int p2), .val (.int p3), .val (.int r0), .val (.int r1), .unset, .unset, .unset, .unset, .unset, .unset, .unset, .unset, .unset, .unset, .unset, .unset, .unset, .unset, .unset, .unset, .unset, .unset, .unset, .unset]) rfl) ?_
  show Go p e below P (s₁.setTop (mkF m 17 #[.val (.int p0), .val (.int p1), .val (.int p2), .val (.int p3), .val (.int r0), .val (.int r1), .unset, .unset, .unset, .unset, .unset, .unset, .unset, .unset, .unset, .unset, .unset, .unset, .unset, .unset, .unset, .unset, .unset, .unset, .unset, .unset] []))
  have hr_r1 : ¬ r1 < 0 ∧ ¬ (255 : Int32) < r1 := by rw [← hv_r1]; exact own_and255 _
  refine Go.by (fun _ => XS.iloadN X0.here hx rfl (hb hby at_17) rfl) ?_
  show Go p e below P (s₁.setTop (mkF m 18 #[.val (.int p0), .val (.int p1), .val (.int p2), .val (.int p3), .val (.int r0), .val (.int r1), .unset, .unset, .unset, .unset, .unset, .unset, .unset, .unset, .unset, .unset, .unset, .unset, .unset, .unset, .unset, .unset, .unset, .unset, .unset, .unset] [(.int p0)]))
  refine Go.by (fun _ => XS.bipush X0.here hx rfl (hb hby at_18)) ?_
  show Go p e below P (s₁.setTop (mkF m 20 #[.val (.int p0), .val (.int p1), .val (.int p2), .val (.int p3), .val (.int r0), .val (.int r1), .unset, .unset, .unset, .unset, .unset, .unset, .unset, .unset, .unset, .unset, .unset, .unset, .unset, .unset, .unset, .unset, .unset, .unset, .unset, .unset] [(.int (16 : Int32)), (.int p0)]))
  refine Go.by (fun _ => XS.iushr X0.here hx rfl (hb hby at_20) rfl) ?_
  show Go p e below P (s₁.setTop (mkF m 21 #[.val (.int p0), .val (.int p1), .val (.int p2), .val (.int p3), .val (.int r0), .val (.int r1), .unset, .unset, .unset, .unset, .unset, .unset, .unset, .unset, .unset, .unset, .unset, .unset, .unset, .unset, .unset, .unset, .unset, .unset, .unset, .unset] [(.int (((p0).toUInt32 >>> ((16 : Int32) &&& 31).toUInt32).toInt32))]))
  obtain ⟨_, _, ⟨T1, L1, k1, n1⟩, -, X1, ⟨Lc1, hQ1, l1, y1, z1⟩, st1⟩ := Jvm.LawKit.callS X0 hx (y := (⟨"com/example/gather_solvers/gathersolvers/model/SolverFunctionMatchesPinLaw", "lenOf", "(I)I"⟩ : MethodName)) hown (mvT hZ (hw _ (List.mem_of_getElem? (i := 0) rfl))) (mvT hZ (hw _ (List.mem_of_getElem? (i := 1) rfl))) (mvT hZ (hw _ (List.mem_of_getElem? (i := 2) rfl))) (mvT hZ (hw _ (List.mem_of_getElem? (i := 3) rfl))) (by decide) (backOf (W := 0) (rm_len l Z a0 hw [] zC hG ((((p0).toUInt32 >>> ((16 : Int32) &&& 31).toUInt32).toInt32)) h0 n0 Z0 O0  ) hZ (hw _ (List.mem_of_getElem? (i := 3) rfl)) (hw _ (List.mem_of_getElem? (i := 2) rfl)) (Nat.le_of_ble_eq_true rfl) (Nat.le_of_ble_eq_true rfl)) (g := (mkF m 21 #[.val (.int p0), .val (.int p1), .val (.int p2), .val (.int p3), .val (.int r0), .val (.int r1), .unset, .unset, .unset, .unset, .unset, .unset, .unset, .unset, .unset, .unset, .unset, .unset, .unset, .unset, .unset, .unset, .unset, .unset, .unset, .unset] [(.int (((p0).toUInt32 >>> ((16 : Int32) &&& 31).toUInt32).toInt32))])) rfl (by rw [hml]; rfl) (argsL := [(.int (((p0).toUInt32 >>> ((16 : Int32) &&& 31).toUInt32).toInt32))]) (rest := []) (lenOf pd_5 rfl) rfl (by show 2 * 0 + _ ≤ _; exact Nat.le_of_eq rfl) (hb hby at_21) (fun _ _ => ⟨rfl, e0, (Nat.le_of_ble_eq_true rfl : 0 + 0 ≤ _), (Nat.le_of_ble_eq_true rfl : 0 + 0 ≤ _)⟩)
  dsimp only [Pt.U, Pt.locs, Pt.cells, Pt.slots] at X1 l1 y1 z1 st1 hQ1
  subst l1 y1 z1
  obtain ⟨r_1, rfl, Nq1, eq1, hq1_0⟩ := hQ1
  have N1 := Fr.app N0 Nq1
  refine Go.by (fun _ => st1 _) ?_
  show Go p e below P (T1.setTop (mkF m 24 #[.val (.int p0), .val (.int p1), .val (.int p2), .val (.int p3), .val (.int r0), .val (.int r1), .unset, .unset, .unset, .unset, .unset, .unset, .unset, .unset, .unset, .unset, .unset, .unset, .unset, .unset, .unset, .unset, .unset, .unset, .unset, .unset] [(.int r_1)]))
  refine Go.by (fun _ => XS.istore X1.here hx rfl (hb hby at_24) rfl (l' := #[.val (.int p0), .val (.int p1), .val (.int p2), .val (.int p3), .val (.int r0), .val (.int r1), .val (.int r_1), .unset, .unset, .unset, .unset, .unset, .unset, .unset, .unset, .unset, .unset, .unset, .unset, .unset, .unset, .unset, .unset, .unset, .unset, .unset]) rfl) ?_
  show Go p e below P (T1.setTop (mkF m 26 #[.val (.int p0), .val (.int p1), .val (.int p2), .val (.int p3), .val (.int r0), .val (.int r1), .val (.int r_1), .unset, .unset, .unset, .unset, .unset, .unset, .unset, .unset, .unset, .unset, .unset, .unset, .unset, .unset, .unset, .unset, .unset, .unset, .unset] []))
  refine Go.by (fun _ => XS.iloadN X1.here hx rfl (hb hby at_26) rfl) ?_
  show Go p e below P (T1.setTop (mkF m 27 #[.val (.int p0), .val (.int p1), .val (.int p2), .val (.int p3), .val (.int r0), .val (.int r1), .val (.int r_1), .unset, .unset, .unset, .unset, .unset, .unset, .unset, .unset, .unset, .unset, .unset, .unset, .unset, .unset, .unset, .unset, .unset, .unset, .unset] [(.int p0)]))
  refine Go.by (fun _ => XS.bipush X1.here hx rfl (hb hby at_27)) ?_
  show Go p e below P (T1.setTop (mkF m 29 #[.val (.int p0), .val (.int p1), .val (.int p2), .val (.int p3), .val (.int r0), .val (.int r1), .val (.int r_1), .unset, .unset, .unset, .unset, .unset, .unset, .unset, .unset, .unset, .unset, .unset, .unset, .unset, .unset, .unset, .unset, .unset, .unset, .unset] [(.int (18 : Int32)), (.int p0)]))
  refine Go.by (fun _ => XS.iushr X1.here hx rfl (hb hby at_29) rfl) ?_
  show Go p e below P (T1.setTop (mkF m 30 #[.val (.int p0), .val (.int p1), .val (.int p2), .val (.int p3), .val (.int r0), .val (.int r1), .val (.int r_1), .unset, .unset, .unset, .unset, .unset, .unset, .unset, .unset, .unset, .unset, .unset, .unset, .unset, .unset, .unset, .unset, .unset, .unset, .unset] [(.int (((p0).toUInt32 >>> ((18 : Int32) &&& 31).toUInt32).toInt32))]))
  obtain ⟨_, _, ⟨T2, L2, k2, n2⟩, -, X2, ⟨Lc2, hQ2, l2, y2, z2⟩, st2⟩ := Jvm.LawKit.callS X1 hx (y := (⟨"com/example/gather_solvers/gathersolvers/model/SolverFunctionMatchesPinLaw", "lenOf", "(I)I"⟩ : MethodName)) hown (mvT hZ (hw _ (List.mem_of_getElem? (i := 0) rfl))) (mvT hZ (hw _ (List.mem_of_getElem? (i := 1) rfl))) (mvT hZ (hw _ (List.mem_of_getElem? (i := 2) rfl))) (mvT hZ (hw _ (List.mem_of_getElem? (i := 3) rfl))) (by decide) (backOf (W := 0) (rm_len l Z a0 hw [] zC hG ((((p0).toUInt32 >>> ((18 : Int32) &&& 31).toUInt32).toInt32)) h0 n0 Z0 O0  ) hZ (hw _ (List.mem_of_getElem? (i := 3) rfl)) (hw _ (List.mem_of_getElem? (i := 2) rfl)) (Nat.le_of_ble_eq_true rfl) (Nat.le_of_ble_eq_true rfl)) (g := (mkF m 30 #[.val (.int p0), .val (.int p1), .val (.int p2), .val (.int p3), .val (.int r0), .val (.int r1), .val (.int r_1), .unset, .unset, .unset, .unset, .unset, .unset, .unset, .unset, .unset, .unset, .unset, .unset, .unset, .unset, .unset, .unset, .unset, .unset, .unset] [(.int (((p0).toUInt32 >>> ((18 : Int32) &&& 31).toUInt32).toInt32))])) rfl (by rw [hml]; rfl) (argsL := [(.int (((p0).toUInt32 >>> ((18 : Int32) &&& 31).toUInt32).toInt32))]) (rest := []) (lenOf pd_5 rfl) rfl (by show 2 * 0 + _ ≤ _; exact Nat.le_of_eq rfl) (hb hby at_30) (fun _ _ => ⟨rfl, eq1, (Nat.le_of_ble_eq_true rfl : 0 + 0 ≤ _), (Nat.le_of_ble_eq_true rfl : 0 + 0 ≤ _)⟩)
  dsimp only [Pt.U, Pt.locs, Pt.cells, Pt.slots] at X2 l2 y2 z2 st2 hQ2
  subst l2 y2 z2
  obtain ⟨r_2, rfl, Nq2, eq2, hq2_0⟩ := hQ2
  have N2 := Fr.app N1 Nq2
  refine Go.by (fun _ => st2 _) ?_
  show Go p e below P (T2.setTop (mkF m 33 #[.val (.int p0), .val (.int p1), .val (.int p2), .val (.int p3), .val (.int r0), .val (.int r1), .val (.int r_1), .unset, .unset, .unset, .unset, .unset, .unset, .unset, .unset, .unset, .unset, .unset, .unset, .unset, .unset, .unset, .unset, .unset, .unset, .unset] [(.int r_2)]))
  refine Go.by (fun _ => XS.istore X2.here hx rfl (hb hby at_33) rfl (l' := #[.val (.int p0), .val (.int p1), .val (.int p2), .val (.int p3), .val (.int r0), .val (.int r1), .val (.int r_1), .val (.int r_2), .unset, .unset, .unset, .unset, .unset, .unset, .unset, .unset, .unset, .unset, .unset, .unset, .unset, .unset, .unset, .unset, .unset, .unset]) rfl) ?_
  show Go p e below P (T2.setTop (mkF m 35 #[.val (.int p0), .val (.int p1), .val (.int p2), .val (.int p3), .val (.int r0), .val (.int r1), .val (.int r_1), .val (.int r_2), .unset, .unset, .unset, .unset, .unset, .unset, .unset, .unset, .unset, .unset, .unset, .unset, .unset, .unset, .unset, .unset, .unset, .unset] []))
  refine Go.by (fun _ => XS.iloadN X2.here hx rfl (hb hby at_35) rfl) ?_
  show Go p e below P (T2.setTop (mkF m 36 #[.val (.int p0), .val (.int p1), .val (.int p2), .val (.int p3), .val (.int r0), .val (.int r1), .val (.int r_1), .val (.int r_2), .unset, .unset, .unset, .unset, .unset, .unset, .unset, .unset, .unset, .unset, .unset, .unset, .unset, .unset, .unset, .unset, .unset, .unset] [(.int p0)]))
  refine Go.by (fun _ => XS.bipush X2.here hx rfl (hb hby at_36)) ?_
  show Go p e below P (T2.setTop (mkF m 38 #[.val (.int p0), .val (.int p1), .val (.int p2), .val (.int p3), .val (.int r0), .val (.int r1), .val (.int r_1), .val (.int r_2), .unset, .unset, .unset, .unset, .unset, .unset, .unset, .unset, .unset, .unset, .unset, .unset, .unset, .unset, .unset, .unset, .unset, .unset] [(.int (20 : Int32)), (.int p0)]))
  refine Go.by (fun _ => XS.iushr X2.here hx rfl (hb hby at_38) rfl) ?_
  show Go p e below P (T2.setTop (mkF m 39 #[.val (.int p0), .val (.int p1), .val (.int p2), .val (.int p3), .val (.int r0), .val (.int r1), .val (.int r_1), .val (.int r_2), .unset, .unset, .unset, .unset, .unset, .unset, .unset, .unset, .unset, .unset, .unset, .unset, .unset, .unset, .unset, .unset, .unset, .unset] [(.int (((p0).toUInt32 >>> ((20 : Int32) &&& 31).toUInt32).toInt32))]))
  refine Go.by (fun _ => XS.iconst X2.here hx rfl (hb hby at_39)) ?_
  show Go p e below P (T2.setTop (mkF m 40 #[.val (.int p0), .val (.int p1), .val (.int p2), .val (.int p3), .val (.int r0), .val (.int r1), .val (.int r_1), .val (.int r_2), .unset, .unset, .unset, .unset, .unset, .unset, .unset, .unset, .unset, .unset, .unset, .unset, .unset, .unset, .unset, .unset, .unset, .unset] [(.int (1 : Int32)), (.int (((p0).toUInt32 >>> ((20 : Int32) &&& 31).toUInt32).toInt32))]))
  refine Go.by (fun _ => XS.iand X2.here hx rfl (hb hby at_40) rfl) ?_
  show Go p e below P (T2.setTop (mkF m 41 #[.val (.int p0), .val (.int p1), .val (.int p2), .val (.int p3), .val (.int r0), .val (.int r1), .val (.int r_1), .val (.int r_2), .unset, .unset, .unset, .unset, .unset, .unset, .unset, .unset, .unset, .unset, .unset, .unset, .unset, .unset, .unset, .unset, .unset, .unset] [(.int ((((p0).toUInt32 >>> ((20 : Int32) &&& 31).toUInt32).toInt32) &&& (1 : Int32)))]))
  have J54 : ∀ (n0_ : Int32) (hr_n0_ : ¬ n0_ < 0 ∧ ¬ (255 : Int32) < n0_), Go p e below P (T2.setTop (mkF m 54 #[.val (.int p0), .val (.int p1), .val (.int p2), .val (.int p3), .val (.int r0), .val (.int r1), .val (.int r_1), .val (.int r_2), .unset, .unset, .unset, .unset, .unset, .unset, .unset, .unset, .unset, .unset, .unset, .unset, .unset, .unset, .unset, .unset, .unset, .unset] [(.int n0_)])) := by
    intro n0_ hr_n0_
    refine Go.by (fun _ => XS.istore X2.here hx rfl (hb hby at_54) rfl (l' := #[.val (.int p0), .val (.int p1), .val (.int p2), .val (.int p3), .val (.int r0), .val (.int r1), .val (.int r_1), .val (.int r_2), .val (.int n0_), .unset, .unset, .unset, .unset, .unset, .unset, .unset, .unset, .unset, .unset, .unset, .unset, .unset, .unset, .unset, .unset, .unset]) rfl) ?_
    show Go p e below P (T2.setTop (mkF m 56 #[.val (.int p0), .val (.int p1), .val (.int p2), .val (.int p3), .val (.int r0), .val (.int r1), .val (.int r_1), .val (.int r_2), .val (.int n0_), .unset, .unset, .unset, .unset, .unset, .unset, .unset, .unset, .unset, .unset, .unset, .unset, .unset, .unset, .unset, .unset, .unset] []))
    refine Go.by (fun _ => XS.iloadN X2.here hx rfl (hb hby at_56) rfl) ?_
    show Go p e below P (T2.setTop (mkF m 57 #[.val (.int p0), .val (.int p1), .val (.int p2), .val (.int p3), .val (.int r0), .val (.int r1), .val (.int r_1), .val (.int r_2), .val (.int n0_), .unset, .unset, .unset, .unset, .unset, .unset, .unset, .unset, .unset, .unset, .unset, .unset, .unset, .unset, .unset, .unset, .unset] [(.int p0)]))
    refine Go.by (fun _ => XS.bipush X2.here hx rfl (hb hby at_57)) ?_
    show Go p e below P (T2.setTop (mkF m 59 #[.val (.int p0), .val (.int p1), .val (.int p2), .val (.int p3), .val (.int r0), .val (.int r1), .val (.int r_1), .val (.int r_2), .val (.int n0_), .unset, .unset, .unset, .unset, .unset, .unset, .unset, .unset, .unset, .unset, .unset, .unset, .unset, .unset, .unset, .unset, .unset] [(.int (21 : Int32)), (.int p0)]))
    refine Go.by (fun _ => XS.iushr X2.here hx rfl (hb hby at_59) rfl) ?_
    show Go p e below P (T2.setTop (mkF m 60 #[.val (.int p0), .val (.int p1), .val (.int p2), .val (.int p3), .val (.int r0), .val (.int r1), .val (.int r_1), .val (.int r_2), .val (.int n0_), .unset, .unset, .unset, .unset, .unset, .unset, .unset, .unset, .unset, .unset, .unset, .unset, .unset, .unset, .unset, .unset, .unset] [(.int (((p0).toUInt32 >>> ((21 : Int32) &&& 31).toUInt32).toInt32))]))
    refine Go.by (fun _ => XS.iconst X2.here hx rfl (hb hby at_60)) ?_
    show Go p e below P (T2.setTop (mkF m 61 #[.val (.int p0), .val (.int p1), .val (.int p2), .val (.int p3), .val (.int r0), .val (.int r1), .val (.int r_1), .val (.int r_2), .val (.int n0_), .unset, .unset, .unset, .unset, .unset, .unset, .unset, .unset, .unset, .unset, .unset, .unset, .unset, .unset, .unset, .unset, .unset] [(.int (1 : Int32)), (.int (((p0).toUInt32 >>> ((21 : Int32) &&& 31).toUInt32).toInt32))]))
    refine Go.by (fun _ => XS.iand X2.here hx rfl (hb hby at_61) rfl) ?_
    show Go p e below P (T2.setTop (mkF m 62 #[.val (.int p0), .val (.int p1), .val (.int p2), .val (.int p3), .val (.int r0), .val (.int r1), .val (.int r_1), .val (.int r_2), .val (.int n0_), .unset, .unset, .unset, .unset, .unset, .unset, .unset, .unset, .unset, .unset, .unset, .unset, .unset, .unset, .unset, .unset, .unset] [(.int ((((p0).toUInt32 >>> ((21 : Int32) &&& 31).toUInt32).toInt32) &&& (1 : Int32)))]))
    have J78 : ∀ (n1_ : Int32) (hr_n1_ : ¬ n1_ < 0 ∧ ¬ (255 : Int32) < n1_), Go p e below P (T2.setTop (mkF m 78 #[.val (.int p0), .val (.int p1), .val (.int p2), .val (.int p3), .val (.int r0), .val (.int r1), .val (.int r_1), .val (.int r_2), .val (.int n0_), .unset, .unset, .unset, .unset, .unset, .unset, .unset, .unset, .unset, .unset, .unset, .unset, .unset, .unset, .unset, .unset, .unset] [(.int n1_)])) := by
      intro n1_ hr_n1_
      refine Go.by (fun _ => XS.istore X2.here hx rfl (hb hby at_78) rfl (l' := #[.val (.int p0), .val (.int p1), .val (.int p2), .val (.int p3), .val (.int r0), .val (.int r1), .val (.int r_1), .val (.int r_2), .val (.int n0_), .val (.int n1_), .unset, .unset, .unset, .unset, .unset, .unset, .unset, .unset, .unset, .unset, .unset, .unset, .unset, .unset, .unset, .unset]) rfl) ?_
      show Go p e below P (T2.setTop (mkF m 80 #[.val (.int p0), .val (.int p1), .val (.int p2), .val (.int p3), .val (.int r0), .val (.int r1), .val (.int r_1), .val (.int r_2), .val (.int n0_), .val (.int n1_), .unset, .unset, .unset, .unset, .unset, .unset, .unset, .unset, .unset, .unset, .unset, .unset, .unset, .unset, .unset, .unset] []))
      refine Go.by (fun _ => XS.iload X2.here hx rfl (hb hby at_80) rfl) ?_
      show Go p e below P (T2.setTop (mkF m 82 #[.val (.int p0), .val (.int p1), .val (.int p2), .val (.int p3), .val (.int r0), .val (.int r1), .val (.int r_1), .val (.int r_2), .val (.int n0_), .val (.int n1_), .unset, .unset, .unset, .unset, .unset, .unset, .unset, .unset, .unset, .unset, .unset, .unset, .unset, .unset, .unset, .unset] [(.int r_1)]))
      refine Go.by (fun _ => XS.iload X2.here hx rfl (hb hby at_82) rfl) ?_
      show Go p e below P (T2.setTop (mkF m 84 #[.val (.int p0), .val (.int p1), .val (.int p2), .val (.int p3), .val (.int r0), .val (.int r1), .val (.int r_1), .val (.int r_2), .val (.int n0_), .val (.int n1_), .unset, .unset, .unset, .unset, .unset, .unset, .unset, .unset, .unset, .unset, .unset, .unset, .unset, .unset, .unset, .unset] [(.int r0), (.int r_1)]))
      refine Go.by (fun _ => XS.iload X2.here hx rfl (hb hby at_84) rfl) ?_
      show Go p e below P (T2.setTop (mkF m 86 #[.val (.int p0), .val (.int p1), .val (.int p2), .val (.int p3), .val (.int r0), .val (.int r1), .val (.int r_1), .val (.int r_2), .val (.int n0_), .val (.int n1_), .unset, .unset, .unset, .unset, .unset, .unset, .unset, .unset, .unset, .unset, .unset, .unset, .unset, .unset, .unset, .unset] [(.int r1), (.int r0), (.int r_1)]))
      obtain ⟨_, _, ⟨T3, L3, k3, n3⟩, -, X3, hSc3, hgr3, ⟨Lc3, hQ3, l3, y3, z3, Cr3⟩, st3⟩ := callSS X2 hx (y := (⟨"com/example/gather_solvers/gathersolvers/model/SolverFunctionMatchesPinLaw", "str", "(III)Ljava/lang/String;"⟩ : MethodName)) hown (mvT hZ (hw _ (List.mem_of_getElem? (i := 4) rfl))) (mvT hZ (hw _ (List.mem_of_getElem? (i := 5) rfl))) (mvT hZ (hw _ (List.mem_of_getElem? (i := 2) rfl))) (mvT hZ (hw _ (List.mem_of_getElem? (i := 6) rfl))) (by decide) (backOfSH (W := 0) (rm_str l Z a0 hw [] zC hG r_1 r0 r1 h0 n0 Z0 O0  hr_r0 hr_r1) hZ (hw _ (List.mem_of_getElem? (i := 6) rfl)) (hw _ (List.mem_of_getElem? (i := 2) rfl)) (Nat.le_of_ble_eq_true rfl) (Nat.le_of_ble_eq_true rfl) (own_EW hw) C0) (g := (mkF m 86 #[.val (.int p0), .val (.int p1), .val (.int p2), .val (.int p3), .val (.int r0), .val (.int r1), .val (.int r_1), .val (.int r_2), .val (.int n0_), .val (.int n1_), .unset, .unset, .unset, .unset, .unset, .unset, .unset, .unset, .unset, .unset, .unset, .unset, .unset, .unset, .unset, .unset] [(.int r1), (.int r0), (.int r_1)])) rfl (by rw [hml]; rfl) (argsL := [(.int r_1), (.int r0), (.int r1)]) (rest := []) (lenOf pd_2 rfl) rfl (by show 2 * 0 + _ ≤ _; exact Nat.le_of_eq rfl) (hb hby at_86) (fun _ _ => ⟨rfl, eq2, (Nat.le_of_ble_eq_true rfl : 0 + 6 ≤ _), (Nat.le_of_ble_eq_true rfl : 0 + 12 ≤ _)⟩)
      dsimp only [Pt.U, Pt.locs, Pt.cells, Pt.slots] at X3 l3 y3 z3 st3 hQ3 hSc3 hgr3 Cr3
      subst l3 y3 z3
      have hZo := hZ
      obtain ⟨X3, hS, hZ, hown⟩ := rebS hS (by rw [eq2]; exact hk) X3 hSc3 hgr3 hZ hown
      have hk : T3.heap.size ≤ T3.heap.size := Nat.le_refl _
      have R3 := R0.trans Cr3
      have C3 := Cr3.1
      obtain ⟨r_3, t_3, rfl, Nq3, Kc3, F4⟩ := hQ3
      have N3 := Fr.app N2 Nq3
      refine Go.by (fun _ k => st3.trans k) ?_
      have O3 := O0.keep Kc3 all0
      have Z3 : n0 ≤ T3.heap.size := Nat.le_trans Z0 Kc3.1
      show Go p e below P (T3.setTop (mkF m 89 #[.val (.int p0), .val (.int p1), .val (.int p2), .val (.int p3), .val (.int r0), .val (.int r1), .val (.int r_1), .val (.int r_2), .val (.int n0_), .val (.int n1_), .unset, .unset, .unset, .unset, .unset, .unset, .unset, .unset, .unset, .unset, .unset, .unset, .unset, .unset, .unset, .unset] [(.ref r_3)]))
      refine Go.by (fun _ => XS.astore X3.here hx rfl (hb hby at_89) rfl rfl (l' := #[.val (.int p0), .val (.int p1), .val (.int p2), .val (.int p3), .val (.int r0), .val (.int r1), .val (.int r_1), .val (.int r_2), .val (.int n0_), .val (.int n1_), .val (.ref r_3), .unset, .unset, .unset, .unset, .unset, .unset, .unset, .unset, .unset, .unset, .unset, .unset, .unset, .unset, .unset]) rfl) ?_
      show Go p e below P (T3.setTop (mkF m 91 #[.val (.int p0), .val (.int p1), .val (.int p2), .val (.int p3), .val (.int r0), .val (.int r1), .val (.int r_1), .val (.int r_2), .val (.int n0_), .val (.int n1_), .val (.ref r_3), .unset, .unset, .unset, .unset, .unset, .unset, .unset, .unset, .unset, .unset, .unset, .unset, .unset, .unset, .unset] []))
      refine Go.by (fun _ => XS.iload X3.here hx rfl (hb hby at_91) rfl) ?_
      show Go p e below P (T3.setTop (mkF m 93 #[.val (.int p0), .val (.int p1), .val (.int p2), .val (.int p3), .val (.int r0), .val (.int r1), .val (.int r_1), .val (.int r_2), .val (.int n0_), .val (.int n1_), .val (.ref r_3), .unset, .unset, .unset, .unset, .unset, .unset, .unset, .unset, .unset, .unset, .unset, .unset, .unset, .unset, .unset] [(.int r_2)]))
      refine Go.by (fun _ => XS.iload X3.here hx rfl (hb hby at_93) rfl) ?_
      show Go p e below P (T3.setTop (mkF m 95 #[.val (.int p0), .val (.int p1), .val (.int p2), .val (.int p3), .val (.int r0), .val (.int r1), .val (.int r_1), .val (.int r_2), .val (.int n0_), .val (.int n1_), .val (.ref r_3), .unset, .unset, .unset, .unset, .unset, .unset, .unset, .unset, .unset, .unset, .unset, .unset, .unset, .unset, .unset] [(.int n0_), (.int r_2)]))
      refine Go.by (fun _ => XS.iload X3.here hx rfl (hb hby at_95) rfl) ?_
      show Go p e below P (T3.setTop (mkF m 97 #[.val (.int p0), .val (.int p1), .val (.int p2), .val (.int p3), .val (.int r0), .val (.int r1), .val (.int r_1), .val (.int r_2), .val (.int n0_), .val (.int n1_), .val (.ref r_3), .unset, .unset, .unset, .unset, .unset, .unset, .unset, .unset, .unset, .unset, .unset, .unset, .unset, .unset, .unset] [(.int n1_), (.int n0_), (.int r_2)]))
      obtain ⟨_, _, ⟨T5, L5, k5, n5⟩, -, X5, hSc5, hgr5, ⟨Lc5, hQ5, l5, y5, z5, Cr5⟩, st5⟩ := callSS X3 hx (y := (⟨"com/example/gather_solvers/gathersolvers/model/SolverFunctionMatchesPinLaw", "str", "(III)Ljava/lang/String;"⟩ : MethodName)) hown (mvT hZ (hw _ (List.mem_of_getElem? (i := 4) rfl))) (mvT hZ (hw _ (List.mem_of_getElem? (i := 5) rfl))) (mvT hZ (hw _ (List.mem_of_getElem? (i := 2) rfl))) (mvT hZ (hw _ (List.mem_of_getElem? (i := 6) rfl))) (by decide) (backOfSH (W := 0) (rm_str l Z a0 hw [] zC hG r_2 n0_ n1_ T3.heap n0 Z3 O3  hr_n0_ hr_n1_) hZ (hw _ (List.mem_of_getElem? (i := 6) rfl)) (hw _ (List.mem_of_getElem? (i := 2) rfl)) (Nat.le_of_ble_eq_true rfl) (Nat.le_of_ble_eq_true rfl) (own_EW hw) C3) (g := (mkF m 97 #[.val (.int p0), .val (.int p1), .val (.int p2), .val (.int p3), .val (.int r0), .val (.int r1), .val (.int r_1), .val (.int r_2), .val (.int n0_), .val (.int n1_), .val (.ref r_3), .unset, .unset, .unset, .unset, .unset, .unset, .unset, .unset, .unset, .unset, .unset, .unset, .unset, .unset, .unset] [(.int n1_), (.int n0_), (.int r_2)])) rfl (by rw [hml]; rfl) (argsL := [(.int r_2), (.int n0_), (.int n1_)]) (rest := []) (lenOf pd_2 rfl) rfl (by show 2 * 0 + _ ≤ _; exact Nat.le_of_eq rfl) (hb hby at_97) (fun _ _ => ⟨rfl, rfl, (Nat.le_of_ble_eq_true rfl : 6 + 6 ≤ _), (Nat.le_of_ble_eq_true rfl : 12 + 12 ≤ _)⟩)
      dsimp only [Pt.U, Pt.locs, Pt.cells, Pt.slots] at X5 l5 y5 z5 st5 hQ5 hSc5 hgr5 Cr5
      subst l5 y5 z5
      have hZo := hZ
      obtain ⟨X5, hS, hZ, hown⟩ := rebS hS hk X5 hSc5 hgr5 hZ hown
      have hk : T5.heap.size ≤ T5.heap.size := Nat.le_refl _
      have R5 := R3.trans Cr5
      have C5 := Cr5.1
      obtain ⟨r_5, t_5, rfl, Nq5, Kc5, F6⟩ := hQ5
      have N5 := Fr.app N3 Nq5
      refine Go.by (fun _ k => st5.trans k) ?_
      have F7 : Str Z T5.heap r_3 t_3 (mkL r_1 r0 r1) := F4.keep Kc5 nin0 nin0
      have O5 := O3.keep Kc5 all0
      have Z5 : n0 ≤ T5.heap.size := Nat.le_trans Z3 Kc5.1
      show Go p e below P (T5.setTop (mkF m 100 #[.val (.int p0), .val (.int p1), .val (.int p2), .val (.int p3), .val (.int r0), .val (.int r1), .val (.int r_1), .val (.int r_2), .val (.int n0_), .val (.int n1_), .val (.ref r_3), .unset, .unset, .unset, .unset, .unset, .unset, .unset, .unset, .unset, .unset, .unset, .unset, .unset, .unset, .unset] [(.ref r_5)]))
      refine Go.by (fun _ => XS.astore X5.here hx rfl (hb hby at_100) rfl rfl (l' := #[.val (.int p0), .val (.int p1), .val (.int p2), .val (.int p3), .val (.int r0), .val (.int r1), .val (.int r_1), .val (.int r_2), .val (.int n0_), .val (.int n1_), .val (.ref r_3), .val (.ref r_5), .unset, .unset, .unset, .unset, .unset, .unset, .unset, .unset, .unset, .unset, .unset, .unset, .unset, .unset]) rfl) ?_
      show Go p e below P (T5.setTop (mkF m 102 #[.val (.int p0), .val (.int p1), .val (.int p2), .val (.int p3), .val (.int r0), .val (.int r1), .val (.int r_1), .val (.int r_2), .val (.int n0_), .val (.int n1_), .val (.ref r_3), .val (.ref r_5), .unset, .unset, .unset, .unset, .unset, .unset, .unset, .unset, .unset, .unset, .unset, .unset, .unset, .unset] []))
      refine Go.by (fun _ => XS.iloadN X5.here hx rfl (hb hby at_102) rfl) ?_
      show Go p e below P (T5.setTop (mkF m 103 #[.val (.int p0), .val (.int p1), .val (.int p2), .val (.int p3), .val (.int r0), .val (.int r1), .val (.int r_1), .val (.int r_2), .val (.int n0_), .val (.int n1_), .val (.ref r_3), .val (.ref r_5), .unset, .unset, .unset, .unset, .unset, .unset, .unset, .unset, .unset, .unset, .unset, .unset, .unset, .unset] [(.int p2)]))
      refine Go.by (fun _ => XS.bipush X5.here hx rfl (hb hby at_103)) ?_
      show Go p e below P (T5.setTop (mkF m 105 #[.val (.int p0), .val (.int p1), .val (.int p2), .val (.int p3), .val (.int r0), .val (.int r1), .val (.int r_1), .val (.int r_2), .val (.int n0_), .val (.int n1_), .val (.ref r_3), .val (.ref r_5), .unset, .unset, .unset, .unset, .unset, .unset, .unset, .unset, .unset, .unset, .unset, .unset, .unset, .unset] [(.int (7 : Int32)), (.int p2)]))
      refine Go.by (fun _ => XS.iand X5.here hx rfl (hb hby at_105) rfl) ?_
      show Go p e below P (T5.setTop (mkF m 106 #[.val (.int p0), .val (.int p1), .val (.int p2), .val (.int p3), .val (.int r0), .val (.int r1), .val (.int r_1), .val (.int r_2), .val (.int n0_), .val (.int n1_), .val (.ref r_3), .val (.ref r_5), .unset, .unset, .unset, .unset, .unset, .unset, .unset, .unset, .unset, .unset, .unset, .unset, .unset, .unset] [(.int (p2 &&& (7 : Int32)))]))
      generalize hv_pk : (p2 &&& (7 : Int32)) = pk
      refine Go.by (fun _ => XS.istore X5.here hx rfl (hb hby at_106) rfl (l' := #[.val (.int p0), .val (.int p1), .val (.int p2), .val (.int p3), .val (.int r0), .val (.int r1), .val (.int r_1), .val (.int r_2), .val (.int n0_), .val (.int n1_), .val (.ref r_3), .val (.ref r_5), .val (.int pk), .unset, .unset, .unset, .unset, .unset, .unset, .unset, .unset, .unset, .unset, .unset, .unset, .unset]) rfl) ?_
      show Go p e below P (T5.setTop (mkF m 108 #[.val (.int p0), .val (.int p1), .val (.int p2), .val (.int p3), .val (.int r0), .val (.int r1), .val (.int r_1), .val (.int r_2), .val (.int n0_), .val (.int n1_), .val (.ref r_3), .val (.ref r_5), .val (.int pk), .unset, .unset, .unset, .unset, .unset, .unset, .unset, .unset, .unset, .unset, .unset, .unset, .unset] []))
      have hpk : 0 ≤ pk.toInt ∧ pk.toInt < 8 := by rw [← hv_pk]; exact own_and7 _
      refine Go.by (fun _ => XS.iloadN X5.here hx rfl (hb hby at_108) rfl) ?_
      show Go p e below P (T5.setTop (mkF m 109 #[.val (.int p0), .val (.int p1), .val (.int p2), .val (.int p3), .val (.int r0), .val (.int r1), .val (.int r_1), .val (.int r_2), .val (.int n0_), .val (.int n1_), .val (.ref r_3), .val (.ref r_5), .val (.int pk), .unset, .unset, .unset, .unset, .unset, .unset, .unset, .unset, .unset, .unset, .unset, .unset, .unset] [(.int p2)]))
      refine Go.by (fun _ => XS.bipush X5.here hx rfl (hb hby at_109)) ?_
      show Go p e below P (T5.setTop (mkF m 111 #[.val (.int p0), .val (.int p1), .val (.int p2), .val (.int p3), .val (.int r0), .val (.int r1), .val (.int r_1), .val (.int r_2), .val (.int n0_), .val (.int n1_), .val (.ref r_3), .val (.ref r_5), .val (.int pk), .unset, .unset, .unset, .unset, .unset, .unset, .unset, .unset, .unset, .unset, .unset, .unset, .unset] [(.int (8 : Int32)), (.int p2)]))
      refine Go.by (fun _ => XS.iushr X5.here hx rfl (hb hby at_111) rfl) ?_
      show Go p e below P (T5.setTop (mkF m 112 #[.val (.int p0), .val (.int p1), .val (.int p2), .val (.int p3), .val (.int r0), .val (.int r1), .val (.int r_1), .val (.int r_2), .val (.int n0_), .val (.int n1_), .val (.ref r_3), .val (.ref r_5), .val (.int pk), .unset, .unset, .unset, .unset, .unset, .unset, .unset, .unset, .unset, .unset, .unset, .unset, .unset] [(.int (((p2).toUInt32 >>> ((8 : Int32) &&& 31).toUInt32).toInt32))]))
      refine Go.by (fun _ => XS.sipush X5.here hx rfl (hb hby at_112)) ?_
      show Go p e below P (T5.setTop (mkF m 115 #[.val (.int p0), .val (.int p1), .val (.int p2), .val (.int p3), .val (.int r0), .val (.int r1), .val (.int r_1), .val (.int r_2), .val (.int n0_), .val (.int n1_), .val (.ref r_3), .val (.ref r_5), .val (.int pk), .unset, .unset, .unset, .unset, .unset, .unset, .unset, .unset, .unset, .unset, .unset, .unset, .unset] [(.int (255 : Int32)), (.int (((p2).toUInt32 >>> ((8 : Int32) &&& 31).toUInt32).toInt32))]))
      refine Go.by (fun _ => XS.iand X5.here hx rfl (hb hby at_115) rfl) ?_
      show Go p e below P (T5.setTop (mkF m 116 #[.val (.int p0), .val (.int p1), .val (.int p2), .val (.int p3), .val (.int r0), .val (.int r1), .val (.int r_1), .val (.int r_2), .val (.int n0_), .val (.int n1_), .val (.ref r_3), .val (.ref r_5), .val (.int pk), .unset, .unset, .unset, .unset, .unset, .unset, .unset, .unset, .unset, .unset, .unset, .unset, .unset] [(.int ((((p2).toUInt32 >>> ((8 : Int32) &&& 31).toUInt32).toInt32) &&& (255 : Int32)))]))
      generalize hv_c0 : ((((p2).toUInt32 >>> ((8 : Int32) &&& 31).toUInt32).toInt32) &&& (255 : Int32)) = c0
      refine Go.by (fun _ => XS.istore X5.here hx rfl (hb hby at_116) rfl (l' := #[.val (.int p0), .val (.int p1), .val (.int p2), .val (.int p3), .val (.int r0), .val (.int r1), .val (.int r_1), .val (.int r_2), .val (.int n0_), .val (.int n1_), .val (.ref r_3), .val (.ref r_5), .val (.int pk), .val (.int c0), .unset, .unset, .unset, .unset, .unset, .unset, .unset, .unset, .unset, .unset, .unset, .unset]) rfl) ?_
      show Go p e below P (T5.setTop (mkF m 118 #[.val (.int p0), .val (.int p1), .val (.int p2), .val (.int p3), .val (.int r0), .val (.int r1), .val (.int r_1), .val (.int r_2), .val (.int n0_), .val (.int n1_), .val (.ref r_3), .val (.ref r_5), .val (.int pk), .val (.int c0), .unset, .unset, .unset, .unset, .unset, .unset, .unset, .unset, .unset, .unset, .unset, .unset] []))
      have hr_c0 : ¬ c0 < 0 ∧ ¬ (255 : Int32) < c0 := by rw [← hv_c0]; exact own_and255 _
      refine Go.by (fun _ => XS.iloadN X5.here hx rfl (hb hby at_118) rfl) ?_
      show Go p e below P (T5.setTop (mkF m 119 #[.val (.int p0), .val (.int p1), .val (.int p2), .val (.int p3), .val (.int r0), .val (.int r1), .val (.int r_1), .val (.int r_2), .val (.int n0_), .val (.int n1_), .val (.ref r_3), .val (.ref r_5), .val (.int pk), .val (.int c0), .unset, .unset, .unset, .unset, .unset, .unset, .unset, .unset, .unset, .unset, .unset, .unset] [(.int p2)]))
      refine Go.by (fun _ => XS.bipush X5.here hx rfl (hb hby at_119)) ?_
      show Go p e below P (T5.setTop (mkF m 121 #[.val (.int p0), .val (.int p1), .val (.int p2), .val (.int p3), .val (.int r0), .val (.int r1), .val (.int r_1), .val (.int r_2), .val (.int n0_), .val (.int n1_), .val (.ref r_3), .val (.ref r_5), .val (.int pk), .val (.int c0), .unset, .unset, .unset, .unset, .unset, .unset, .unset, .unset, .unset, .unset, .unset, .unset] [(.int (16 : Int32)), (.int p2)]))
      refine Go.by (fun _ => XS.iushr X5.here hx rfl (hb hby at_121) rfl) ?_
      show Go p e below P (T5.setTop (mkF m 122 #[.val (.int p0), .val (.int p1), .val (.int p2), .val (.int p3), .val (.int r0), .val (.int r1), .val (.int r_1), .val (.int r_2), .val (.int n0_), .val (.int n1_), .val (.ref r_3), .val (.ref r_5), .val (.int pk), .val (.int c0), .unset, .unset, .unset, .unset, .unset, .unset, .unset, .unset, .unset, .unset, .unset, .unset] [(.int (((p2).toUInt32 >>> ((16 : Int32) &&& 31).toUInt32).toInt32))]))
      refine Go.by (fun _ => XS.sipush X5.here hx rfl (hb hby at_122)) ?_
      show Go p e below P (T5.setTop (mkF m 125 #[.val (.int p0), .val (.int p1), .val (.int p2), .val (.int p3), .val (.int r0), .val (.int r1), .val (.int r_1), .val (.int r_2), .val (.int n0_), .val (.int n1_), .val (.ref r_3), .val (.ref r_5), .val (.int pk), .val (.int c0), .unset, .unset, .unset, .unset, .unset, .unset, .unset, .unset, .unset, .unset, .unset, .unset] [(.int (255 : Int32)), (.int (((p2).toUInt32 >>> ((16 : Int32) &&& 31).toUInt32).toInt32))]))
      refine Go.by (fun _ => XS.iand X5.here hx rfl (hb hby at_125) rfl) ?_
      show Go p e below P (T5.setTop (mkF m 126 #[.val (.int p0), .val (.int p1), .val (.int p2), .val (.int p3), .val (.int r0), .val (.int r1), .val (.int r_1), .val (.int r_2), .val (.int n0_), .val (.int n1_), .val (.ref r_3), .val (.ref r_5), .val (.int pk), .val (.int c0), .unset, .unset, .unset, .unset, .unset, .unset, .unset, .unset, .unset, .unset, .unset, .unset] [(.int ((((p2).toUInt32 >>> ((16 : Int32) &&& 31).toUInt32).toInt32) &&& (255 : Int32)))]))
      generalize hv_c1 : ((((p2).toUInt32 >>> ((16 : Int32) &&& 31).toUInt32).toInt32) &&& (255 : Int32)) = c1
      refine Go.by (fun _ => XS.istore X5.here hx rfl (hb hby at_126) rfl (l' := #[.val (.int p0), .val (.int p1), .val (.int p2), .val (.int p3), .val (.int r0), .val (.int r1), .val (.int r_1), .val (.int r_2), .val (.int n0_), .val (.int n1_), .val (.ref r_3), .val (.ref r_5), .val (.int pk), .val (.int c0), .val (.int c1), .unset, .unset, .unset, .unset, .unset, .unset, .unset, .unset, .unset, .unset, .unset]) rfl) ?_
      show Go p e below P (T5.setTop (mkF m 128 #[.val (.int p0), .val (.int p1), .val (.int p2), .val (.int p3), .val (.int r0), .val (.int r1), .val (.int r_1), .val (.int r_2), .val (.int n0_), .val (.int n1_), .val (.ref r_3), .val (.ref r_5), .val (.int pk), .val (.int c0), .val (.int c1), .unset, .unset, .unset, .unset, .unset, .unset, .unset, .unset, .unset, .unset, .unset] []))
      have hr_c1 : ¬ c1 < 0 ∧ ¬ (255 : Int32) < c1 := by rw [← hv_c1]; exact own_and255 _
      refine Go.by (fun _ => XS.iloadN X5.here hx rfl (hb hby at_128) rfl) ?_
      show Go p e below P (T5.setTop (mkF m 129 #[.val (.int p0), .val (.int p1), .val (.int p2), .val (.int p3), .val (.int r0), .val (.int r1), .val (.int r_1), .val (.int r_2), .val (.int n0_), .val (.int n1_), .val (.ref r_3), .val (.ref r_5), .val (.int pk), .val (.int c0), .val (.int c1), .unset, .unset, .unset, .unset, .unset, .unset, .unset, .unset, .unset, .unset, .unset] [(.int p2)]))
      refine Go.by (fun _ => XS.bipush X5.here hx rfl (hb hby at_129)) ?_
      show Go p e below P (T5.setTop (mkF m 131 #[.val (.int p0), .val (.int p1), .val (.int p2), .val (.int p3), .val (.int r0), .val (.int r1), .val (.int r_1), .val (.int r_2), .val (.int n0_), .val (.int n1_), .val (.ref r_3), .val (.ref r_5), .val (.int pk), .val (.int c0), .val (.int c1), .unset, .unset, .unset, .unset, .unset, .unset, .unset, .unset, .unset, .unset, .unset] [(.int (24 : Int32)), (.int p2)]))
      refine Go.by (fun _ => XS.iushr X5.here hx rfl (hb hby at_131) rfl) ?_
      show Go p e below P (T5.setTop (mkF m 132 #[.val (.int p0), .val (.int p1), .val (.int p2), .val (.int p3), .val (.int r0), .val (.int r1), .val (.int r_1), .val (.int r_2), .val (.int n0_), .val (.int n1_), .val (.ref r_3), .val (.ref r_5), .val (.int pk), .val (.int c0), .val (.int c1), .unset, .unset, .unset, .unset, .unset, .unset, .unset, .unset, .unset, .unset, .unset] [(.int (((p2).toUInt32 >>> ((24 : Int32) &&& 31).toUInt32).toInt32))]))
      obtain ⟨_, _, ⟨T8, L8, k8, n8⟩, -, X8, ⟨Lc8, hQ8, l8, y8, z8⟩, st8⟩ := Jvm.LawKit.callS X5 hx (y := (⟨"com/example/gather_solvers/gathersolvers/model/SolverFunctionMatchesPinLaw", "lenOf", "(I)I"⟩ : MethodName)) hown (mvT hZ (hw _ (List.mem_of_getElem? (i := 0) rfl))) (mvT hZ (hw _ (List.mem_of_getElem? (i := 1) rfl))) (mvT hZ (hw _ (List.mem_of_getElem? (i := 2) rfl))) (mvT hZ (hw _ (List.mem_of_getElem? (i := 3) rfl))) (by decide) (backOf (W := 0) (rm_len l Z a0 hw [] zC hG ((((p2).toUInt32 >>> ((24 : Int32) &&& 31).toUInt32).toInt32)) T5.heap n0 Z5 O5  ) hZ (hw _ (List.mem_of_getElem? (i := 3) rfl)) (hw _ (List.mem_of_getElem? (i := 2) rfl)) (Nat.le_of_ble_eq_true rfl) (Nat.le_of_ble_eq_true rfl)) (g := (mkF m 132 #[.val (.int p0), .val (.int p1), .val (.int p2), .val (.int p3), .val (.int r0), .val (.int r1), .val (.int r_1), .val (.int r_2), .val (.int n0_), .val (.int n1_), .val (.ref r_3), .val (.ref r_5), .val (.int pk), .val (.int c0), .val (.int c1), .unset, .unset, .unset, .unset, .unset, .unset, .unset, .unset, .unset, .unset, .unset] [(.int (((p2).toUInt32 >>> ((24 : Int32) &&& 31).toUInt32).toInt32))])) rfl (by rw [hml]; rfl) (argsL := [(.int (((p2).toUInt32 >>> ((24 : Int32) &&& 31).toUInt32).toInt32))]) (rest := []) (lenOf pd_5 rfl) rfl (by show 2 * 0 + _ ≤ _; exact Nat.le_of_eq rfl) (hb hby at_132) (fun _ _ => ⟨rfl, rfl, (Nat.le_of_ble_eq_true rfl : 12 + 0 ≤ _), (Nat.le_of_ble_eq_true rfl : 24 + 0 ≤ _)⟩)
      dsimp only [Pt.U, Pt.locs, Pt.cells, Pt.slots] at X8 l8 y8 z8 st8 hQ8
      subst l8 y8 z8
      obtain ⟨r_8, rfl, Nq8, eq8, hq8_0⟩ := hQ8
      have N8 := Fr.app N5 Nq8
      refine Go.by (fun _ => st8 _) ?_
      show Go p e below P (T8.setTop (mkF m 135 #[.val (.int p0), .val (.int p1), .val (.int p2), .val (.int p3), .val (.int r0), .val (.int r1), .val (.int r_1), .val (.int r_2), .val (.int n0_), .val (.int n1_), .val (.ref r_3), .val (.ref r_5), .val (.int pk), .val (.int c0), .val (.int c1), .unset, .unset, .unset, .unset, .unset, .unset, .unset, .unset, .unset, .unset, .unset] [(.int r_8)]))
      refine Go.by (fun _ => XS.istore X8.here hx rfl (hb hby at_135) rfl (l' := #[.val (.int p0), .val (.int p1), .val (.int p2), .val (.int p3), .val (.int r0), .val (.int r1), .val (.int r_1), .val (.int r_2), .val (.int n0_), .val (.int n1_), .val (.ref r_3), .val (.ref r_5), .val (.int pk), .val (.int c0), .val (.int c1), .val (.int r_8), .unset, .unset, .unset, .unset, .unset, .unset, .unset, .unset, .unset, .unset]) rfl) ?_
      show Go p e below P (T8.setTop (mkF m 137 #[.val (.int p0), .val (.int p1), .val (.int p2), .val (.int p3), .val (.int r0), .val (.int r1), .val (.int r_1), .val (.int r_2), .val (.int n0_), .val (.int n1_), .val (.ref r_3), .val (.ref r_5), .val (.int pk), .val (.int c0), .val (.int c1), .val (.int r_8), .unset, .unset, .unset, .unset, .unset, .unset, .unset, .unset, .unset, .unset] []))
      refine Go.by (fun _ => XS.iload X8.here hx rfl (hb hby at_137) rfl) ?_
      show Go p e below P (T8.setTop (mkF m 139 #[.val (.int p0), .val (.int p1), .val (.int p2), .val (.int p3), .val (.int r0), .val (.int r1), .val (.int r_1), .val (.int r_2), .val (.int n0_), .val (.int n1_), .val (.ref r_3), .val (.ref r_5), .val (.int pk), .val (.int c0), .val (.int c1), .val (.int r_8), .unset, .unset, .unset, .unset, .unset, .unset, .unset, .unset, .unset, .unset] [(.int pk)]))
      refine Go.by (fun _ => XS.iload X8.here hx rfl (hb hby at_139) rfl) ?_
      show Go p e below P (T8.setTop (mkF m 141 #[.val (.int p0), .val (.int p1), .val (.int p2), .val (.int p3), .val (.int r0), .val (.int r1), .val (.int r_1), .val (.int r_2), .val (.int n0_), .val (.int n1_), .val (.ref r_3), .val (.ref r_5), .val (.int pk), .val (.int c0), .val (.int c1), .val (.int r_8), .unset, .unset, .unset, .unset, .unset, .unset, .unset, .unset, .unset, .unset] [(.int r_8), (.int pk)]))
      refine Go.by (fun _ => XS.iload X8.here hx rfl (hb hby at_141) rfl) ?_
      show Go p e below P (T8.setTop (mkF m 143 #[.val (.int p0), .val (.int p1), .val (.int p2), .val (.int p3), .val (.int r0), .val (.int r1), .val (.int r_1), .val (.int r_2), .val (.int n0_), .val (.int n1_), .val (.ref r_3), .val (.ref r_5), .val (.int pk), .val (.int c0), .val (.int c1), .val (.int r_8), .unset, .unset, .unset, .unset, .unset, .unset, .unset, .unset, .unset, .unset] [(.int c0), (.int r_8), (.int pk)]))
      refine Go.by (fun _ => XS.iload X8.here hx rfl (hb hby at_143) rfl) ?_
      show Go p e below P (T8.setTop (mkF m 145 #[.val (.int p0), .val (.int p1), .val (.int p2), .val (.int p3), .val (.int r0), .val (.int r1), .val (.int r_1), .val (.int r_2), .val (.int n0_), .val (.int n1_), .val (.ref r_3), .val (.ref r_5), .val (.int pk), .val (.int c0), .val (.int c1), .val (.int r_8), .unset, .unset, .unset, .unset, .unset, .unset, .unset, .unset, .unset, .unset] [(.int c1), (.int c0), (.int r_8), (.int pk)]))
      obtain ⟨_, _, ⟨T9, L9, k9, n9⟩, -, X9, hSc9, hgr9, ⟨Lc9, hQ9, l9, y9, z9, Cr9⟩, st9⟩ := callSS X8 hx (y := (⟨"com/example/gather_solvers/gathersolvers/model/SolverFunctionMatchesPinLaw", "pkg", "(IIII)Ljava/lang/String;"⟩ : MethodName)) hown (mvT hZ (hw _ (List.mem_of_getElem? (i := 29) rfl))) (mvT hZ (hw _ (List.mem_of_getElem? (i := 30) rfl))) (mvT hZ (hw _ (List.mem_of_getElem? (i := 2) rfl))) (mvT hZ (hw _ (List.mem_of_getElem? (i := 31) rfl))) (by decide) (backOfSH (W := 0) (rm_pkg l Z a0 hw [] zC hG pk r_8 c0 c1 T5.heap n0 Z5 O5  hr_c0 hr_c1) hZ (hw _ (List.mem_of_getElem? (i := 31) rfl)) (hw _ (List.mem_of_getElem? (i := 2) rfl)) (Nat.le_of_ble_eq_true rfl) (Nat.le_of_ble_eq_true rfl) (own_EW hw) C5) (g := (mkF m 145 #[.val (.int p0), .val (.int p1), .val (.int p2), .val (.int p3), .val (.int r0), .val (.int r1), .val (.int r_1), .val (.int r_2), .val (.int n0_), .val (.int n1_), .val (.ref r_3), .val (.ref r_5), .val (.int pk), .val (.int c0), .val (.int c1), .val (.int r_8), .unset, .unset, .unset, .unset, .unset, .unset, .unset, .unset, .unset, .unset] [(.int c1), (.int c0), (.int r_8), (.int pk)])) rfl (by rw [hml]; rfl) (argsL := [(.int pk), (.int r_8), (.int c0), (.int c1)]) (rest := []) (lenOf pd_6 rfl) rfl (by show 2 * 0 + _ ≤ _; exact Nat.le_of_eq rfl) (hb hby at_145) (fun _ _ => ⟨rfl, eq8, (Nat.le_of_ble_eq_true rfl : 12 + 6 ≤ _), (Nat.le_of_ble_eq_true rfl : 24 + 36 ≤ _)⟩)
      dsimp only [Pt.U, Pt.locs, Pt.cells, Pt.slots] at X9 l9 y9 z9 st9 hQ9 hSc9 hgr9 Cr9
      subst l9 y9 z9
      have hZo := hZ
      obtain ⟨X9, hS, hZ, hown⟩ := rebS hS (by rw [eq8]; exact hk) X9 hSc9 hgr9 hZ hown
      have hk : T9.heap.size ≤ T9.heap.size := Nat.le_refl _
      have R9 := R5.trans Cr9
      have C9 := Cr9.1
      obtain ⟨r_9, t_9, rfl, Nq9, Kc9, F10⟩ := hQ9
      have N9 := Fr.app N8 Nq9
      refine Go.by (fun _ k => st9.trans k) ?_
      have F11 : Str Z T9.heap r_3 t_3 (mkL r_1 r0 r1) := F7.keep Kc9 nin0 nin0
      have F12 : Str Z T9.heap r_5 t_5 (mkL r_2 n0_ n1_) := F6.keep Kc9 nin0 nin0
      have O9 := O5.keep Kc9 all0
      have Z9 : n0 ≤ T9.heap.size := Nat.le_trans Z5 Kc9.1
      show Go p e below P (T9.setTop (mkF m 148 #[.val (.int p0), .val (.int p1), .val (.int p2), .val (.int p3), .val (.int r0), .val (.int r1), .val (.int r_1), .val (.int r_2), .val (.int n0_), .val (.int n1_), .val (.ref r_3), .val (.ref r_5), .val (.int pk), .val (.int c0), .val (.int c1), .val (.int r_8), .unset, .unset, .unset, .unset, .unset, .unset, .unset, .unset, .unset, .unset] [(.ref r_9)]))
      refine Go.by (fun _ => XS.astore X9.here hx rfl (hb hby at_148) rfl rfl (l' := #[.val (.int p0), .val (.int p1), .val (.int p2), .val (.int p3), .val (.int r0), .val (.int r1), .val (.int r_1), .val (.int r_2), .val (.int n0_), .val (.int n1_), .val (.ref r_3), .val (.ref r_5), .val (.int pk), .val (.int c0), .val (.int c1), .val (.int r_8), .val (.ref r_9), .unset, .unset, .unset, .unset, .unset, .unset, .unset, .unset, .unset]) rfl) ?_
      show Go p e below P (T9.setTop (mkF m 150 #[.val (.int p0), .val (.int p1), .val (.int p2), .val (.int p3), .val (.int r0), .val (.int r1), .val (.int r_1), .val (.int r_2), .val (.int n0_), .val (.int n1_), .val (.ref r_3), .val (.ref r_5), .val (.int pk), .val (.int c0), .val (.int c1), .val (.int r_8), .val (.ref r_9), .unset, .unset, .unset, .unset, .unset, .unset, .unset, .unset, .unset] []))
      refine Go.by (fun _ => XS.iloadN X9.here hx rfl (hb hby at_150) rfl) ?_
      show Go p e below P (T9.setTop (mkF m 151 #[.val (.int p0), .val (.int p1), .val (.int p2), .val (.int p3), .val (.int r0), .val (.int r1), .val (.int r_1), .val (.int r_2), .val (.int n0_), .val (.int n1_), .val (.ref r_3), .val (.ref r_5), .val (.int pk), .val (.int c0), .val (.int c1), .val (.int r_8), .val (.ref r_9), .unset, .unset, .unset, .unset, .unset, .unset, .unset, .unset, .unset] [(.int p3)]))
      refine Go.by (fun _ => XS.bipush X9.here hx rfl (hb hby at_151)) ?_
      show Go p e below P (T9.setTop (mkF m 153 #[.val (.int p0), .val (.int p1), .val (.int p2), .val (.int p3), .val (.int r0), .val (.int r1), .val (.int r_1), .val (.int r_2), .val (.int n0_), .val (.int n1_), .val (.ref r_3), .val (.ref r_5), .val (.int pk), .val (.int c0), .val (.int c1), .val (.int r_8), .val (.ref r_9), .unset, .unset, .unset, .unset, .unset, .unset, .unset, .unset, .unset] [(.int (7 : Int32)), (.int p3)]))
      refine Go.by (fun _ => XS.iand X9.here hx rfl (hb hby at_153) rfl) ?_
      show Go p e below P (T9.setTop (mkF m 154 #[.val (.int p0), .val (.int p1), .val (.int p2), .val (.int p3), .val (.int r0), .val (.int r1), .val (.int r_1), .val (.int r_2), .val (.int n0_), .val (.int n1_), .val (.ref r_3), .val (.ref r_5), .val (.int pk), .val (.int c0), .val (.int c1), .val (.int r_8), .val (.ref r_9), .unset, .unset, .unset, .unset, .unset, .unset, .unset, .unset, .unset] [(.int (p3 &&& (7 : Int32)))]))
      generalize hv_qk : (p3 &&& (7 : Int32)) = qk
      refine Go.by (fun _ => XS.istore X9.here hx rfl (hb hby at_154) rfl (l' := #[.val (.int p0), .val (.int p1), .val (.int p2), .val (.int p3), .val (.int r0), .val (.int r1), .val (.int r_1), .val (.int r_2), .val (.int n0_), .val (.int n1_), .val (.ref r_3), .val (.ref r_5), .val (.int pk), .val (.int c0), .val (.int c1), .val (.int r_8), .val (.ref r_9), .val (.int qk), .unset, .unset, .unset, .unset, .unset, .unset, .unset, .unset]) rfl) ?_
      show Go p e below P (T9.setTop (mkF m 156 #[.val (.int p0), .val (.int p1), .val (.int p2), .val (.int p3), .val (.int r0), .val (.int r1), .val (.int r_1), .val (.int r_2), .val (.int n0_), .val (.int n1_), .val (.ref r_3), .val (.ref r_5), .val (.int pk), .val (.int c0), .val (.int c1), .val (.int r_8), .val (.ref r_9), .val (.int qk), .unset, .unset, .unset, .unset, .unset, .unset, .unset, .unset] []))
      have hqk : 0 ≤ qk.toInt ∧ qk.toInt < 8 := by rw [← hv_qk]; exact own_and7 _
      refine Go.by (fun _ => XS.iloadN X9.here hx rfl (hb hby at_156) rfl) ?_
      show Go p e below P (T9.setTop (mkF m 157 #[.val (.int p0), .val (.int p1), .val (.int p2), .val (.int p3), .val (.int r0), .val (.int r1), .val (.int r_1), .val (.int r_2), .val (.int n0_), .val (.int n1_), .val (.ref r_3), .val (.ref r_5), .val (.int pk), .val (.int c0), .val (.int c1), .val (.int r_8), .val (.ref r_9), .val (.int qk), .unset, .unset, .unset, .unset, .unset, .unset, .unset, .unset] [(.int p3)]))
      refine Go.by (fun _ => XS.iconst X9.here hx rfl (hb hby at_157)) ?_
      show Go p e below P (T9.setTop (mkF m 158 #[.val (.int p0), .val (.int p1), .val (.int p2), .val (.int p3), .val (.int r0), .val (.int r1), .val (.int r_1), .val (.int r_2), .val (.int n0_), .val (.int n1_), .val (.ref r_3), .val (.ref r_5), .val (.int pk), .val (.int c0), .val (.int c1), .val (.int r_8), .val (.ref r_9), .val (.int qk), .unset, .unset, .unset, .unset, .unset, .unset, .unset, .unset] [(.int (3 : Int32)), (.int p3)]))
      refine Go.by (fun _ => XS.iushr X9.here hx rfl (hb hby at_158) rfl) ?_
      show Go p e below P (T9.setTop (mkF m 159 #[.val (.int p0), .val (.int p1), .val (.int p2), .val (.int p3), .val (.int r0), .val (.int r1), .val (.int r_1), .val (.int r_2), .val (.int n0_), .val (.int n1_), .val (.ref r_3), .val (.ref r_5), .val (.int pk), .val (.int c0), .val (.int c1), .val (.int r_8), .val (.ref r_9), .val (.int qk), .unset, .unset, .unset, .unset, .unset, .unset, .unset, .unset] [(.int (((p3).toUInt32 >>> ((3 : Int32) &&& 31).toUInt32).toInt32))]))
      refine Go.by (fun _ => XS.iconst X9.here hx rfl (hb hby at_159)) ?_
      show Go p e below P (T9.setTop (mkF m 160 #[.val (.int p0), .val (.int p1), .val (.int p2), .val (.int p3), .val (.int r0), .val (.int r1), .val (.int r_1), .val (.int r_2), .val (.int n0_), .val (.int n1_), .val (.ref r_3), .val (.ref r_5), .val (.int pk), .val (.int c0), .val (.int c1), .val (.int r_8), .val (.ref r_9), .val (.int qk), .unset, .unset, .unset, .unset, .unset, .unset, .unset, .unset] [(.int (1 : Int32)), (.int (((p3).toUInt32 >>> ((3 : Int32) &&& 31).toUInt32).toInt32))]))
      refine Go.by (fun _ => XS.iand X9.here hx rfl (hb hby at_160) rfl) ?_
      show Go p e below P (T9.setTop (mkF m 161 #[.val (.int p0), .val (.int p1), .val (.int p2), .val (.int p3), .val (.int r0), .val (.int r1), .val (.int r_1), .val (.int r_2), .val (.int n0_), .val (.int n1_), .val (.ref r_3), .val (.ref r_5), .val (.int pk), .val (.int c0), .val (.int c1), .val (.int r_8), .val (.ref r_9), .val (.int qk), .unset, .unset, .unset, .unset, .unset, .unset, .unset, .unset] [(.int ((((p3).toUInt32 >>> ((3 : Int32) &&& 31).toUInt32).toInt32) &&& (1 : Int32)))]))
      have J177 : ∀ (q0 : Int32) (hr_q0 : ¬ q0 < 0 ∧ ¬ (255 : Int32) < q0), Go p e below P (T9.setTop (mkF m 177 #[.val (.int p0), .val (.int p1), .val (.int p2), .val (.int p3), .val (.int r0), .val (.int r1), .val (.int r_1), .val (.int r_2), .val (.int n0_), .val (.int n1_), .val (.ref r_3), .val (.ref r_5), .val (.int pk), .val (.int c0), .val (.int c1), .val (.int r_8), .val (.ref r_9), .val (.int qk), .unset, .unset, .unset, .unset, .unset, .unset, .unset, .unset] [(.int q0)])) := by
        intro q0 hr_q0
        refine Go.by (fun _ => XS.istore X9.here hx rfl (hb hby at_177) rfl (l' := #[.val (.int p0), .val (.int p1), .val (.int p2), .val (.int p3), .val (.int r0), .val (.int r1), .val (.int r_1), .val (.int r_2), .val (.int n0_), .val (.int n1_), .val (.ref r_3), .val (.ref r_5), .val (.int pk), .val (.int c0), .val (.int c1), .val (.int r_8), .val (.ref r_9), .val (.int qk), .val (.int q0), .unset, .unset, .unset, .unset, .unset, .unset, .unset]) rfl) ?_
        show Go p e below P (T9.setTop (mkF m 179 #[.val (.int p0), .val (.int p1), .val (.int p2), .val (.int p3), .val (.int r0), .val (.int r1), .val (.int r_1), .val (.int r_2), .val (.int n0_), .val (.int n1_), .val (.ref r_3), .val (.ref r_5), .val (.int pk), .val (.int c0), .val (.int c1), .val (.int r_8), .val (.ref r_9), .val (.int qk), .val (.int q0), .unset, .unset, .unset, .unset, .unset, .unset, .unset] []))
        refine Go.by (fun _ => XS.iloadN X9.here hx rfl (hb hby at_179) rfl) ?_
        show Go p e below P (T9.setTop (mkF m 180 #[.val (.int p0), .val (.int p1), .val (.int p2), .val (.int p3), .val (.int r0), .val (.int r1), .val (.int r_1), .val (.int r_2), .val (.int n0_), .val (.int n1_), .val (.ref r_3), .val (.ref r_5), .val (.int pk), .val (.int c0), .val (.int c1), .val (.int r_8), .val (.ref r_9), .val (.int qk), .val (.int q0), .unset, .unset, .unset, .unset, .unset, .unset, .unset] [(.int p3)]))
        refine Go.by (fun _ => XS.iconst X9.here hx rfl (hb hby at_180)) ?_
        show Go p e below P (T9.setTop (mkF m 181 #[.val (.int p0), .val (.int p1), .val (.int p2), .val (.int p3), .val (.int r0), .val (.int r1), .val (.int r_1), .val (.int r_2), .val (.int n0_), .val (.int n1_), .val (.ref r_3), .val (.ref r_5), .val (.int pk), .val (.int c0), .val (.int c1), .val (.int r_8), .val (.ref r_9), .val (.int qk), .val (.int q0), .unset, .unset, .unset, .unset, .unset, .unset, .unset] [(.int (4 : Int32)), (.int p3)]))
        refine Go.by (fun _ => XS.iushr X9.here hx rfl (hb hby at_181) rfl) ?_
        show Go p e below P (T9.setTop (mkF m 182 #[.val (.int p0), .val (.int p1), .val (.int p2), .val (.int p3), .val (.int r0), .val (.int r1), .val (.int r_1), .val (.int r_2), .val (.int n0_), .val (.int n1_), .val (.ref r_3), .val (.ref r_5), .val (.int pk), .val (.int c0), .val (.int c1), .val (.int r_8), .val (.ref r_9), .val (.int qk), .val (.int q0), .unset, .unset, .unset, .unset, .unset, .unset, .unset] [(.int (((p3).toUInt32 >>> ((4 : Int32) &&& 31).toUInt32).toInt32))]))
        refine Go.by (fun _ => XS.iconst X9.here hx rfl (hb hby at_182)) ?_
        show Go p e below P (T9.setTop (mkF m 183 #[.val (.int p0), .val (.int p1), .val (.int p2), .val (.int p3), .val (.int r0), .val (.int r1), .val (.int r_1), .val (.int r_2), .val (.int n0_), .val (.int n1_), .val (.ref r_3), .val (.ref r_5), .val (.int pk), .val (.int c0), .val (.int c1), .val (.int r_8), .val (.ref r_9), .val (.int qk), .val (.int q0), .unset, .unset, .unset, .unset, .unset, .unset, .unset] [(.int (1 : Int32)), (.int (((p3).toUInt32 >>> ((4 : Int32) &&& 31).toUInt32).toInt32))]))
        refine Go.by (fun _ => XS.iand X9.here hx rfl (hb hby at_183) rfl) ?_
        show Go p e below P (T9.setTop (mkF m 184 #[.val (.int p0), .val (.int p1), .val (.int p2), .val (.int p3), .val (.int r0), .val (.int r1), .val (.int r_1), .val (.int r_2), .val (.int n0_), .val (.int n1_), .val (.ref r_3), .val (.ref r_5), .val (.int pk), .val (.int c0), .val (.int c1), .val (.int r_8), .val (.ref r_9), .val (.int qk), .val (.int q0), .unset, .unset, .unset, .unset, .unset, .unset, .unset] [(.int ((((p3).toUInt32 >>> ((4 : Int32) &&& 31).toUInt32).toInt32) &&& (1 : Int32)))]))
        have J200 : ∀ (q1 : Int32) (hr_q1 : ¬ q1 < 0 ∧ ¬ (255 : Int32) < q1), Go p e below P (T9.setTop (mkF m 200 #[.val (.int p0), .val (.int p1), .val (.int p2), .val (.int p3), .val (.int r0), .val (.int r1), .val (.int r_1), .val (.int r_2), .val (.int n0_), .val (.int n1_), .val (.ref r_3), .val (.ref r_5), .val (.int pk), .val (.int c0), .val (.int c1), .val (.int r_8), .val (.ref r_9), .val (.int qk), .val (.int q0), .unset, .unset, .unset, .unset, .unset, .unset, .unset] [(.int q1)])) := by
          intro q1 hr_q1
          refine Go.by (fun _ => XS.istore X9.here hx rfl (hb hby at_200) rfl (l' := #[.val (.int p0), .val (.int p1), .val (.int p2), .val (.int p3), .val (.int r0), .val (.int r1), .val (.int r_1), .val (.int r_2), .val (.int n0_), .val (.int n1_), .val (.ref r_3), .val (.ref r_5), .val (.int pk), .val (.int c0), .val (.int c1), .val (.int r_8), .val (.ref r_9), .val (.int qk), .val (.int q0), .val (.int q1), .unset, .unset, .unset, .unset, .unset, .unset]) rfl) ?_
          show Go p e below P (T9.setTop (mkF m 202 #[.val (.int p0), .val (.int p1), .val (.int p2), .val (.int p3), .val (.int r0), .val (.int r1), .val (.int r_1), .val (.int r_2), .val (.int n0_), .val (.int n1_), .val (.ref r_3), .val (.ref r_5), .val (.int pk), .val (.int c0), .val (.int c1), .val (.int r_8), .val (.ref r_9), .val (.int qk), .val (.int q0), .val (.int q1), .unset, .unset, .unset, .unset, .unset, .unset] []))
          refine Go.by (fun _ => XS.iloadN X9.here hx rfl (hb hby at_202) rfl) ?_
          show Go p e below P (T9.setTop (mkF m 203 #[.val (.int p0), .val (.int p1), .val (.int p2), .val (.int p3), .val (.int r0), .val (.int r1), .val (.int r_1), .val (.int r_2), .val (.int n0_), .val (.int n1_), .val (.ref r_3), .val (.ref r_5), .val (.int pk), .val (.int c0), .val (.int c1), .val (.int r_8), .val (.ref r_9), .val (.int qk), .val (.int q0), .val (.int q1), .unset, .unset, .unset, .unset, .unset, .unset] [(.int p3)]))
          refine Go.by (fun _ => XS.bipush X9.here hx rfl (hb hby at_203)) ?_
          show Go p e below P (T9.setTop (mkF m 205 #[.val (.int p0), .val (.int p1), .val (.int p2), .val (.int p3), .val (.int r0), .val (.int r1), .val (.int r_1), .val (.int r_2), .val (.int n0_), .val (.int n1_), .val (.ref r_3), .val (.ref r_5), .val (.int pk), .val (.int c0), .val (.int c1), .val (.int r_8), .val (.ref r_9), .val (.int qk), .val (.int q0), .val (.int q1), .unset, .unset, .unset, .unset, .unset, .unset] [(.int (24 : Int32)), (.int p3)]))
          refine Go.by (fun _ => XS.iushr X9.here hx rfl (hb hby at_205) rfl) ?_
          show Go p e below P (T9.setTop (mkF m 206 #[.val (.int p0), .val (.int p1), .val (.int p2), .val (.int p3), .val (.int r0), .val (.int r1), .val (.int r_1), .val (.int r_2), .val (.int n0_), .val (.int n1_), .val (.ref r_3), .val (.ref r_5), .val (.int pk), .val (.int c0), .val (.int c1), .val (.int r_8), .val (.ref r_9), .val (.int qk), .val (.int q0), .val (.int q1), .unset, .unset, .unset, .unset, .unset, .unset] [(.int (((p3).toUInt32 >>> ((24 : Int32) &&& 31).toUInt32).toInt32))]))
          obtain ⟨_, _, ⟨T13, L13, k13, n13⟩, -, X13, ⟨Lc13, hQ13, l13, y13, z13⟩, st13⟩ := Jvm.LawKit.callS X9 hx (y := (⟨"com/example/gather_solvers/gathersolvers/model/SolverFunctionMatchesPinLaw", "lenOf", "(I)I"⟩ : MethodName)) hown (mvT hZ (hw _ (List.mem_of_getElem? (i := 0) rfl))) (mvT hZ (hw _ (List.mem_of_getElem? (i := 1) rfl))) (mvT hZ (hw _ (List.mem_of_getElem? (i := 2) rfl))) (mvT hZ (hw _ (List.mem_of_getElem? (i := 3) rfl))) (by decide) (backOf (W := 0) (rm_len l Z a0 hw [] zC hG ((((p3).toUInt32 >>> ((24 : Int32) &&& 31).toUInt32).toInt32)) T9.heap n0 Z9 O9  ) hZ (hw _ (List.mem_of_getElem? (i := 3) rfl)) (hw _ (List.mem_of_getElem? (i := 2) rfl)) (Nat.le_of_ble_eq_true rfl) (Nat.le_of_ble_eq_true rfl)) (g := (mkF m 206 #[.val (.int p0), .val (.int p1), .val (.int p2), .val (.int p3), .val (.int r0), .val (.int r1), .val (.int r_1), .val (.int r_2), .val (.int n0_), .val (.int n1_), .val (.ref r_3), .val (.ref r_5), .val (.int pk), .val (.int c0), .val (.int c1), .val (.int r_8), .val (.ref r_9), .val (.int qk), .val (.int q0), .val (.int q1), .unset, .unset, .unset, .unset, .unset, .unset] [(.int (((p3).toUInt32 >>> ((24 : Int32) &&& 31).toUInt32).toInt32))])) rfl (by rw [hml]; rfl) (argsL := [(.int (((p3).toUInt32 >>> ((24 : Int32) &&& 31).toUInt32).toInt32))]) (rest := []) (lenOf pd_5 rfl) rfl (by show 2 * 0 + _ ≤ _; exact Nat.le_of_eq rfl) (hb hby at_206) (fun _ _ => ⟨rfl, rfl, (Nat.le_of_ble_eq_true rfl : 18 + 0 ≤ _), (Nat.le_of_ble_eq_true rfl : 60 + 0 ≤ _)⟩)
          dsimp only [Pt.U, Pt.locs, Pt.cells, Pt.slots] at X13 l13 y13 z13 st13 hQ13
          subst l13 y13 z13
          obtain ⟨r_13, rfl, Nq13, eq13, hq13_0⟩ := hQ13
          have N13 := Fr.app N9 Nq13
          refine Go.by (fun _ => st13 _) ?_
          show Go p e below P (T13.setTop (mkF m 209 #[.val (.int p0), .val (.int p1), .val (.int p2), .val (.int p3), .val (.int r0), .val (.int r1), .val (.int r_1), .val (.int r_2), .val (.int n0_), .val (.int n1_), .val (.ref r_3), .val (.ref r_5), .val (.int pk), .val (.int c0), .val (.int c1), .val (.int r_8), .val (.ref r_9), .val (.int qk), .val (.int q0), .val (.int q1), .unset, .unset, .unset, .unset, .unset, .unset] [(.int r_13)]))
          refine Go.by (fun _ => XS.istore X13.here hx rfl (hb hby at_209) rfl (l' := #[.val (.int p0), .val (.int p1), .val (.int p2), .val (.int p3), .val (.int r0), .val (.int r1), .val (.int r_1), .val (.int r_2), .val (.int n0_), .val (.int n1_), .val (.ref r_3), .val (.ref r_5), .val (.int pk), .val (.int c0), .val (.int c1), .val (.int r_8), .val (.ref r_9), .val (.int qk), .val (.int q0), .val (.int q1), .val (.int r_13), .unset, .unset, .unset, .unset, .unset]) rfl) ?_
          show Go p e below P (T13.setTop (mkF m 211 #[.val (.int p0), .val (.int p1), .val (.int p2), .val (.int p3), .val (.int r0), .val (.int r1), .val (.int r_1), .val (.int r_2), .val (.int n0_), .val (.int n1_), .val (.ref r_3), .val (.ref r_5), .val (.int pk), .val (.int c0), .val (.int c1), .val (.int r_8), .val (.ref r_9), .val (.int qk), .val (.int q0), .val (.int q1), .val (.int r_13), .unset, .unset, .unset, .unset, .unset] []))
          refine Go.by (fun _ => XS.iload X13.here hx rfl (hb hby at_211) rfl) ?_
          show Go p e below P (T13.setTop (mkF m 213 #[.val (.int p0), .val (.int p1), .val (.int p2), .val (.int p3), .val (.int r0), .val (.int r1), .val (.int r_1), .val (.int r_2), .val (.int n0_), .val (.int n1_), .val (.ref r_3), .val (.ref r_5), .val (.int pk), .val (.int c0), .val (.int c1), .val (.int r_8), .val (.ref r_9), .val (.int qk), .val (.int q0), .val (.int q1), .val (.int r_13), .unset, .unset, .unset, .unset, .unset] [(.int qk)]))
          refine Go.by (fun _ => XS.iload X13.here hx rfl (hb hby at_213) rfl) ?_
          show Go p e below P (T13.setTop (mkF m 215 #[.val (.int p0), .val (.int p1), .val (.int p2), .val (.int p3), .val (.int r0), .val (.int r1), .val (.int r_1), .val (.int r_2), .val (.int n0_), .val (.int n1_), .val (.ref r_3), .val (.ref r_5), .val (.int pk), .val (.int c0), .val (.int c1), .val (.int r_8), .val (.ref r_9), .val (.int qk), .val (.int q0), .val (.int q1), .val (.int r_13), .unset, .unset, .unset, .unset, .unset] [(.int r_13), (.int qk)]))
          refine Go.by (fun _ => XS.iload X13.here hx rfl (hb hby at_215) rfl) ?_
          show Go p e below P (T13.setTop (mkF m 217 #[.val (.int p0), .val (.int p1), .val (.int p2), .val (.int p3), .val (.int r0), .val (.int r1), .val (.int r_1), .val (.int r_2), .val (.int n0_), .val (.int n1_), .val (.ref r_3), .val (.ref r_5), .val (.int pk), .val (.int c0), .val (.int c1), .val (.int r_8), .val (.ref r_9), .val (.int qk), .val (.int q0), .val (.int q1), .val (.int r_13), .unset, .unset, .unset, .unset, .unset] [(.int q0), (.int r_13), (.int qk)]))
          refine Go.by (fun _ => XS.iload X13.here hx rfl (hb hby at_217) rfl) ?_
          show Go p e below P (T13.setTop (mkF m 219 #[.val (.int p0), .val (.int p1), .val (.int p2), .val (.int p3), .val (.int r0), .val (.int r1), .val (.int r_1), .val (.int r_2), .val (.int n0_), .val (.int n1_), .val (.ref r_3), .val (.ref r_5), .val (.int pk), .val (.int c0), .val (.int c1), .val (.int r_8), .val (.ref r_9), .val (.int qk), .val (.int q0), .val (.int q1), .val (.int r_13), .unset, .unset, .unset, .unset, .unset] [(.int q1), (.int q0), (.int r_13), (.int qk)]))
          obtain ⟨_, _, ⟨T14, L14, k14, n14⟩, -, X14, hSc14, hgr14, ⟨Lc14, hQ14, l14, y14, z14, Cr14⟩, st14⟩ := callSS X13 hx (y := (⟨"com/example/gather_solvers/gathersolvers/model/SolverFunctionMatchesPinLaw", "pkg", "(IIII)Ljava/lang/String;"⟩ : MethodName)) hown (mvT hZ (hw _ (List.mem_of_getElem? (i := 29) rfl))) (mvT hZ (hw _ (List.mem_of_getElem? (i := 30) rfl))) (mvT hZ (hw _ (List.mem_of_getElem? (i := 2) rfl))) (mvT hZ (hw _ (List.mem_of_getElem? (i := 31) rfl))) (by decide) (backOfSH (W := 0) (rm_pkg l Z a0 hw [] zC hG qk r_13 q0 q1 T9.heap n0 Z9 O9  hr_q0 hr_q1) hZ (hw _ (List.mem_of_getElem? (i := 31) rfl)) (hw _ (List.mem_of_getElem? (i := 2) rfl)) (Nat.le_of_ble_eq_true rfl) (Nat.le_of_ble_eq_true rfl) (own_EW hw) C9) (g := (mkF m 219 #[.val (.int p0), .val (.int p1), .val (.int p2), .val (.int p3), .val (.int r0), .val (.int r1), .val (.int r_1), .val (.int r_2), .val (.int n0_), .val (.int n1_), .val (.ref r_3), .val (.ref r_5), .val (.int pk), .val (.int c0), .val (.int c1), .val (.int r_8), .val (.ref r_9), .val (.int qk), .val (.int q0), .val (.int q1), .val (.int r_13), .unset, .unset, .unset, .unset, .unset] [(.int q1), (.int q0), (.int r_13), (.int qk)])) rfl (by rw [hml]; rfl) (argsL := [(.int qk), (.int r_13), (.int q0), (.int q1)]) (rest := []) (lenOf pd_6 rfl) rfl (by show 2 * 0 + _ ≤ _; exact Nat.le_of_eq rfl) (hb hby at_219) (fun _ _ => ⟨rfl, eq13, (Nat.le_of_ble_eq_true rfl : 18 + 6 ≤ _), (Nat.le_of_ble_eq_true rfl : 60 + 36 ≤ _)⟩)
          dsimp only [Pt.U, Pt.locs, Pt.cells, Pt.slots] at X14 l14 y14 z14 st14 hQ14 hSc14 hgr14 Cr14
          subst l14 y14 z14
          have hZo := hZ
          obtain ⟨X14, hS, hZ, hown⟩ := rebS hS (by rw [eq13]; exact hk) X14 hSc14 hgr14 hZ hown
          have hk : T14.heap.size ≤ T14.heap.size := Nat.le_refl _
          have R14 := R9.trans Cr14
          have C14 := Cr14.1
          obtain ⟨r_14, t_14, rfl, Nq14, Kc14, F15⟩ := hQ14
          have N14 := Fr.app N13 Nq14
          refine Go.by (fun _ k => st14.trans k) ?_
          have F16 : Str Z T14.heap r_3 t_3 (mkL r_1 r0 r1) := F11.keep Kc14 nin0 nin0
          have F17 : Str Z T14.heap r_5 t_5 (mkL r_2 n0_ n1_) := F12.keep Kc14 nin0 nin0
          have F18 : Str Z T14.heap r_9 t_9 (pkL pk r_8 c0 c1) := F10.keep Kc14 nin0 nin0
          have O14 := O9.keep Kc14 all0
          have Z14 : n0 ≤ T14.heap.size := Nat.le_trans Z9 Kc14.1
          show Go p e below P (T14.setTop (mkF m 222 #[.val (.int p0), .val (.int p1), .val (.int p2), .val (.int p3), .val (.int r0), .val (.int r1), .val (.int r_1), .val (.int r_2), .val (.int n0_), .val (.int n1_), .val (.ref r_3), .val (.ref r_5), .val (.int pk), .val (.int c0), .val (.int c1), .val (.int r_8), .val (.ref r_9), .val (.int qk), .val (.int q0), .val (.int q1), .val (.int r_13), .unset, .unset, .unset, .unset, .unset] [(.ref r_14)]))
          refine Go.by (fun _ => XS.astore X14.here hx rfl (hb hby at_222) rfl rfl (l' := #[.val (.int p0), .val (.int p1), .val (.int p2), .val (.int p3), .val (.int r0), .val (.int r1), .val (.int r_1), .val (.int r_2), .val (.int n0_), .val (.int n1_), .val (.ref r_3), .val (.ref r_5), .val (.int pk), .val (.int c0), .val (.int c1), .val (.int r_8), .val (.ref r_9), .val (.int qk), .val (.int q0), .val (.int q1), .val (.int r_13), .val (.ref r_14), .unset, .unset, .unset, .unset]) rfl) ?_
          show Go p e below P (T14.setTop (mkF m 224 #[.val (.int p0), .val (.int p1), .val (.int p2), .val (.int p3), .val (.int r0), .val (.int r1), .val (.int r_1), .val (.int r_2), .val (.int n0_), .val (.int n1_), .val (.ref r_3), .val (.ref r_5), .val (.int pk), .val (.int c0), .val (.int c1), .val (.int r_8), .val (.ref r_9), .val (.int qk), .val (.int q0), .val (.int q1), .val (.int r_13), .val (.ref r_14), .unset, .unset, .unset, .unset] []))
          refine Go.by (fun _ => XS.iload X14.here hx rfl (hb hby at_224) rfl) ?_
          show Go p e below P (T14.setTop (mkF m 226 #[.val (.int p0), .val (.int p1), .val (.int p2), .val (.int p3), .val (.int r0), .val (.int r1), .val (.int r_1), .val (.int r_2), .val (.int n0_), .val (.int n1_), .val (.ref r_3), .val (.ref r_5), .val (.int pk), .val (.int c0), .val (.int c1), .val (.int r_8), .val (.ref r_9), .val (.int qk), .val (.int q0), .val (.int q1), .val (.int r_13), .val (.ref r_14), .unset, .unset, .unset, .unset] [(.int r_1)]))
          refine Go.by (fun _ => XS.iload X14.here hx rfl (hb hby at_226) rfl) ?_
          show Go p e below P (T14.setTop (mkF m 228 #[.val (.int p0), .val (.int p1), .val (.int p2), .val (.int p3), .val (.int r0), .val (.int r1), .val (.int r_1), .val (.int r_2), .val (.int n0_), .val (.int n1_), .val (.ref r_3), .val (.ref r_5), .val (.int pk), .val (.int c0), .val (.int c1), .val (.int r_8), .val (.ref r_9), .val (.int qk), .val (.int q0), .val (.int q1), .val (.int r_13), .val (.ref r_14), .unset, .unset, .unset, .unset] [(.int r0), (.int r_1)]))
          refine Go.by (fun _ => XS.iload X14.here hx rfl (hb hby at_228) rfl) ?_
          show Go p e below P (T14.setTop (mkF m 230 #[.val (.int p0), .val (.int p1), .val (.int p2), .val (.int p3), .val (.int r0), .val (.int r1), .val (.int r_1), .val (.int r_2), .val (.int n0_), .val (.int n1_), .val (.ref r_3), .val (.ref r_5), .val (.int pk), .val (.int c0), .val (.int c1), .val (.int r_8), .val (.ref r_9), .val (.int qk), .val (.int q0), .val (.int q1), .val (.int r_13), .val (.ref r_14), .unset, .unset, .unset, .unset] [(.int r1), (.int r0), (.int r_1)]))
          refine Go.by (fun _ => XS.iload X14.here hx rfl (hb hby at_230) rfl) ?_
          show Go p e below P (T14.setTop (mkF m 232 #[.val (.int p0), .val (.int p1), .val (.int p2), .val (.int p3), .val (.int r0), .val (.int r1), .val (.int r_1), .val (.int r_2), .val (.int n0_), .val (.int n1_), .val (.ref r_3), .val (.ref r_5), .val (.int pk), .val (.int c0), .val (.int c1), .val (.int r_8), .val (.ref r_9), .val (.int qk), .val (.int q0), .val (.int q1), .val (.int r_13), .val (.ref r_14), .unset, .unset, .unset, .unset] [(.int r_2), (.int r1), (.int r0), (.int r_1)]))
          refine Go.by (fun _ => XS.iload X14.here hx rfl (hb hby at_232) rfl) ?_
          show Go p e below P (T14.setTop (mkF m 234 #[.val (.int p0), .val (.int p1), .val (.int p2), .val (.int p3), .val (.int r0), .val (.int r1), .val (.int r_1), .val (.int r_2), .val (.int n0_), .val (.int n1_), .val (.ref r_3), .val (.ref r_5), .val (.int pk), .val (.int c0), .val (.int c1), .val (.int r_8), .val (.ref r_9), .val (.int qk), .val (.int q0), .val (.int q1), .val (.int r_13), .val (.ref r_14), .unset, .unset, .unset, .unset] [(.int n0_), (.int r_2), (.int r1), (.int r0), (.int r_1)]))
          refine Go.by (fun _ => XS.iload X14.here hx rfl (hb hby at_234) rfl) ?_
          show Go p e below P (T14.setTop (mkF m 236 #[.val (.int p0), .val (.int p1), .val (.int p2), .val (.int p3), .val (.int r0), .val (.int r1), .val (.int r_1), .val (.int r_2), .val (.int n0_), .val (.int n1_), .val (.ref r_3), .val (.ref r_5), .val (.int pk), .val (.int c0), .val (.int c1), .val (.int r_8), .val (.ref r_9), .val (.int qk), .val (.int q0), .val (.int q1), .val (.int r_13), .val (.ref r_14), .unset, .unset, .unset, .unset] [(.int n1_), (.int n0_), (.int r_2), (.int r1), (.int r0), (.int r_1)]))
          obtain ⟨_, _, ⟨T19, L19, k19, n19⟩, -, X19, ⟨Lc19, hQ19, l19, y19, z19⟩, st19⟩ := Jvm.LawKit.callS X14 hx (y := (⟨"com/example/gather_solvers/gathersolvers/model/SolverFunctionMatchesPinLaw", "drawnEq", "(IIIIII)Z"⟩ : MethodName)) hown (mvT hZ (hw _ (List.mem_of_getElem? (i := 34) rfl))) (mvT hZ (hw _ (List.mem_of_getElem? (i := 35) rfl))) (mvT hZ (hw _ (List.mem_of_getElem? (i := 2) rfl))) (mvT hZ (hw _ (List.mem_of_getElem? (i := 36) rfl))) (by decide) (backOf (W := 0) (rm_deq l Z a0 hw [] zC hG r_1 r0 r1 r_2 n0_ n1_ ((if (r_1 = r_2 ∧ (r_1 < 1 ∨ r0 = n0_) ∧ (r_1 < 2 ∨ r1 = n1_)) then (1 : Int32) else 0)) T14.heap n0 Z14 O14  rfl) hZ (hw _ (List.mem_of_getElem? (i := 36) rfl)) (hw _ (List.mem_of_getElem? (i := 2) rfl)) (Nat.le_of_ble_eq_true rfl) (Nat.le_of_ble_eq_true rfl)) (g := (mkF m 236 #[.val (.int p0), .val (.int p1), .val (.int p2), .val (.int p3), .val (.int r0), .val (.int r1), .val (.int r_1), .val (.int r_2), .val (.int n0_), .val (.int n1_), .val (.ref r_3), .val (.ref r_5), .val (.int pk), .val (.int c0), .val (.int c1), .val (.int r_8), .val (.ref r_9), .val (.int qk), .val (.int q0), .val (.int q1), .val (.int r_13), .val (.ref r_14), .unset, .unset, .unset, .unset] [(.int n1_), (.int n0_), (.int r_2), (.int r1), (.int r0), (.int r_1)])) rfl (by rw [hml]; rfl) (argsL := [(.int r_1), (.int r0), (.int r1), (.int r_2), (.int n0_), (.int n1_)]) (rest := []) (lenOf pd_7 rfl) rfl (by show 2 * 0 + _ ≤ _; exact Nat.le_of_eq rfl) (hb hby at_236) (fun _ _ => ⟨rfl, rfl, (Nat.le_of_ble_eq_true rfl : 24 + 0 ≤ _), (Nat.le_of_ble_eq_true rfl : 96 + 0 ≤ _)⟩)
          dsimp only [Pt.U, Pt.locs, Pt.cells, Pt.slots] at X19 l19 y19 z19 st19 hQ19
          subst l19 y19 z19
          obtain ⟨rfl, Nq19, eq19⟩ := hQ19
          have N19 := Fr.app N14 Nq19
          refine Go.by (fun _ => st19 _) ?_
          show Go p e below P (T19.setTop (mkF m 239 #[.val (.int p0), .val (.int p1), .val (.int p2), .val (.int p3), .val (.int r0), .val (.int r1), .val (.int r_1), .val (.int r_2), .val (.int n0_), .val (.int n1_), .val (.ref r_3), .val (.ref r_5), .val (.int pk), .val (.int c0), .val (.int c1), .val (.int r_8), .val (.ref r_9), .val (.int qk), .val (.int q0), .val (.int q1), .val (.int r_13), .val (.ref r_14), .unset, .unset, .unset, .unset] [(.int (if (r_1 = r_2 ∧ (r_1 < 1 ∨ r0 = n0_) ∧ (r_1 < 2 ∨ r1 = n1_)) then (1 : Int32) else 0))]))
          generalize hv_e22 : (if (r_1 = r_2 ∧ (r_1 < 1 ∨ r0 = n0_) ∧ (r_1 < 2 ∨ r1 = n1_)) then (1 : Int32) else 0) = e22
          refine Go.by (fun _ => XS.istore X19.here hx rfl (hb hby at_239) rfl (l' := #[.val (.int p0), .val (.int p1), .val (.int p2), .val (.int p3), .val (.int r0), .val (.int r1), .val (.int r_1), .val (.int r_2), .val (.int n0_), .val (.int n1_), .val (.ref r_3), .val (.ref r_5), .val (.int pk), .val (.int c0), .val (.int c1), .val (.int r_8), .val (.ref r_9), .val (.int qk), .val (.int q0), .val (.int q1), .val (.int r_13), .val (.ref r_14), .val (.int e22), .unset, .unset, .unset]) rfl) ?_
          show Go p e below P (T19.setTop (mkF m 241 #[.val (.int p0), .val (.int p1), .val (.int p2), .val (.int p3), .val (.int r0), .val (.int r1), .val (.int r_1), .val (.int r_2), .val (.int n0_), .val (.int n1_), .val (.ref r_3), .val (.ref r_5), .val (.int pk), .val (.int c0), .val (.int c1), .val (.int r_8), .val (.ref r_9), .val (.int qk), .val (.int q0), .val (.int q1), .val (.int r_13), .val (.ref r_14), .val (.int e22), .unset, .unset, .unset] []))
          have heq := own_pkeq pk r_8 c0 c1 qk r_13 q0 q1 hpk hqk hq8_0 hq13_0
          have J305 : ∀ (TJ305 : State) (lcJ305 : List Loc) (vmJ305 : Vm) (XJ305 : Stand p l e room_1 (s.setVm vmJ305) m #[(.int p0), (.int p1), (.int p2), (.int p3)] below meth c TJ305 lcJ305 24 96) (eJ305 : TJ305.heap = T14.heap) (NJ305 : Fr n0 lcJ305) (k0J305 : Nat) (hS : s.Since vmJ305 k0J305) (hk : k0J305 ≤ T14.heap.size) (hZ : Z.Warmed39 vmJ305) (hown : (vmJ305).findClass "com/example/gather_solvers/gathersolvers/model/SolverFunctionMatchesPinLaw" = some m.cls) (CJ305 : CHv Z consts_1 vmJ305 T14.heap) (RJ305 : CHr Z consts_1 s.vm h0 vmJ305 T14.heap) (e23 : Int32) (he23 : e23 = if pkL qk r_13 q0 q1 = pkL pk r_8 c0 c1 then 1 else 0), Go p e below P (TJ305.setTop (mkF m 305 #[.val (.int p0), .val (.int p1), .val (.int p2), .val (.int p3), .val (.int r0), .val (.int r1), .val (.int r_1), .val (.int r_2), .val (.int n0_), .val (.int n1_), .val (.ref r_3), .val (.ref r_5), .val (.int pk), .val (.int c0), .val (.int c1), .val (.int r_8), .val (.ref r_9), .val (.int qk), .val (.int q0), .val (.int q1), .val (.int r_13), .val (.ref r_14), .val (.int e22), .val (.int e23), .unset, .unset] [])) := by
            intro TJ305 lcJ305 vmJ305 XJ305 eJ305 NJ305 k0J305 hS hk hZ hown CJ305 RJ305 e23 he23
            have hN : e22 = if mkL r_1 r0 r1 = mkL r_2 n0_ n1_ then 1 else 0 := by rw [← hv_e22]; exact own_mkeq r_1 r0 r1 r_2 n0_ n1_ hq1_0 hq2_0
            show Go p e below P (TJ305.setTop (mkF m 305 #[.val (.int p0), .val (.int p1), .val (.int p2), .val (.int p3), .val (.int r0), .val (.int r1), .val (.int r_1), .val (.int r_2), .val (.int n0_), .val (.int n1_), .val (.ref r_3), .val (.ref r_5), .val (.int pk), .val (.int c0), .val (.int c1), .val (.int r_8), .val (.ref r_9), .val (.int qk), .val (.int q0), .val (.int q1), .val (.int r_13), .val (.ref r_14), .val (.int e22), .val (.int e23), .unset, .unset] []))
            have J325 : ∀ (TJ325 : State) (lcJ325 : List Loc) (vmJ325 : Vm) (XJ325 : Stand p l e room_1 (s.setVm vmJ325) m #[(.int p0), (.int p1), (.int p2), (.int p3)] below meth c TJ325 lcJ325 24 96) (eJ325 : TJ325.heap = T14.heap) (NJ325 : Fr n0 lcJ325) (k0J325 : Nat) (hS : s.Since vmJ325 k0J325) (hk : k0J325 ≤ T14.heap.size) (hZ : Z.Warmed39 vmJ325) (hown : (vmJ325).findClass "com/example/gather_solvers/gathersolvers/model/SolverFunctionMatchesPinLaw" = some m.cls) (CJ325 : CHv Z consts_1 vmJ325 T14.heap) (RJ325 : CHr Z consts_1 s.vm h0 vmJ325 T14.heap) (b24 : Int32) (hB : b24 = if mkL r_1 r0 r1 = mkL r_2 n0_ n1_ then (if pkL qk r_13 q0 q1 = DEF then 1 else if pkL qk r_13 q0 q1 = pkL pk r_8 c0 c1 then 1 else 0) else 0), Go p e below P (TJ325.setTop (mkF m 325 #[.val (.int p0), .val (.int p1), .val (.int p2), .val (.int p3), .val (.int r0), .val (.int r1), .val (.int r_1), .val (.int r_2), .val (.int n0_), .val (.int n1_), .val (.ref r_3), .val (.ref r_5), .val (.int pk), .val (.int c0), .val (.int c1), .val (.int r_8), .val (.ref r_9), .val (.int qk), .val (.int q0), .val (.int q1), .val (.int r_13), .val (.ref r_14), .val (.int e22), .val (.int e23), .unset, .unset] [(.int b24)])) := by
              intro TJ325 lcJ325 vmJ325 XJ325 eJ325 NJ325 k0J325 hS hk hZ hown CJ325 RJ325 b24 hB
              refine Go.by (fun _ => XS.istore XJ325.here hx rfl (hb hby at_325) rfl (l' := #[.val (.int p0), .val (.int p1), .val (.int p2), .val (.int p3), .val (.int r0), .val (.int r1), .val (.int r_1), .val (.int r_2), .val (.int n0_), .val (.int n1_), .val (.ref r_3), .val (.ref r_5), .val (.int pk), .val (.int c0), .val (.int c1), .val (.int r_8), .val (.ref r_9), .val (.int qk), .val (.int q0), .val (.int q1), .val (.int r_13), .val (.ref r_14), .val (.int e22), .val (.int e23), .val (.int b24), .unset]) rfl) ?_
              show Go p e below P (TJ325.setTop (mkF m 327 #[.val (.int p0), .val (.int p1), .val (.int p2), .val (.int p3), .val (.int r0), .val (.int r1), .val (.int r_1), .val (.int r_2), .val (.int n0_), .val (.int n1_), .val (.ref r_3), .val (.ref r_5), .val (.int pk), .val (.int c0), .val (.int c1), .val (.int r_8), .val (.ref r_9), .val (.int qk), .val (.int q0), .val (.int q1), .val (.int r_13), .val (.ref r_14), .val (.int e22), .val (.int e23), .val (.int b24), .unset] []))
              obtain ⟨T20, h20, X20, e20, E20, A20, D20, -, st20⟩ := newO XJ325 hx hZ hown (hw _ (List.mem_of_getElem? (i := 37) rfl)) (hw _ (List.mem_of_getElem? (i := 38) rfl)) (hw _ (List.mem_of_getElem? (i := 39) rfl)) eJ325 (g := (mkF m 327 #[.val (.int p0), .val (.int p1), .val (.int p2), .val (.int p3), .val (.int r0), .val (.int r1), .val (.int r_1), .val (.int r_2), .val (.int n0_), .val (.int n1_), .val (.ref r_3), .val (.ref r_5), .val (.int pk), .val (.int c0), .val (.int c1), .val (.int r_8), .val (.ref r_9), .val (.int qk), .val (.int q0), .val (.int q1), .val (.int r_13), .val (.ref r_14), .val (.int e22), .val (.int e23), .val (.int b24), .unset] [])) rfl (hb hby at_327) (Nat.le_of_ble_eq_true rfl) (Nat.le_of_ble_eq_true rfl)
              obtain ⟨b20, q20⟩ : ∃ z, z = T14.heap.size := ⟨_, rfl⟩
              rw [← q20] at A20 D20 st20
              refine Go.by (fun _ => st20 _) ?_
              have ne_r_3_b20 : r_3 ≠ b20 := Nat.ne_of_lt (Nat.lt_of_lt_of_le F16.ltx (Nat.le_of_eq q20.symm))
              have ne_t_3_b20 : t_3 ≠ b20 := Nat.ne_of_lt (Nat.lt_of_lt_of_le F16.ltt (Nat.le_of_eq q20.symm))
              have ne_r_5_b20 : r_5 ≠ b20 := Nat.ne_of_lt (Nat.lt_of_lt_of_le F17.ltx (Nat.le_of_eq q20.symm))
              have ne_t_5_b20 : t_5 ≠ b20 := Nat.ne_of_lt (Nat.lt_of_lt_of_le F17.ltt (Nat.le_of_eq q20.symm))
              have ne_r_9_b20 : r_9 ≠ b20 := Nat.ne_of_lt (Nat.lt_of_lt_of_le F18.ltx (Nat.le_of_eq q20.symm))
              have ne_t_9_b20 : t_9 ≠ b20 := Nat.ne_of_lt (Nat.lt_of_lt_of_le F18.ltt (Nat.le_of_eq q20.symm))
              have ne_r_14_b20 : r_14 ≠ b20 := Nat.ne_of_lt (Nat.lt_of_lt_of_le F15.ltx (Nat.le_of_eq q20.symm))
              have ne_t_14_b20 : t_14 ≠ b20 := Nat.ne_of_lt (Nat.lt_of_lt_of_le F15.ltt (Nat.le_of_eq q20.symm))
              have g_b20 : n0 ≤ b20 := Nat.le_trans Z14 (Nat.le_of_eq q20.symm)
              have F21 : Str Z h20 r_3 t_3 (mkL r_1 r0 r1) := F16.ext E20
              have F22 : Str Z h20 r_5 t_5 (mkL r_2 n0_ n1_) := F17.ext E20
              have F23 : Str Z h20 r_9 t_9 (pkL pk r_8 c0 c1) := F18.ext E20
              have F24 : Str Z h20 r_14 t_14 (pkL qk r_13 q0 q1) := F15.ext E20
              have O20 := O14.ext E20
              have R20 := RJ325.trans (CHr.ext E20 CJ325)
              have C20 := CHv.ext E20 CJ325
              have hk := Nat.le_trans hk E20.1
              have Z20 : n0 ≤ h20.size := Nat.le_trans Z14 E20.1
              have F25 : Fld Z h20 b20 "com/example/gather_solvers/gathersolvers/model/SolverFunction" "name" "Ljava/lang/String;" .null := D20 (Or.inr (hw _ (List.mem_of_getElem? (i := 51) rfl))) (ty := (.object "java/lang/String")) (by decide)
              have F26 : Fld Z h20 b20 "com/example/gather_solvers/gathersolvers/model/SolverFunction" "packageName" "Ljava/lang/String;" .null := D20 (Or.inr (hw _ (List.mem_of_getElem? (i := 53) rfl))) (ty := (.object "java/lang/String")) (by decide)
              have F27 : Fld Z h20 b20 "com/example/gather_solvers/gathersolvers/model/SolverFunction" "signature" "Ljava/lang/String;" .null := D20 (Or.inr (hw _ (List.mem_of_getElem? (i := 55) rfl))) (ty := (.object "java/lang/String")) (by decide)
              have F28 : Fld Z h20 b20 "com/example/gather_solvers/gathersolvers/model/SolverFunction" "description" "Ljava/lang/String;" .null := D20 (Or.inr (hw _ (List.mem_of_getElem? (i := 57) rfl))) (ty := (.object "java/lang/String")) (by decide)
              show Go p e below P (T20.setTop (mkF m 330 #[.val (.int p0), .val (.int p1), .val (.int p2), .val (.int p3), .val (.int r0), .val (.int r1), .val (.int r_1), .val (.int r_2), .val (.int n0_), .val (.int n1_), .val (.ref r_3), .val (.ref r_5), .val (.int pk), .val (.int c0), .val (.int c1), .val (.int r_8), .val (.ref r_9), .val (.int qk), .val (.int q0), .val (.int q1), .val (.int r_13), .val (.ref r_14), .val (.int e22), .val (.int e23), .val (.int b24), .unset] [(.ref b20)]))
              refine Go.by (fun _ => XS.dup X20.here hx rfl (hb hby at_330) rfl rfl) ?_
              show Go p e below P (T20.setTop (mkF m 331 #[.val (.int p0), .val (.int p1), .val (.int p2), .val (.int p3), .val (.int r0), .val (.int r1), .val (.int r_1), .val (.int r_2), .val (.int n0_), .val (.int n1_), .val (.ref r_3), .val (.ref r_5), .val (.int pk), .val (.int c0), .val (.int c1), .val (.int r_8), .val (.ref r_9), .val (.int qk), .val (.int q0), .val (.int q1), .val (.int r_13), .val (.ref r_14), .val (.int e22), .val (.int e23), .val (.int b24), .unset] [(.ref b20), (.ref b20)]))
              refine Go.by (fun _ => XS.aload X20.here hx rfl (hb hby at_331) rfl rfl) ?_
              show Go p e below P (T20.setTop (mkF m 333 #[.val (.int p0), .val (.int p1), .val (.int p2), .val (.int p3), .val (.int r0), .val (.int r1), .val (.int r_1), .val (.int r_2), .val (.int n0_), .val (.int n1_), .val (.ref r_3), .val (.ref r_5), .val (.int pk), .val (.int c0), .val (.int c1), .val (.int r_8), .val (.ref r_9), .val (.int qk), .val (.int q0), .val (.int q1), .val (.int r_13), .val (.ref r_14), .val (.int e22), .val (.int e23), .val (.int b24), .unset] [(.ref r_3), (.ref b20), (.ref b20)]))
              refine Go.by (fun _ => XS.aload X20.here hx rfl (hb hby at_333) rfl rfl) ?_
              show Go p e below P (T20.setTop (mkF m 335 #[.val (.int p0), .val (.int p1), .val (.int p2), .val (.int p3), .val (.int r0), .val (.int r1), .val (.int r_1), .val (.int r_2), .val (.int n0_), .val (.int n1_), .val (.ref r_3), .val (.ref r_5), .val (.int pk), .val (.int c0), .val (.int c1), .val (.int r_8), .val (.ref r_9), .val (.int qk), .val (.int q0), .val (.int q1), .val (.int r_13), .val (.ref r_14), .val (.int e22), .val (.int e23), .val (.int b24), .unset] [(.ref r_9), (.ref r_3), (.ref b20), (.ref b20)]))
              have hZo := hZ
              obtain ⟨ls29, T29, h29, k29, lb29, kk29, X29, e29, E29, hS, hk, hZ, hown, FE29, FC29, FV29, FA29, -, -, Cr29, Li29, Sn29, st29⟩ := ldcCH X20 hx hZ hown (hw _ (List.mem_of_getElem? (i := 40) rfl)) (own_wS hw) e20 hS hk (own_EW hw) (List.mem_of_getElem? (i := 5) rfl) C20 (vs := []) (z := (0 : Int32)) ⟨by decide, rfl⟩ (by decide) rfl (g := (mkF m 335 #[.val (.int p0), .val (.int p1), .val (.int p2), .val (.int p3), .val (.int r0), .val (.int r1), .val (.int r_1), .val (.int r_2), .val (.int n0_), .val (.int n1_), .val (.ref r_3), .val (.ref r_5), .val (.int pk), .val (.int c0), .val (.int c1), .val (.int r_8), .val (.ref r_9), .val (.int qk), .val (.int q0), .val (.int q1), .val (.int r_13), .val (.ref r_14), .val (.int e22), .val (.int e23), .val (.int b24), .unset] [(.ref r_9), (.ref r_3), (.ref b20), (.ref b20)])) rfl (hb hby at_335) (n := 0) (Nat.le_of_ble_eq_true rfl) (Nat.le_of_ble_eq_true rfl) (Nat.le_of_ble_eq_true rfl) (Nat.le_of_ble_eq_true rfl)
              refine Go.by (fun _ => st29 _) ?_
              have Sf29_b20 := Cr29.safe A20.lt (Safe.exa (EL := consts_1) hZo.alike A20 (by decide) (by decide))
              have R29 := R20.trans Cr29
              have C29 := Cr29.1
              have ne_b20_ls29 := (Sn29 _ Sf29_b20).1
              have ne_b20_lb29 := (Sn29 _ Sf29_b20).2
              have F30 : Str Z h29 r_3 t_3 (mkL r_1 r0 r1) := F21.ext E29
              have F31 : Str Z h29 r_5 t_5 (mkL r_2 n0_ n1_) := F22.ext E29
              have F32 : Str Z h29 r_9 t_9 (pkL pk r_8 c0 c1) := F23.ext E29
              have F33 : Str Z h29 r_14 t_14 (pkL qk r_13 q0 q1) := F24.ext E29
              have F34 : Exa Z h29 b20 "com/example/gather_solvers/gathersolvers/model/SolverFunction" := A20.ext E29
              have F35 : Fld Z h29 b20 "com/example/gather_solvers/gathersolvers/model/SolverFunction" "name" "Ljava/lang/String;" .null := F25.ext E29
              have F36 : Fld Z h29 b20 "com/example/gather_solvers/gathersolvers/model/SolverFunction" "packageName" "Ljava/lang/String;" .null := F26.ext E29
              have F37 : Fld Z h29 b20 "com/example/gather_solvers/gathersolvers/model/SolverFunction" "signature" "Ljava/lang/String;" .null := F27.ext E29
              have F38 : Fld Z h29 b20 "com/example/gather_solvers/gathersolvers/model/SolverFunction" "description" "Ljava/lang/String;" .null := F28.ext E29
              have O29 := O20.ext E29
              have Z29 : n0 ≤ h29.size := Nat.le_trans Z20 E29.1
              have F39 : Str Z h29 ls29 lb29 ([] : List Int32) := Str.mk FE29 FV29 FC29 FA29 (Or.inl ⟨rfl, rfl, rfl, by decide⟩) (by decide) (Nat.le_of_ble_eq_true rfl)
              show Go p e below P (T29.setTop (mkF m 337 #[.val (.int p0), .val (.int p1), .val (.int p2), .val (.int p3), .val (.int r0), .val (.int r1), .val (.int r_1), .val (.int r_2), .val (.int n0_), .val (.int n1_), .val (.ref r_3), .val (.ref r_5), .val (.int pk), .val (.int c0), .val (.int c1), .val (.int r_8), .val (.ref r_9), .val (.int qk), .val (.int q0), .val (.int q1), .val (.int r_13), .val (.ref r_14), .val (.int e22), .val (.int e23), .val (.int b24), .unset] [(.ref ls29), (.ref r_9), (.ref r_3), (.ref b20), (.ref b20)]))
              have hZo := hZ
              obtain ⟨ls40, T40, h40, k40, lb40, kk40, X40, e40, E40, hS, hk, hZ, hown, FE40, FC40, FV40, FA40, -, -, Cr40, Li40, Sn40, st40⟩ := ldcCH X29 hx hZ hown (hw _ (List.mem_of_getElem? (i := 40) rfl)) (own_wS hw) e29 hS hk (own_EW hw) (List.mem_of_getElem? (i := 5) rfl) C29 (vs := []) (z := (0 : Int32)) ⟨by decide, rfl⟩ (by decide) rfl (g := (mkF m 337 #[.val (.int p0), .val (.int p1), .val (.int p2), .val (.int p3), .val (.int r0), .val (.int r1), .val (.int r_1), .val (.int r_2), .val (.int n0_), .val (.int n1_), .val (.ref r_3), .val (.ref r_5), .val (.int pk), .val (.int c0), .val (.int c1), .val (.int r_8), .val (.ref r_9), .val (.int qk), .val (.int q0), .val (.int q1), .val (.int r_13), .val (.ref r_14), .val (.int e22), .val (.int e23), .val (.int b24), .unset] [(.ref ls29), (.ref r_9), (.ref r_3), (.ref b20), (.ref b20)])) rfl (hb hby at_337) (n := 0) (Nat.le_of_ble_eq_true rfl) (Nat.le_of_ble_eq_true rfl) (Nat.le_of_ble_eq_true rfl) (Nat.le_of_ble_eq_true rfl)
              refine Go.by (fun _ => st40 _) ?_
              have Sf40_b20 := Cr40.safe F34.lt Sf29_b20
              have R40 := R29.trans Cr40
              have C40 := Cr40.1
              have ne_b20_ls40 := (Sn40 _ Sf40_b20).1
              have ne_b20_lb40 := (Sn40 _ Sf40_b20).2
              have F41 : Str Z h40 r_3 t_3 (mkL r_1 r0 r1) := F30.ext E40
              have F42 : Str Z h40 r_5 t_5 (mkL r_2 n0_ n1_) := F31.ext E40
              have F43 : Str Z h40 r_9 t_9 (pkL pk r_8 c0 c1) := F32.ext E40
              have F44 : Str Z h40 r_14 t_14 (pkL qk r_13 q0 q1) := F33.ext E40
              have F45 : Exa Z h40 b20 "com/example/gather_solvers/gathersolvers/model/SolverFunction" := F34.ext E40
              have F46 : Fld Z h40 b20 "com/example/gather_solvers/gathersolvers/model/SolverFunction" "name" "Ljava/lang/String;" .null := F35.ext E40
              have F47 : Fld Z h40 b20 "com/example/gather_solvers/gathersolvers/model/SolverFunction" "packageName" "Ljava/lang/String;" .null := F36.ext E40
              have F48 : Fld Z h40 b20 "com/example/gather_solvers/gathersolvers/model/SolverFunction" "signature" "Ljava/lang/String;" .null := F37.ext E40
              have F49 : Fld Z h40 b20 "com/example/gather_solvers/gathersolvers/model/SolverFunction" "description" "Ljava/lang/String;" .null := F38.ext E40
              have F50 : Str Z h40 ls29 lb29 ([] : List Int32) := F39.ext E40
              have O40 := O29.ext E40
              have Z40 : n0 ≤ h40.size := Nat.le_trans Z29 E40.1
              have F51 : Str Z h40 ls40 lb40 ([] : List Int32) := Str.mk FE40 FV40 FC40 FA40 (Or.inl ⟨rfl, rfl, rfl, by decide⟩) (by decide) (Nat.le_of_ble_eq_true rfl)
              show Go p e below P (T40.setTop (mkF m 339 #[.val (.int p0), .val (.int p1), .val (.int p2), .val (.int p3), .val (.int r0), .val (.int r1), .val (.int r_1), .val (.int r_2), .val (.int n0_), .val (.int n1_), .val (.ref r_3), .val (.ref r_5), .val (.int pk), .val (.int c0), .val (.int c1), .val (.int r_8), .val (.ref r_9), .val (.int qk), .val (.int q0), .val (.int q1), .val (.int r_13), .val (.ref r_14), .val (.int e22), .val (.int e23), .val (.int b24), .unset] [(.ref ls40), (.ref ls29), (.ref r_9), (.ref r_3), (.ref b20), (.ref b20)]))
              obtain ⟨_, _, ⟨T52, L52, k52, n52⟩, -, X52, ⟨Lc52, hQ52, l52, y52, z52⟩, st52⟩ := X40.specialBack hx (y := (⟨"com/example/gather_solvers/gathersolvers/model/SolverFunction", "<init>", "(Ljava/lang/String;Ljava/lang/String;Ljava/lang/String;Ljava/lang/String;)V"⟩ : MethodName)) rfl hown (mvT hZ (hw _ (List.mem_of_getElem? (i := 41) rfl))) (mvT hZ (hw _ (List.mem_of_getElem? (i := 42) rfl))) (mvT hZ (hw _ (List.mem_of_getElem? (i := 43) rfl))) (by decide) (backOf (W := 1) (rm_sf l Z a0 hw [] zC hG b20 r_3 r_9 ls29 ls40 h40 n0 Z40 O40 F45 F46 F47 F48 F49 g_b20) hZ (hw _ (List.mem_of_getElem? (i := 43) rfl)) (hw _ (List.mem_of_getElem? (i := 39) rfl)) (Nat.le_of_ble_eq_true rfl) (Nat.le_of_ble_eq_true rfl)) (g := (mkF m 339 #[.val (.int p0), .val (.int p1), .val (.int p2), .val (.int p3), .val (.int r0), .val (.int r1), .val (.int r_1), .val (.int r_2), .val (.int n0_), .val (.int n1_), .val (.ref r_3), .val (.ref r_5), .val (.int pk), .val (.int c0), .val (.int c1), .val (.int r_8), .val (.ref r_9), .val (.int qk), .val (.int q0), .val (.int q1), .val (.int r_13), .val (.ref r_14), .val (.int e22), .val (.int e23), .val (.int b24), .unset] [(.ref ls40), (.ref ls29), (.ref r_9), (.ref r_3), (.ref b20), (.ref b20)])) rfl (by rw [hml]; rfl) (Steps.refl _) (a := b20) (argsL := [(.ref r_3), (.ref r_9), (.ref ls29), (.ref ls40)]) (rest := [(.ref b20)]) (lenOf pd_8 rfl) rfl (by show 2 * 0 + _ ≤ _; exact Nat.le_of_eq rfl) (hb hby at_339) (fun _ _ => ⟨rfl, e40, (Nat.le_of_ble_eq_true rfl : 29 + 0 ≤ _), (Nat.le_of_ble_eq_true rfl : 108 + 0 ≤ _)⟩)
              dsimp only [Pt.U, Pt.locs, Pt.cells, Pt.slots] at X52 l52 y52 z52 st52 hQ52
              subst l52 y52 z52
              obtain ⟨rfl, Nq52, Kc52, F53, F54⟩ := hQ52
              have N52 := Fr.app NJ325 Nq52
              refine Go.by (fun _ k => st52.trans k) ?_
              have F55 : Str Z T52.heap r_3 t_3 (mkL r_1 r0 r1) := F41.keep Kc52 (ninS ne_r_3_b20 nin0) (ninS ne_t_3_b20 nin0)
              have F56 : Str Z T52.heap r_5 t_5 (mkL r_2 n0_ n1_) := F42.keep Kc52 (ninS ne_r_5_b20 nin0) (ninS ne_t_5_b20 nin0)
              have F57 : Str Z T52.heap r_9 t_9 (pkL pk r_8 c0 c1) := F43.keep Kc52 (ninS ne_r_9_b20 nin0) (ninS ne_t_9_b20 nin0)
              have F58 : Str Z T52.heap r_14 t_14 (pkL qk r_13 q0 q1) := F44.keep Kc52 (ninS ne_r_14_b20 nin0) (ninS ne_t_14_b20 nin0)
              have F59 : Exa Z T52.heap b20 "com/example/gather_solvers/gathersolvers/model/SolverFunction" := F45.keep Kc52
              have F60 : Str Z T52.heap ls29 lb29 ([] : List Int32) := F50.keep Kc52 (ninS (Ne.symm ne_b20_ls29) nin0) (ninS (Ne.symm ne_b20_lb29) nin0)
              have F61 : Str Z T52.heap ls40 lb40 ([] : List Int32) := F51.keep Kc52 (ninS (Ne.symm ne_b20_ls40) nin0) (ninS (Ne.symm ne_b20_lb40) nin0)
              have Sk52 := own_sk (ws := [b20]) C40 (allS Sf40_b20 all0)
              have Sf52_b20 := Safe.keep Kc52 Sk52 C40 Sf40_b20
              have R52 := R40.trans (CHr.keep Kc52 Sk52 C40)
              have C52 := CHv.keep Kc52 Sk52 C40
              have hk := Nat.le_trans hk Kc52.1
              have O52 := O40.keep Kc52 (allS g_b20 all0)
              have Z52 : n0 ≤ T52.heap.size := Nat.le_trans Z40 Kc52.1
              show Go p e below P (T52.setTop (mkF m 342 #[.val (.int p0), .val (.int p1), .val (.int p2), .val (.int p3), .val (.int r0), .val (.int r1), .val (.int r_1), .val (.int r_2), .val (.int n0_), .val (.int n1_), .val (.ref r_3), .val (.ref r_5), .val (.int pk), .val (.int c0), .val (.int c1), .val (.int r_8), .val (.ref r_9), .val (.int qk), .val (.int q0), .val (.int q1), .val (.int r_13), .val (.ref r_14), .val (.int e22), .val (.int e23), .val (.int b24), .unset] [(.ref b20)]))
              refine Go.by (fun _ => XS.astore X52.here hx rfl (hb hby at_342) rfl rfl (l' := #[.val (.int p0), .val (.int p1), .val (.int p2), .val (.int p3), .val (.int r0), .val (.int r1), .val (.int r_1), .val (.int r_2), .val (.int n0_), .val (.int n1_), .val (.ref r_3), .val (.ref r_5), .val (.int pk), .val (.int c0), .val (.int c1), .val (.int r_8), .val (.ref r_9), .val (.int qk), .val (.int q0), .val (.int q1), .val (.int r_13), .val (.ref r_14), .val (.int e22), .val (.int e23), .val (.int b24), .val (.ref b20)]) rfl) ?_
              show Go p e below P (T52.setTop (mkF m 344 #[.val (.int p0), .val (.int p1), .val (.int p2), .val (.int p3), .val (.int r0), .val (.int r1), .val (.int r_1), .val (.int r_2), .val (.int n0_), .val (.int n1_), .val (.ref r_3), .val (.ref r_5), .val (.int pk), .val (.int c0), .val (.int c1), .val (.int r_8), .val (.ref r_9), .val (.int qk), .val (.int q0), .val (.int q1), .val (.int r_13), .val (.ref r_14), .val (.int e22), .val (.int e23), .val (.int b24), .val (.ref b20)] []))
              refine Go.by (fun _ => XS.aload X52.here hx rfl (hb hby at_344) rfl rfl) ?_
              show Go p e below P (T52.setTop (mkF m 346 #[.val (.int p0), .val (.int p1), .val (.int p2), .val (.int p3), .val (.int r0), .val (.int r1), .val (.int r_1), .val (.int r_2), .val (.int n0_), .val (.int n1_), .val (.ref r_3), .val (.ref r_5), .val (.int pk), .val (.int c0), .val (.int c1), .val (.int r_8), .val (.ref r_9), .val (.int qk), .val (.int q0), .val (.int q1), .val (.int r_13), .val (.ref r_14), .val (.int e22), .val (.int e23), .val (.int b24), .val (.ref b20)] [(.ref b20)]))
              refine Go.by (fun _ => XS.aload X52.here hx rfl (hb hby at_346) rfl rfl) ?_
              show Go p e below P (T52.setTop (mkF m 348 #[.val (.int p0), .val (.int p1), .val (.int p2), .val (.int p3), .val (.int r0), .val (.int r1), .val (.int r_1), .val (.int r_2), .val (.int n0_), .val (.int n1_), .val (.ref r_3), .val (.ref r_5), .val (.int pk), .val (.int c0), .val (.int c1), .val (.int r_8), .val (.ref r_9), .val (.int qk), .val (.int q0), .val (.int q1), .val (.int r_13), .val (.ref r_14), .val (.int e22), .val (.int e23), .val (.int b24), .val (.ref b20)] [(.ref r_5), (.ref b20)]))
              refine Go.by (fun _ => XS.aload X52.here hx rfl (hb hby at_348) rfl rfl) ?_
              show Go p e below P (T52.setTop (mkF m 350 #[.val (.int p0), .val (.int p1), .val (.int p2), .val (.int p3), .val (.int r0), .val (.int r1), .val (.int r_1), .val (.int r_2), .val (.int n0_), .val (.int n1_), .val (.ref r_3), .val (.ref r_5), .val (.int pk), .val (.int c0), .val (.int c1), .val (.int r_8), .val (.ref r_9), .val (.int qk), .val (.int q0), .val (.int q1), .val (.int r_13), .val (.ref r_14), .val (.int e22), .val (.int e23), .val (.int b24), .val (.ref b20)] [(.ref r_14), (.ref r_5), (.ref b20)]))
              obtain ⟨cq62, kq62, qa62, qb62, qc62⟩ := isOf hZ rfl F59
              obtain ⟨_, _, ⟨T62, L62, k62, n62⟩, -, X62, hSc62, hgr62, ⟨Lc62, hQ62, l62, y62, z62, Cr62⟩, st62⟩ := X52.virtualBackS hx (y := (⟨"com/example/gather_solvers/gathersolvers/model/SolverFunction", "matches", "(Ljava/lang/String;Ljava/lang/String;)Z"⟩ : MethodName)) (z := (⟨"com/example/gather_solvers/gathersolvers/model/SolverFunction", "matches", "(Ljava/lang/String;Ljava/lang/String;)Z"⟩ : MethodName)) hown (mvT hZ (hw _ (List.mem_of_getElem? (i := 58) rfl))) (mvT hZ (hw _ (List.mem_of_getElem? (i := 59) rfl))) (notFace_of_selects (args := #[]) (mvT hZ (hw _ (List.mem_of_getElem? (i := 61) rfl)))) (mvT hZ (hw _ (List.mem_of_getElem? (i := 61) rfl))) (mvT hZ (hw _ (List.mem_of_getElem? (i := 60) rfl))) (by decide) (backOfSH (W := 0) (rm_mat l Z a0 hw [] zC hG b20 r_5 r_14 r_3 r_9 t_3 t_9 t_5 t_14 ((mkL r_1 r0 r1)) ((pkL pk r_8 c0 c1)) ((mkL r_2 n0_ n1_)) ((pkL qk r_13 q0 q1)) b24 T52.heap n0 Z52 O52 F53 F54 F55 F57 F56 F58 hB) hZ (hw _ (List.mem_of_getElem? (i := 62) rfl)) (hw _ (List.mem_of_getElem? (i := 39) rfl)) (Nat.le_of_ble_eq_true rfl) (Nat.le_of_ble_eq_true rfl) (own_EW hw) C52) qa62 qc62 (g := (mkF m 350 #[.val (.int p0), .val (.int p1), .val (.int p2), .val (.int p3), .val (.int r0), .val (.int r1), .val (.int r_1), .val (.int r_2), .val (.int n0_), .val (.int n1_), .val (.ref r_3), .val (.ref r_5), .val (.int pk), .val (.int c0), .val (.int c1), .val (.int r_8), .val (.ref r_9), .val (.int qk), .val (.int q0), .val (.int q1), .val (.int r_13), .val (.ref r_14), .val (.int e22), .val (.int e23), .val (.int b24), .val (.ref b20)] [(.ref r_14), (.ref r_5), (.ref b20)])) rfl (by rw [hml]; rfl) (Steps.refl _) (argsL := [(.ref r_5), (.ref r_14)]) (rest := []) (lenOf pd_9 rfl) rfl (by show 2 * 0 + _ ≤ _; exact Nat.le_of_eq rfl) (hb hby at_350) (fun _ _ => ⟨rfl, rfl, (Nat.le_of_ble_eq_true rfl : 29 + 2 ≤ _), (Nat.le_of_ble_eq_true rfl : 108 + 32 ≤ _)⟩)
              dsimp only [Pt.U, Pt.locs, Pt.cells, Pt.slots] at X62 l62 y62 z62 st62 hQ62 hSc62 hgr62 Cr62
              subst l62 y62 z62
              have hZo := hZ
              obtain ⟨X62, hS, hZ, hown⟩ := rebS hS hk X62 hSc62 hgr62 hZ hown
              have hk : T62.heap.size ≤ T62.heap.size := Nat.le_refl _
              have Sf62_b20 := Cr62.safe F59.lt Sf52_b20
              have R62 := R52.trans Cr62
              have C62 := Cr62.1
              obtain ⟨rfl, Nq62, Kc62⟩ := hQ62
              have N62 := Fr.app N52 Nq62
              refine Go.by (fun _ k => st62.trans k) ?_
              have F63 : Str Z T62.heap r_3 t_3 (mkL r_1 r0 r1) := F55.keep Kc62 nin0 nin0
              have F64 : Str Z T62.heap r_5 t_5 (mkL r_2 n0_ n1_) := F56.keep Kc62 nin0 nin0
              have F65 : Str Z T62.heap r_9 t_9 (pkL pk r_8 c0 c1) := F57.keep Kc62 nin0 nin0
              have F66 : Str Z T62.heap r_14 t_14 (pkL qk r_13 q0 q1) := F58.keep Kc62 nin0 nin0
              have F67 : Exa Z T62.heap b20 "com/example/gather_solvers/gathersolvers/model/SolverFunction" := F59.keep Kc62
              have F68 : Str Z T62.heap ls29 lb29 ([] : List Int32) := F60.keep Kc62 nin0 nin0
              have F69 : Str Z T62.heap ls40 lb40 ([] : List Int32) := F61.keep Kc62 nin0 nin0
              have F70 : Fld Z T62.heap b20 "com/example/gather_solvers/gathersolvers/model/SolverFunction" "name" "Ljava/lang/String;" (.ref r_3) := F53.keep Kc62 nin0
              have F71 : Fld Z T62.heap b20 "com/example/gather_solvers/gathersolvers/model/SolverFunction" "packageName" "Ljava/lang/String;" (.ref r_9) := F54.keep Kc62 nin0
              have O62 := O52.keep Kc62 all0
              have Z62 : n0 ≤ T62.heap.size := Nat.le_trans Z52 Kc62.1
              show Go p e below P (T62.setTop (mkF m 353 #[.val (.int p0), .val (.int p1), .val (.int p2), .val (.int p3), .val (.int r0), .val (.int r1), .val (.int r_1), .val (.int r_2), .val (.int n0_), .val (.int n1_), .val (.ref r_3), .val (.ref r_5), .val (.int pk), .val (.int c0), .val (.int c1), .val (.int r_8), .val (.ref r_9), .val (.int qk), .val (.int q0), .val (.int q1), .val (.int r_13), .val (.ref r_14), .val (.int e22), .val (.int e23), .val (.int b24), .val (.ref b20)] [(.int b24)]))
              refine Go.by (fun _ => XS.iload X62.here hx rfl (hb hby at_353) rfl) ?_
              show Go p e below P (T62.setTop (mkF m 355 #[.val (.int p0), .val (.int p1), .val (.int p2), .val (.int p3), .val (.int r0), .val (.int r1), .val (.int r_1), .val (.int r_2), .val (.int n0_), .val (.int n1_), .val (.ref r_3), .val (.ref r_5), .val (.int pk), .val (.int c0), .val (.int c1), .val (.int r_8), .val (.ref r_9), .val (.int qk), .val (.int q0), .val (.int q1), .val (.int r_13), .val (.ref r_14), .val (.int e22), .val (.int e23), .val (.int b24), .val (.ref b20)] [(.int b24), (.int b24)]))
              have hc355 : b24 = b24 := rfl
              refine Go.by (fun _ => XS.icmpNo X62.here hx rfl (hb hby at_355) rfl (teq hc355).2) ?_
              show Go p e below P (T62.setTop (mkF m 358 #[.val (.int p0), .val (.int p1), .val (.int p2), .val (.int p3), .val (.int r0), .val (.int r1), .val (.int r_1), .val (.int r_2), .val (.int n0_), .val (.int n1_), .val (.ref r_3), .val (.ref r_5), .val (.int pk), .val (.int c0), .val (.int c1), .val (.int r_8), .val (.ref r_9), .val (.int qk), .val (.int q0), .val (.int q1), .val (.int r_13), .val (.ref r_14), .val (.int e22), .val (.int e23), .val (.int b24), .val (.ref b20)] []))
              refine Go.by (fun _ => XS.iconst X62.here hx rfl (hb hby at_358)) ?_
              show Go p e below P (T62.setTop (mkF m 359 #[.val (.int p0), .val (.int p1), .val (.int p2), .val (.int p3), .val (.int r0), .val (.int r1), .val (.int r_1), .val (.int r_2), .val (.int n0_), .val (.int n1_), .val (.ref r_3), .val (.ref r_5), .val (.int pk), .val (.int c0), .val (.int c1), .val (.int r_8), .val (.ref r_9), .val (.int qk), .val (.int q0), .val (.int q1), .val (.int r_13), .val (.ref r_14), .val (.int e22), .val (.int e23), .val (.int b24), .val (.ref b20)] [(.int (1 : Int32))]))
              refine Go.by (fun _ => XS.goto X62.here hx rfl (pc0 := 359) (pc' := 363) rfl (hb hby at_359) (by decide) (by decide)) ?_
              show Go p e below P (T62.setTop (mkF m 363 #[.val (.int p0), .val (.int p1), .val (.int p2), .val (.int p3), .val (.int r0), .val (.int r1), .val (.int r_1), .val (.int r_2), .val (.int n0_), .val (.int n1_), .val (.ref r_3), .val (.ref r_5), .val (.int pk), .val (.int c0), .val (.int c1), .val (.int r_8), .val (.ref r_9), .val (.int qk), .val (.int q0), .val (.int q1), .val (.int r_13), .val (.ref r_14), .val (.int e22), .val (.int e23), .val (.int b24), .val (.ref b20)] [(.int (1 : Int32))]))
              subst hP
              refine Go.retZC (t := .boolean) X62 hx hS hk Bd.returns (by simp) hlk (hb hby at_363) (Nat.le_of_ble_eq_true rfl) (Nat.le_of_ble_eq_true rfl) ?_ (by rw [hh]; exact R62.trans (CHv.at X62 hZ (own_EW hw) C62))
              exact ⟨rfl, N62⟩
            refine Go.by (fun _ => XS.iload XJ305.here hx rfl (hb hby at_305) rfl) ?_
            show Go p e below P (TJ305.setTop (mkF m 307 #[.val (.int p0), .val (.int p1), .val (.int p2), .val (.int p3), .val (.int r0), .val (.int r1), .val (.int r_1), .val (.int r_2), .val (.int n0_), .val (.int n1_), .val (.ref r_3), .val (.ref r_5), .val (.int pk), .val (.int c0), .val (.int c1), .val (.int r_8), .val (.ref r_9), .val (.int qk), .val (.int q0), .val (.int q1), .val (.int r_13), .val (.ref r_14), .val (.int e22), .val (.int e23), .unset, .unset] [(.int e22)]))
            by_cases hc307 : e22 = (0 : Int32)
            · refine Go.by (fun _ => XS.ifYes XJ305.here hx rfl (pc0 := 307) (pc' := 324) rfl (hb hby at_307) rfl ((if0 _ _).trans (teq hc307).1) (by decide) (by decide)) ?_
              show Go p e below P (TJ305.setTop (mkF m 324 #[.val (.int p0), .val (.int p1), .val (.int p2), .val (.int p3), .val (.int r0), .val (.int r1), .val (.int r_1), .val (.int r_2), .val (.int n0_), .val (.int n1_), .val (.ref r_3), .val (.ref r_5), .val (.int pk), .val (.int c0), .val (.int c1), .val (.int r_8), .val (.ref r_9), .val (.int qk), .val (.int q0), .val (.int q1), .val (.int r_13), .val (.ref r_14), .val (.int e22), .val (.int e23), .unset, .unset] []))
              refine Go.by (fun _ => XS.iconst XJ305.here hx rfl (hb hby at_324)) ?_
              show Go p e below P (TJ305.setTop (mkF m 325 #[.val (.int p0), .val (.int p1), .val (.int p2), .val (.int p3), .val (.int r0), .val (.int r1), .val (.int r_1), .val (.int r_2), .val (.int n0_), .val (.int n1_), .val (.ref r_3), .val (.ref r_5), .val (.int pk), .val (.int c0), .val (.int c1), .val (.int r_8), .val (.ref r_9), .val (.int qk), .val (.int q0), .val (.int q1), .val (.int r_13), .val (.ref r_14), .val (.int e22), .val (.int e23), .unset, .unset] [(.int (0 : Int32))]))
              exact J325 TJ305 _ _ XJ305 eJ305 NJ305 _ hS hk hZ hown CJ305 RJ305 (0 : Int32) (own_b24 (own_pk0 qk r_13 q0 q1) hN he23 (Or.inr ⟨rfl, Or.inl hc307⟩))
            · refine Go.by (fun _ => XS.ifNo XJ305.here hx rfl (hb hby at_307) rfl ((if0 _ _).trans (feq hc307).1)) ?_
              show Go p e below P (TJ305.setTop (mkF m 310 #[.val (.int p0), .val (.int p1), .val (.int p2), .val (.int p3), .val (.int r0), .val (.int r1), .val (.int r_1), .val (.int r_2), .val (.int n0_), .val (.int n1_), .val (.ref r_3), .val (.ref r_5), .val (.int pk), .val (.int c0), .val (.int c1), .val (.int r_8), .val (.ref r_9), .val (.int qk), .val (.int q0), .val (.int q1), .val (.int r_13), .val (.ref r_14), .val (.int e22), .val (.int e23), .unset, .unset] []))
              refine Go.by (fun _ => XS.iload XJ305.here hx rfl (hb hby at_310) rfl) ?_
              show Go p e below P (TJ305.setTop (mkF m 312 #[.val (.int p0), .val (.int p1), .val (.int p2), .val (.int p3), .val (.int r0), .val (.int r1), .val (.int r_1), .val (.int r_2), .val (.int n0_), .val (.int n1_), .val (.ref r_3), .val (.ref r_5), .val (.int pk), .val (.int c0), .val (.int c1), .val (.int r_8), .val (.ref r_9), .val (.int qk), .val (.int q0), .val (.int q1), .val (.int r_13), .val (.ref r_14), .val (.int e22), .val (.int e23), .unset, .unset] [(.int qk)]))
              by_cases hc312 : qk = (0 : Int32)
              · refine Go.by (fun _ => XS.ifYes XJ305.here hx rfl (pc0 := 312) (pc' := 320) rfl (hb hby at_312) rfl ((if0 _ _).trans (teq hc312).1) (by decide) (by decide)) ?_
                show Go p e below P (TJ305.setTop (mkF m 320 #[.val (.int p0), .val (.int p1), .val (.int p2), .val (.int p3), .val (.int r0), .val (.int r1), .val (.int r_1), .val (.int r_2), .val (.int n0_), .val (.int n1_), .val (.ref r_3), .val (.ref r_5), .val (.int pk), .val (.int c0), .val (.int c1), .val (.int r_8), .val (.ref r_9), .val (.int qk), .val (.int q0), .val (.int q1), .val (.int r_13), .val (.ref r_14), .val (.int e22), .val (.int e23), .unset, .unset] []))
                refine Go.by (fun _ => XS.iconst XJ305.here hx rfl (hb hby at_320)) ?_
                show Go p e below P (TJ305.setTop (mkF m 321 #[.val (.int p0), .val (.int p1), .val (.int p2), .val (.int p3), .val (.int r0), .val (.int r1), .val (.int r_1), .val (.int r_2), .val (.int n0_), .val (.int n1_), .val (.ref r_3), .val (.ref r_5), .val (.int pk), .val (.int c0), .val (.int c1), .val (.int r_8), .val (.ref r_9), .val (.int qk), .val (.int q0), .val (.int q1), .val (.int r_13), .val (.ref r_14), .val (.int e22), .val (.int e23), .unset, .unset] [(.int (1 : Int32))]))
                refine Go.by (fun _ => XS.goto XJ305.here hx rfl (pc0 := 321) (pc' := 325) rfl (hb hby at_321) (by decide) (by decide)) ?_
                show Go p e below P (TJ305.setTop (mkF m 325 #[.val (.int p0), .val (.int p1), .val (.int p2), .val (.int p3), .val (.int r0), .val (.int r1), .val (.int r_1), .val (.int r_2), .val (.int n0_), .val (.int n1_), .val (.ref r_3), .val (.ref r_5), .val (.int pk), .val (.int c0), .val (.int c1), .val (.int r_8), .val (.ref r_9), .val (.int qk), .val (.int q0), .val (.int q1), .val (.int r_13), .val (.ref r_14), .val (.int e22), .val (.int e23), .unset, .unset] [(.int (1 : Int32))]))
                exact J325 TJ305 _ _ XJ305 eJ305 NJ305 _ hS hk hZ hown CJ305 RJ305 (1 : Int32) (own_b24 (own_pk0 qk r_13 q0 q1) hN he23 (Or.inl ⟨rfl, hc307, Or.inl hc312⟩))
              · refine Go.by (fun _ => XS.ifNo XJ305.here hx rfl (hb hby at_312) rfl ((if0 _ _).trans (feq hc312).1)) ?_
                show Go p e below P (TJ305.setTop (mkF m 315 #[.val (.int p0), .val (.int p1), .val (.int p2), .val (.int p3), .val (.int r0), .val (.int r1), .val (.int r_1), .val (.int r_2), .val (.int n0_), .val (.int n1_), .val (.ref r_3), .val (.ref r_5), .val (.int pk), .val (.int c0), .val (.int c1), .val (.int r_8), .val (.ref r_9), .val (.int qk), .val (.int q0), .val (.int q1), .val (.int r_13), .val (.ref r_14), .val (.int e22), .val (.int e23), .unset, .unset] []))
                refine Go.by (fun _ => XS.iload XJ305.here hx rfl (hb hby at_315) rfl) ?_
                show Go p e below P (TJ305.setTop (mkF m 317 #[.val (.int p0), .val (.int p1), .val (.int p2), .val (.int p3), .val (.int r0), .val (.int r1), .val (.int r_1), .val (.int r_2), .val (.int n0_), .val (.int n1_), .val (.ref r_3), .val (.ref r_5), .val (.int pk), .val (.int c0), .val (.int c1), .val (.int r_8), .val (.ref r_9), .val (.int qk), .val (.int q0), .val (.int q1), .val (.int r_13), .val (.ref r_14), .val (.int e22), .val (.int e23), .unset, .unset] [(.int e23)]))
                by_cases hc317 : e23 = (0 : Int32)
                · refine Go.by (fun _ => XS.ifYes XJ305.here hx rfl (pc0 := 317) (pc' := 324) rfl (hb hby at_317) rfl ((if0 _ _).trans (teq hc317).1) (by decide) (by decide)) ?_
                  show Go p e below P (TJ305.setTop (mkF m 324 #[.val (.int p0), .val (.int p1), .val (.int p2), .val (.int p3), .val (.int r0), .val (.int r1), .val (.int r_1), .val (.int r_2), .val (.int n0_), .val (.int n1_), .val (.ref r_3), .val (.ref r_5), .val (.int pk), .val (.int c0), .val (.int c1), .val (.int r_8), .val (.ref r_9), .val (.int qk), .val (.int q0), .val (.int q1), .val (.int r_13), .val (.ref r_14), .val (.int e22), .val (.int e23), .unset, .unset] []))
                  refine Go.by (fun _ => XS.iconst XJ305.here hx rfl (hb hby at_324)) ?_
                  show Go p e below P (TJ305.setTop (mkF m 325 #[.val (.int p0), .val (.int p1), .val (.int p2), .val (.int p3), .val (.int r0), .val (.int r1), .val (.int r_1), .val (.int r_2), .val (.int n0_), .val (.int n1_), .val (.ref r_3), .val (.ref r_5), .val (.int pk), .val (.int c0), .val (.int c1), .val (.int r_8), .val (.ref r_9), .val (.int qk), .val (.int q0), .val (.int q1), .val (.int r_13), .val (.ref r_14), .val (.int e22), .val (.int e23), .unset, .unset] [(.int (0 : Int32))]))
                  exact J325 TJ305 _ _ XJ305 eJ305 NJ305 _ hS hk hZ hown CJ305 RJ305 (0 : Int32) (own_b24 (own_pk0 qk r_13 q0 q1) hN he23 (Or.inr ⟨rfl, Or.inr ⟨hc312, hc317⟩⟩))
                · refine Go.by (fun _ => XS.ifNo XJ305.here hx rfl (hb hby at_317) rfl ((if0 _ _).trans (feq hc317).1)) ?_
                  show Go p e below P (TJ305.setTop (mkF m 320 #[.val (.int p0), .val (.int p1), .val (.int p2), .val (.int p3), .val (.int r0), .val (.int r1), .val (.int r_1), .val (.int r_2), .val (.int n0_), .val (.int n1_), .val (.ref r_3), .val (.ref r_5), .val (.int pk), .val (.int c0), .val (.int c1), .val (.int r_8), .val (.ref r_9), .val (.int qk), .val (.int q0), .val (.int q1), .val (.int r_13), .val (.ref r_14), .val (.int e22), .val (.int e23), .unset, .unset] []))
                  refine Go.by (fun _ => XS.iconst XJ305.here hx rfl (hb hby at_320)) ?_
                  show Go p e below P (TJ305.setTop (mkF m 321 #[.val (.int p0), .val (.int p1), .val (.int p2), .val (.int p3), .val (.int r0), .val (.int r1), .val (.int r_1), .val (.int r_2), .val (.int n0_), .val (.int n1_), .val (.ref r_3), .val (.ref r_5), .val (.int pk), .val (.int c0), .val (.int c1), .val (.int r_8), .val (.ref r_9), .val (.int qk), .val (.int q0), .val (.int q1), .val (.int r_13), .val (.ref r_14), .val (.int e22), .val (.int e23), .unset, .unset] [(.int (1 : Int32))]))
                  refine Go.by (fun _ => XS.goto XJ305.here hx rfl (pc0 := 321) (pc' := 325) rfl (hb hby at_321) (by decide) (by decide)) ?_
                  show Go p e below P (TJ305.setTop (mkF m 325 #[.val (.int p0), .val (.int p1), .val (.int p2), .val (.int p3), .val (.int r0), .val (.int r1), .val (.int r_1), .val (.int r_2), .val (.int n0_), .val (.int n1_), .val (.ref r_3), .val (.ref r_5), .val (.int pk), .val (.int c0), .val (.int c1), .val (.int r_8), .val (.ref r_9), .val (.int qk), .val (.int q0), .val (.int q1), .val (.int r_13), .val (.ref r_14), .val (.int e22), .val (.int e23), .unset, .unset] [(.int (1 : Int32))]))
                  exact J325 TJ305 _ _ XJ305 eJ305 NJ305 _ hS hk hZ hown CJ305 RJ305 (1 : Int32) (own_b24 (own_pk0 qk r_13 q0 q1) hN he23 (Or.inl ⟨rfl, hc307, Or.inr hc317⟩))
          refine Go.by (fun _ => XS.iload X19.here hx rfl (hb hby at_241) rfl) ?_
          show Go p e below P (T19.setTop (mkF m 243 #[.val (.int p0), .val (.int p1), .val (.int p2), .val (.int p3), .val (.int r0), .val (.int r1), .val (.int r_1), .val (.int r_2), .val (.int n0_), .val (.int n1_), .val (.ref r_3), .val (.ref r_5), .val (.int pk), .val (.int c0), .val (.int c1), .val (.int r_8), .val (.ref r_9), .val (.int qk), .val (.int q0), .val (.int q1), .val (.int r_13), .val (.ref r_14), .val (.int e22), .unset, .unset, .unset] [(.int pk)]))
          refine Go.by (fun _ => XS.iconst X19.here hx rfl (hb hby at_243)) ?_
          show Go p e below P (T19.setTop (mkF m 244 #[.val (.int p0), .val (.int p1), .val (.int p2), .val (.int p3), .val (.int r0), .val (.int r1), .val (.int r_1), .val (.int r_2), .val (.int n0_), .val (.int n1_), .val (.ref r_3), .val (.ref r_5), .val (.int pk), .val (.int c0), .val (.int c1), .val (.int r_8), .val (.ref r_9), .val (.int qk), .val (.int q0), .val (.int q1), .val (.int r_13), .val (.ref r_14), .val (.int e22), .unset, .unset, .unset] [(.int (4 : Int32)), (.int pk)]))
          by_cases hc244 : pk < (4 : Int32)
          · refine Go.by (fun _ => XS.icmpNo X19.here hx rfl (hb hby at_244) rfl (tlt hc244).2.1) ?_
            show Go p e below P (T19.setTop (mkF m 247 #[.val (.int p0), .val (.int p1), .val (.int p2), .val (.int p3), .val (.int r0), .val (.int r1), .val (.int r_1), .val (.int r_2), .val (.int n0_), .val (.int n1_), .val (.ref r_3), .val (.ref r_5), .val (.int pk), .val (.int c0), .val (.int c1), .val (.int r_8), .val (.ref r_9), .val (.int qk), .val (.int q0), .val (.int q1), .val (.int r_13), .val (.ref r_14), .val (.int e22), .unset, .unset, .unset] []))
            refine Go.by (fun _ => XS.iload X19.here hx rfl (hb hby at_247) rfl) ?_
            show Go p e below P (T19.setTop (mkF m 249 #[.val (.int p0), .val (.int p1), .val (.int p2), .val (.int p3), .val (.int r0), .val (.int r1), .val (.int r_1), .val (.int r_2), .val (.int n0_), .val (.int n1_), .val (.ref r_3), .val (.ref r_5), .val (.int pk), .val (.int c0), .val (.int c1), .val (.int r_8), .val (.ref r_9), .val (.int qk), .val (.int q0), .val (.int q1), .val (.int r_13), .val (.ref r_14), .val (.int e22), .unset, .unset, .unset] [(.int qk)]))
            refine Go.by (fun _ => XS.iconst X19.here hx rfl (hb hby at_249)) ?_
            show Go p e below P (T19.setTop (mkF m 250 #[.val (.int p0), .val (.int p1), .val (.int p2), .val (.int p3), .val (.int r0), .val (.int r1), .val (.int r_1), .val (.int r_2), .val (.int n0_), .val (.int n1_), .val (.ref r_3), .val (.ref r_5), .val (.int pk), .val (.int c0), .val (.int c1), .val (.int r_8), .val (.ref r_9), .val (.int qk), .val (.int q0), .val (.int q1), .val (.int r_13), .val (.ref r_14), .val (.int e22), .unset, .unset, .unset] [(.int (4 : Int32)), (.int qk)]))
            by_cases hc250 : qk < (4 : Int32)
            · refine Go.by (fun _ => XS.icmpNo X19.here hx rfl (hb hby at_250) rfl (tlt hc250).2.1) ?_
              show Go p e below P (T19.setTop (mkF m 253 #[.val (.int p0), .val (.int p1), .val (.int p2), .val (.int p3), .val (.int r0), .val (.int r1), .val (.int r_1), .val (.int r_2), .val (.int n0_), .val (.int n1_), .val (.ref r_3), .val (.ref r_5), .val (.int pk), .val (.int c0), .val (.int c1), .val (.int r_8), .val (.ref r_9), .val (.int qk), .val (.int q0), .val (.int q1), .val (.int r_13), .val (.ref r_14), .val (.int e22), .unset, .unset, .unset] []))
              refine Go.by (fun _ => XS.iload X19.here hx rfl (hb hby at_253) rfl) ?_
              show Go p e below P (T19.setTop (mkF m 255 #[.val (.int p0), .val (.int p1), .val (.int p2), .val (.int p3), .val (.int r0), .val (.int r1), .val (.int r_1), .val (.int r_2), .val (.int n0_), .val (.int n1_), .val (.ref r_3), .val (.ref r_5), .val (.int pk), .val (.int c0), .val (.int c1), .val (.int r_8), .val (.ref r_9), .val (.int qk), .val (.int q0), .val (.int q1), .val (.int r_13), .val (.ref r_14), .val (.int e22), .unset, .unset, .unset] [(.int pk)]))
              refine Go.by (fun _ => XS.iload X19.here hx rfl (hb hby at_255) rfl) ?_
              show Go p e below P (T19.setTop (mkF m 257 #[.val (.int p0), .val (.int p1), .val (.int p2), .val (.int p3), .val (.int r0), .val (.int r1), .val (.int r_1), .val (.int r_2), .val (.int n0_), .val (.int n1_), .val (.ref r_3), .val (.ref r_5), .val (.int pk), .val (.int c0), .val (.int c1), .val (.int r_8), .val (.ref r_9), .val (.int qk), .val (.int q0), .val (.int q1), .val (.int r_13), .val (.ref r_14), .val (.int e22), .unset, .unset, .unset] [(.int qk), (.int pk)]))
              by_cases hc257 : pk = qk
              · refine Go.by (fun _ => XS.icmpNo X19.here hx rfl (hb hby at_257) rfl (teq hc257).2) ?_
                show Go p e below P (T19.setTop (mkF m 260 #[.val (.int p0), .val (.int p1), .val (.int p2), .val (.int p3), .val (.int r0), .val (.int r1), .val (.int r_1), .val (.int r_2), .val (.int n0_), .val (.int n1_), .val (.ref r_3), .val (.ref r_5), .val (.int pk), .val (.int c0), .val (.int c1), .val (.int r_8), .val (.ref r_9), .val (.int qk), .val (.int q0), .val (.int q1), .val (.int r_13), .val (.ref r_14), .val (.int e22), .unset, .unset, .unset] []))
                refine Go.by (fun _ => XS.iconst X19.here hx rfl (hb hby at_260)) ?_
                show Go p e below P (T19.setTop (mkF m 261 #[.val (.int p0), .val (.int p1), .val (.int p2), .val (.int p3), .val (.int r0), .val (.int r1), .val (.int r_1), .val (.int r_2), .val (.int n0_), .val (.int n1_), .val (.ref r_3), .val (.ref r_5), .val (.int pk), .val (.int c0), .val (.int c1), .val (.int r_8), .val (.ref r_9), .val (.int qk), .val (.int q0), .val (.int q1), .val (.int r_13), .val (.ref r_14), .val (.int e22), .unset, .unset, .unset] [(.int (1 : Int32))]))
                refine Go.by (fun _ => XS.goto X19.here hx rfl (pc0 := 261) (pc' := 265) rfl (hb hby at_261) (by decide) (by decide)) ?_
                show Go p e below P (T19.setTop (mkF m 265 #[.val (.int p0), .val (.int p1), .val (.int p2), .val (.int p3), .val (.int r0), .val (.int r1), .val (.int r_1), .val (.int r_2), .val (.int n0_), .val (.int n1_), .val (.ref r_3), .val (.ref r_5), .val (.int pk), .val (.int c0), .val (.int c1), .val (.int r_8), .val (.ref r_9), .val (.int qk), .val (.int q0), .val (.int q1), .val (.int r_13), .val (.ref r_14), .val (.int e22), .unset, .unset, .unset] [(.int (1 : Int32))]))
                refine Go.by (fun _ => XS.istore X19.here hx rfl (hb hby at_265) rfl (l' := #[.val (.int p0), .val (.int p1), .val (.int p2), .val (.int p3), .val (.int r0), .val (.int r1), .val (.int r_1), .val (.int r_2), .val (.int n0_), .val (.int n1_), .val (.ref r_3), .val (.ref r_5), .val (.int pk), .val (.int c0), .val (.int c1), .val (.int r_8), .val (.ref r_9), .val (.int qk), .val (.int q0), .val (.int q1), .val (.int r_13), .val (.ref r_14), .val (.int e22), .val (.int (1 : Int32)), .unset, .unset]) rfl) ?_
                show Go p e below P (T19.setTop (mkF m 267 #[.val (.int p0), .val (.int p1), .val (.int p2), .val (.int p3), .val (.int r0), .val (.int r1), .val (.int r_1), .val (.int r_2), .val (.int n0_), .val (.int n1_), .val (.ref r_3), .val (.ref r_5), .val (.int pk), .val (.int c0), .val (.int c1), .val (.int r_8), .val (.ref r_9), .val (.int qk), .val (.int q0), .val (.int q1), .val (.int r_13), .val (.ref r_14), .val (.int e22), .val (.int (1 : Int32)), .unset, .unset] []))
                refine Go.by (fun _ => XS.goto X19.here hx rfl (pc0 := 267) (pc' := 305) rfl (hb hby at_267) (by decide) (by decide)) ?_
                show Go p e below P (T19.setTop (mkF m 305 #[.val (.int p0), .val (.int p1), .val (.int p2), .val (.int p3), .val (.int r0), .val (.int r1), .val (.int r_1), .val (.int r_2), .val (.int n0_), .val (.int n1_), .val (.ref r_3), .val (.ref r_5), .val (.int pk), .val (.int c0), .val (.int c1), .val (.int r_8), .val (.ref r_9), .val (.int qk), .val (.int q0), .val (.int q1), .val (.int r_13), .val (.ref r_14), .val (.int e22), .val (.int (1 : Int32)), .unset, .unset] []))
                exact J305 T19 _ _ X19 eq19 N19 _ hS hk hZ hown C14 R14 (1 : Int32) (by rw [if_pos ((heq.1 hc244 hc250).mpr hc257)])
              · refine Go.by (fun _ => XS.icmpYes X19.here hx rfl (pc0 := 257) (pc' := 264) rfl (hb hby at_257) rfl (feq hc257).2 (by decide) (by decide)) ?_
                show Go p e below P (T19.setTop (mkF m 264 #[.val (.int p0), .val (.int p1), .val (.int p2), .val (.int p3), .val (.int r0), .val (.int r1), .val (.int r_1), .val (.int r_2), .val (.int n0_), .val (.int n1_), .val (.ref r_3), .val (.ref r_5), .val (.int pk), .val (.int c0), .val (.int c1), .val (.int r_8), .val (.ref r_9), .val (.int qk), .val (.int q0), .val (.int q1), .val (.int r_13), .val (.ref r_14), .val (.int e22), .unset, .unset, .unset] []))
                refine Go.by (fun _ => XS.iconst X19.here hx rfl (hb hby at_264)) ?_
                show Go p e below P (T19.setTop (mkF m 265 #[.val (.int p0), .val (.int p1), .val (.int p2), .val (.int p3), .val (.int r0), .val (.int r1), .val (.int r_1), .val (.int r_2), .val (.int n0_), .val (.int n1_), .val (.ref r_3), .val (.ref r_5), .val (.int pk), .val (.int c0), .val (.int c1), .val (.int r_8), .val (.ref r_9), .val (.int qk), .val (.int q0), .val (.int q1), .val (.int r_13), .val (.ref r_14), .val (.int e22), .unset, .unset, .unset] [(.int (0 : Int32))]))
                refine Go.by (fun _ => XS.istore X19.here hx rfl (hb hby at_265) rfl (l' := #[.val (.int p0), .val (.int p1), .val (.int p2), .val (.int p3), .val (.int r0), .val (.int r1), .val (.int r_1), .val (.int r_2), .val (.int n0_), .val (.int n1_), .val (.ref r_3), .val (.ref r_5), .val (.int pk), .val (.int c0), .val (.int c1), .val (.int r_8), .val (.ref r_9), .val (.int qk), .val (.int q0), .val (.int q1), .val (.int r_13), .val (.ref r_14), .val (.int e22), .val (.int (0 : Int32)), .unset, .unset]) rfl) ?_
                show Go p e below P (T19.setTop (mkF m 267 #[.val (.int p0), .val (.int p1), .val (.int p2), .val (.int p3), .val (.int r0), .val (.int r1), .val (.int r_1), .val (.int r_2), .val (.int n0_), .val (.int n1_), .val (.ref r_3), .val (.ref r_5), .val (.int pk), .val (.int c0), .val (.int c1), .val (.int r_8), .val (.ref r_9), .val (.int qk), .val (.int q0), .val (.int q1), .val (.int r_13), .val (.ref r_14), .val (.int e22), .val (.int (0 : Int32)), .unset, .unset] []))
                refine Go.by (fun _ => XS.goto X19.here hx rfl (pc0 := 267) (pc' := 305) rfl (hb hby at_267) (by decide) (by decide)) ?_
                show Go p e below P (T19.setTop (mkF m 305 #[.val (.int p0), .val (.int p1), .val (.int p2), .val (.int p3), .val (.int r0), .val (.int r1), .val (.int r_1), .val (.int r_2), .val (.int n0_), .val (.int n1_), .val (.ref r_3), .val (.ref r_5), .val (.int pk), .val (.int c0), .val (.int c1), .val (.int r_8), .val (.ref r_9), .val (.int qk), .val (.int q0), .val (.int q1), .val (.int r_13), .val (.ref r_14), .val (.int e22), .val (.int (0 : Int32)), .unset, .unset] []))
                exact J305 T19 _ _ X19 eq19 N19 _ hS hk hZ hown C14 R14 (0 : Int32) (by rw [if_neg (fun q => hc257 ((heq.1 hc244 hc250).mp q))])
            · refine Go.by (fun _ => XS.icmpYes X19.here hx rfl (pc0 := 250) (pc' := 270) rfl (hb hby at_250) rfl (flt hc250).2.1 (by decide) (by decide)) ?_
              show Go p e below P (T19.setTop (mkF m 270 #[.val (.int p0), .val (.int p1), .val (.int p2), .val (.int p3), .val (.int r0), .val (.int r1), .val (.int r_1), .val (.int r_2), .val (.int n0_), .val (.int n1_), .val (.ref r_3), .val (.ref r_5), .val (.int pk), .val (.int c0), .val (.int c1), .val (.int r_8), .val (.ref r_9), .val (.int qk), .val (.int q0), .val (.int q1), .val (.int r_13), .val (.ref r_14), .val (.int e22), .unset, .unset, .unset] []))
              refine Go.by (fun _ => XS.iload X19.here hx rfl (hb hby at_270) rfl) ?_
              show Go p e below P (T19.setTop (mkF m 272 #[.val (.int p0), .val (.int p1), .val (.int p2), .val (.int p3), .val (.int r0), .val (.int r1), .val (.int r_1), .val (.int r_2), .val (.int n0_), .val (.int n1_), .val (.ref r_3), .val (.ref r_5), .val (.int pk), .val (.int c0), .val (.int c1), .val (.int r_8), .val (.ref r_9), .val (.int qk), .val (.int q0), .val (.int q1), .val (.int r_13), .val (.ref r_14), .val (.int e22), .unset, .unset, .unset] [(.int pk)]))
              refine Go.by (fun _ => XS.iconst X19.here hx rfl (hb hby at_272)) ?_
              show Go p e below P (T19.setTop (mkF m 273 #[.val (.int p0), .val (.int p1), .val (.int p2), .val (.int p3), .val (.int r0), .val (.int r1), .val (.int r_1), .val (.int r_2), .val (.int n0_), .val (.int n1_), .val (.ref r_3), .val (.ref r_5), .val (.int pk), .val (.int c0), .val (.int c1), .val (.int r_8), .val (.ref r_9), .val (.int qk), .val (.int q0), .val (.int q1), .val (.int r_13), .val (.ref r_14), .val (.int e22), .unset, .unset, .unset] [(.int (4 : Int32)), (.int pk)]))
              by_cases hc273 : pk < (4 : Int32)
              · refine Go.by (fun _ => XS.icmpYes X19.here hx rfl (pc0 := 273) (pc' := 282) rfl (hb hby at_273) rfl (tlt hc273).1 (by decide) (by decide)) ?_
                show Go p e below P (T19.setTop (mkF m 282 #[.val (.int p0), .val (.int p1), .val (.int p2), .val (.int p3), .val (.int r0), .val (.int r1), .val (.int r_1), .val (.int r_2), .val (.int n0_), .val (.int n1_), .val (.ref r_3), .val (.ref r_5), .val (.int pk), .val (.int c0), .val (.int c1), .val (.int r_8), .val (.ref r_9), .val (.int qk), .val (.int q0), .val (.int q1), .val (.int r_13), .val (.ref r_14), .val (.int e22), .unset, .unset, .unset] []))
                refine Go.by (fun _ => XS.iconst X19.here hx rfl (hb hby at_282)) ?_
                show Go p e below P (T19.setTop (mkF m 283 #[.val (.int p0), .val (.int p1), .val (.int p2), .val (.int p3), .val (.int r0), .val (.int r1), .val (.int r_1), .val (.int r_2), .val (.int n0_), .val (.int n1_), .val (.ref r_3), .val (.ref r_5), .val (.int pk), .val (.int c0), .val (.int c1), .val (.int r_8), .val (.ref r_9), .val (.int qk), .val (.int q0), .val (.int q1), .val (.int r_13), .val (.ref r_14), .val (.int e22), .unset, .unset, .unset] [(.int (0 : Int32))]))
                refine Go.by (fun _ => XS.istore X19.here hx rfl (hb hby at_283) rfl (l' := #[.val (.int p0), .val (.int p1), .val (.int p2), .val (.int p3), .val (.int r0), .val (.int r1), .val (.int r_1), .val (.int r_2), .val (.int n0_), .val (.int n1_), .val (.ref r_3), .val (.ref r_5), .val (.int pk), .val (.int c0), .val (.int c1), .val (.int r_8), .val (.ref r_9), .val (.int qk), .val (.int q0), .val (.int q1), .val (.int r_13), .val (.ref r_14), .val (.int e22), .val (.int (0 : Int32)), .unset, .unset]) rfl) ?_
                show Go p e below P (T19.setTop (mkF m 285 #[.val (.int p0), .val (.int p1), .val (.int p2), .val (.int p3), .val (.int r0), .val (.int r1), .val (.int r_1), .val (.int r_2), .val (.int n0_), .val (.int n1_), .val (.ref r_3), .val (.ref r_5), .val (.int pk), .val (.int c0), .val (.int c1), .val (.int r_8), .val (.ref r_9), .val (.int qk), .val (.int q0), .val (.int q1), .val (.int r_13), .val (.ref r_14), .val (.int e22), .val (.int (0 : Int32)), .unset, .unset] []))
                refine Go.by (fun _ => XS.goto X19.here hx rfl (pc0 := 285) (pc' := 305) rfl (hb hby at_285) (by decide) (by decide)) ?_
                show Go p e below P (T19.setTop (mkF m 305 #[.val (.int p0), .val (.int p1), .val (.int p2), .val (.int p3), .val (.int r0), .val (.int r1), .val (.int r_1), .val (.int r_2), .val (.int n0_), .val (.int n1_), .val (.ref r_3), .val (.ref r_5), .val (.int pk), .val (.int c0), .val (.int c1), .val (.int r_8), .val (.ref r_9), .val (.int qk), .val (.int q0), .val (.int q1), .val (.int r_13), .val (.ref r_14), .val (.int e22), .val (.int (0 : Int32)), .unset, .unset] []))
                exact J305 T19 _ _ X19 eq19 N19 _ hS hk hZ hown C14 R14 (0 : Int32) (by have q := heq.2.1 (by first | exact Or.inl ⟨hc244, hc250⟩ | exact Or.inl ⟨hc244, hc279⟩ | exact Or.inr ⟨hc244, hc279⟩ | exact Or.inr ⟨hc244, hc250⟩ | exact Or.inl ⟨hc273, hc250⟩ | exact Or.inr ⟨hc273, hc279⟩ | exact Or.inl ⟨hc273, hc279⟩ | exact absurd hc273 hc244 | exact absurd hc244 hc273 | exact absurd hc279 hc250 | exact absurd hc250 hc279); rw [if_neg q])
              · refine Go.by (fun _ => XS.icmpNo X19.here hx rfl (hb hby at_273) rfl (flt hc273).1) ?_
                show Go p e below P (T19.setTop (mkF m 276 #[.val (.int p0), .val (.int p1), .val (.int p2), .val (.int p3), .val (.int r0), .val (.int r1), .val (.int r_1), .val (.int r_2), .val (.int n0_), .val (.int n1_), .val (.ref r_3), .val (.ref r_5), .val (.int pk), .val (.int c0), .val (.int c1), .val (.int r_8), .val (.ref r_9), .val (.int qk), .val (.int q0), .val (.int q1), .val (.int r_13), .val (.ref r_14), .val (.int e22), .unset, .unset, .unset] []))
                refine Go.by (fun _ => XS.iload X19.here hx rfl (hb hby at_276) rfl) ?_
                show Go p e below P (T19.setTop (mkF m 278 #[.val (.int p0), .val (.int p1), .val (.int p2), .val (.int p3), .val (.int r0), .val (.int r1), .val (.int r_1), .val (.int r_2), .val (.int n0_), .val (.int n1_), .val (.ref r_3), .val (.ref r_5), .val (.int pk), .val (.int c0), .val (.int c1), .val (.int r_8), .val (.ref r_9), .val (.int qk), .val (.int q0), .val (.int q1), .val (.int r_13), .val (.ref r_14), .val (.int e22), .unset, .unset, .unset] [(.int qk)]))
                refine Go.by (fun _ => XS.iconst X19.here hx rfl (hb hby at_278)) ?_
                show Go p e below P (T19.setTop (mkF m 279 #[.val (.int p0), .val (.int p1), .val (.int p2), .val (.int p3), .val (.int r0), .val (.int r1), .val (.int r_1), .val (.int r_2), .val (.int n0_), .val (.int n1_), .val (.ref r_3), .val (.ref r_5), .val (.int pk), .val (.int c0), .val (.int c1), .val (.int r_8), .val (.ref r_9), .val (.int qk), .val (.int q0), .val (.int q1), .val (.int r_13), .val (.ref r_14), .val (.int e22), .unset, .unset, .unset] [(.int (4 : Int32)), (.int qk)]))
                by_cases hc279 : qk < (4 : Int32)
                · refine Go.by (fun _ => XS.icmpNo X19.here hx rfl (hb hby at_279) rfl (tlt hc279).2.1) ?_
                  show Go p e below P (T19.setTop (mkF m 282 #[.val (.int p0), .val (.int p1), .val (.int p2), .val (.int p3), .val (.int r0), .val (.int r1), .val (.int r_1), .val (.int r_2), .val (.int n0_), .val (.int n1_), .val (.ref r_3), .val (.ref r_5), .val (.int pk), .val (.int c0), .val (.int c1), .val (.int r_8), .val (.ref r_9), .val (.int qk), .val (.int q0), .val (.int q1), .val (.int r_13), .val (.ref r_14), .val (.int e22), .unset, .unset, .unset] []))
                  refine Go.by (fun _ => XS.iconst X19.here hx rfl (hb hby at_282)) ?_
                  show Go p e below P (T19.setTop (mkF m 283 #[.val (.int p0), .val (.int p1), .val (.int p2), .val (.int p3), .val (.int r0), .val (.int r1), .val (.int r_1), .val (.int r_2), .val (.int n0_), .val (.int n1_), .val (.ref r_3), .val (.ref r_5), .val (.int pk), .val (.int c0), .val (.int c1), .val (.int r_8), .val (.ref r_9), .val (.int qk), .val (.int q0), .val (.int q1), .val (.int r_13), .val (.ref r_14), .val (.int e22), .unset, .unset, .unset] [(.int (0 : Int32))]))
                  refine Go.by (fun _ => XS.istore X19.here hx rfl (hb hby at_283) rfl (l' := #[.val (.int p0), .val (.int p1), .val (.int p2), .val (.int p3), .val (.int r0), .val (.int r1), .val (.int r_1), .val (.int r_2), .val (.int n0_), .val (.int n1_), .val (.ref r_3), .val (.ref r_5), .val (.int pk), .val (.int c0), .val (.int c1), .val (.int r_8), .val (.ref r_9), .val (.int qk), .val (.int q0), .val (.int q1), .val (.int r_13), .val (.ref r_14), .val (.int e22), .val (.int (0 : Int32)), .unset, .unset]) rfl) ?_
                  show Go p e below P (T19.setTop (mkF m 285 #[.val (.int p0), .val (.int p1), .val (.int p2), .val (.int p3), .val (.int r0), .val (.int r1), .val (.int r_1), .val (.int r_2), .val (.int n0_), .val (.int n1_), .val (.ref r_3), .val (.ref r_5), .val (.int pk), .val (.int c0), .val (.int c1), .val (.int r_8), .val (.ref r_9), .val (.int qk), .val (.int q0), .val (.int q1), .val (.int r_13), .val (.ref r_14), .val (.int e22), .val (.int (0 : Int32)), .unset, .unset] []))
                  refine Go.by (fun _ => XS.goto X19.here hx rfl (pc0 := 285) (pc' := 305) rfl (hb hby at_285) (by decide) (by decide)) ?_
                  show Go p e below P (T19.setTop (mkF m 305 #[.val (.int p0), .val (.int p1), .val (.int p2), .val (.int p3), .val (.int r0), .val (.int r1), .val (.int r_1), .val (.int r_2), .val (.int n0_), .val (.int n1_), .val (.ref r_3), .val (.ref r_5), .val (.int pk), .val (.int c0), .val (.int c1), .val (.int r_8), .val (.ref r_9), .val (.int qk), .val (.int q0), .val (.int q1), .val (.int r_13), .val (.ref r_14), .val (.int e22), .val (.int (0 : Int32)), .unset, .unset] []))
                  exact J305 T19 _ _ X19 eq19 N19 _ hS hk hZ hown C14 R14 (0 : Int32) (by have q := heq.2.1 (by first | exact Or.inl ⟨hc244, hc250⟩ | exact Or.inl ⟨hc244, hc279⟩ | exact Or.inr ⟨hc244, hc279⟩ | exact Or.inr ⟨hc244, hc250⟩ | exact Or.inl ⟨hc273, hc250⟩ | exact Or.inr ⟨hc273, hc279⟩ | exact Or.inl ⟨hc273, hc279⟩ | exact absurd hc273 hc244 | exact absurd hc244 hc273 | exact absurd hc279 hc250 | exact absurd hc250 hc279); rw [if_neg q])
                · refine Go.by (fun _ => XS.icmpYes X19.here hx rfl (pc0 := 279) (pc' := 288) rfl (hb hby at_279) rfl (flt hc279).2.1 (by decide) (by decide)) ?_
                  show Go p e below P (T19.setTop (mkF m 288 #[.val (.int p0), .val (.int p1), .val (.int p2), .val (.int p3), .val (.int r0), .val (.int r1), .val (.int r_1), .val (.int r_2), .val (.int n0_), .val (.int n1_), .val (.ref r_3), .val (.ref r_5), .val (.int pk), .val (.int c0), .val (.int c1), .val (.int r_8), .val (.ref r_9), .val (.int qk), .val (.int q0), .val (.int q1), .val (.int r_13), .val (.ref r_14), .val (.int e22), .unset, .unset, .unset] []))
                  refine Go.by (fun _ => XS.iload X19.here hx rfl (hb hby at_288) rfl) ?_
                  show Go p e below P (T19.setTop (mkF m 290 #[.val (.int p0), .val (.int p1), .val (.int p2), .val (.int p3), .val (.int r0), .val (.int r1), .val (.int r_1), .val (.int r_2), .val (.int n0_), .val (.int n1_), .val (.ref r_3), .val (.ref r_5), .val (.int pk), .val (.int c0), .val (.int c1), .val (.int r_8), .val (.ref r_9), .val (.int qk), .val (.int q0), .val (.int q1), .val (.int r_13), .val (.ref r_14), .val (.int e22), .unset, .unset, .unset] [(.int r_8)]))
                  refine Go.by (fun _ => XS.iload X19.here hx rfl (hb hby at_290) rfl) ?_
                  show Go p e below P (T19.setTop (mkF m 292 #[.val (.int p0), .val (.int p1), .val (.int p2), .val (.int p3), .val (.int r0), .val (.int r1), .val (.int r_1), .val (.int r_2), .val (.int n0_), .val (.int n1_), .val (.ref r_3), .val (.ref r_5), .val (.int pk), .val (.int c0), .val (.int c1), .val (.int r_8), .val (.ref r_9), .val (.int qk), .val (.int q0), .val (.int q1), .val (.int r_13), .val (.ref r_14), .val (.int e22), .unset, .unset, .unset] [(.int c0), (.int r_8)]))
                  refine Go.by (fun _ => XS.iload X19.here hx rfl (hb hby at_292) rfl) ?_
                  show Go p e below P (T19.setTop (mkF m 294 #[.val (.int p0), .val (.int p1), .val (.int p2), .val (.int p3), .val (.int r0), .val (.int r1), .val (.int r_1), .val (.int r_2), .val (.int n0_), .val (.int n1_), .val (.ref r_3), .val (.ref r_5), .val (.int pk), .val (.int c0), .val (.int c1), .val (.int r_8), .val (.ref r_9), .val (.int qk), .val (.int q0), .val (.int q1), .val (.int r_13), .val (.ref r_14), .val (.int e22), .unset, .unset, .unset] [(.int c1), (.int c0), (.int r_8)]))
                  refine Go.by (fun _ => XS.iload X19.here hx rfl (hb hby at_294) rfl) ?_
                  show Go p e below P (T19.setTop (mkF m 296 #[.val (.int p0), .val (.int p1), .val (.int p2), .val (.int p3), .val (.int r0), .val (.int r1), .val (.int r_1), .val (.int r_2), .val (.int n0_), .val (.int n1_), .val (.ref r_3), .val (.ref r_5), .val (.int pk), .val (.int c0), .val (.int c1), .val (.int r_8), .val (.ref r_9), .val (.int qk), .val (.int q0), .val (.int q1), .val (.int r_13), .val (.ref r_14), .val (.int e22), .unset, .unset, .unset] [(.int r_13), (.int c1), (.int c0), (.int r_8)]))
                  refine Go.by (fun _ => XS.iload X19.here hx rfl (hb hby at_296) rfl) ?_
                  show Go p e below P (T19.setTop (mkF m 298 #[.val (.int p0), .val (.int p1), .val (.int p2), .val (.int p3), .val (.int r0), .val (.int r1), .val (.int r_1), .val (.int r_2), .val (.int n0_), .val (.int n1_), .val (.ref r_3), .val (.ref r_5), .val (.int pk), .val (.int c0), .val (.int c1), .val (.int r_8), .val (.ref r_9), .val (.int qk), .val (.int q0), .val (.int q1), .val (.int r_13), .val (.ref r_14), .val (.int e22), .unset, .unset, .unset] [(.int q0), (.int r_13), (.int c1), (.int c0), (.int r_8)]))
                  refine Go.by (fun _ => XS.iload X19.here hx rfl (hb hby at_298) rfl) ?_
                  show Go p e below P (T19.setTop (mkF m 300 #[.val (.int p0), .val (.int p1), .val (.int p2), .val (.int p3), .val (.int r0), .val (.int r1), .val (.int r_1), .val (.int r_2), .val (.int n0_), .val (.int n1_), .val (.ref r_3), .val (.ref r_5), .val (.int pk), .val (.int c0), .val (.int c1), .val (.int r_8), .val (.ref r_9), .val (.int qk), .val (.int q0), .val (.int q1), .val (.int r_13), .val (.ref r_14), .val (.int e22), .unset, .unset, .unset] [(.int q1), (.int q0), (.int r_13), (.int c1), (.int c0), (.int r_8)]))
                  obtain ⟨_, _, ⟨T72, L72, k72, n72⟩, -, X72, ⟨Lc72, hQ72, l72, y72, z72⟩, st72⟩ := Jvm.LawKit.callS X19 hx (y := (⟨"com/example/gather_solvers/gathersolvers/model/SolverFunctionMatchesPinLaw", "drawnEq", "(IIIIII)Z"⟩ : MethodName)) hown (mvT hZ (hw _ (List.mem_of_getElem? (i := 34) rfl))) (mvT hZ (hw _ (List.mem_of_getElem? (i := 35) rfl))) (mvT hZ (hw _ (List.mem_of_getElem? (i := 2) rfl))) (mvT hZ (hw _ (List.mem_of_getElem? (i := 36) rfl))) (by decide) (backOf (W := 0) (rm_deq l Z a0 hw [] zC hG r_8 c0 c1 r_13 q0 q1 ((if (r_8 = r_13 ∧ (r_8 < 1 ∨ c0 = q0) ∧ (r_8 < 2 ∨ c1 = q1)) then (1 : Int32) else 0)) T14.heap n0 Z14 O14  rfl) hZ (hw _ (List.mem_of_getElem? (i := 36) rfl)) (hw _ (List.mem_of_getElem? (i := 2) rfl)) (Nat.le_of_ble_eq_true rfl) (Nat.le_of_ble_eq_true rfl)) (g := (mkF m 300 #[.val (.int p0), .val (.int p1), .val (.int p2), .val (.int p3), .val (.int r0), .val (.int r1), .val (.int r_1), .val (.int r_2), .val (.int n0_), .val (.int n1_), .val (.ref r_3), .val (.ref r_5), .val (.int pk), .val (.int c0), .val (.int c1), .val (.int r_8), .val (.ref r_9), .val (.int qk), .val (.int q0), .val (.int q1), .val (.int r_13), .val (.ref r_14), .val (.int e22), .unset, .unset, .unset] [(.int q1), (.int q0), (.int r_13), (.int c1), (.int c0), (.int r_8)])) rfl (by rw [hml]; rfl) (argsL := [(.int r_8), (.int c0), (.int c1), (.int r_13), (.int q0), (.int q1)]) (rest := []) (lenOf pd_7 rfl) rfl (by show 2 * 0 + _ ≤ _; exact Nat.le_of_eq rfl) (hb hby at_300) (fun _ _ => ⟨rfl, eq19, (Nat.le_of_ble_eq_true rfl : 24 + 0 ≤ _), (Nat.le_of_ble_eq_true rfl : 96 + 0 ≤ _)⟩)
                  dsimp only [Pt.U, Pt.locs, Pt.cells, Pt.slots] at X72 l72 y72 z72 st72 hQ72
                  subst l72 y72 z72
                  obtain ⟨rfl, Nq72, eq72⟩ := hQ72
                  have N72 := Fr.app N19 Nq72
                  refine Go.by (fun _ => st72 _) ?_
                  show Go p e below P (T72.setTop (mkF m 303 #[.val (.int p0), .val (.int p1), .val (.int p2), .val (.int p3), .val (.int r0), .val (.int r1), .val (.int r_1), .val (.int r_2), .val (.int n0_), .val (.int n1_), .val (.ref r_3), .val (.ref r_5), .val (.int pk), .val (.int c0), .val (.int c1), .val (.int r_8), .val (.ref r_9), .val (.int qk), .val (.int q0), .val (.int q1), .val (.int r_13), .val (.ref r_14), .val (.int e22), .unset, .unset, .unset] [(.int (if (r_8 = r_13 ∧ (r_8 < 1 ∨ c0 = q0) ∧ (r_8 < 2 ∨ c1 = q1)) then (1 : Int32) else 0))]))
                  generalize hv_e23x : (if (r_8 = r_13 ∧ (r_8 < 1 ∨ c0 = q0) ∧ (r_8 < 2 ∨ c1 = q1)) then (1 : Int32) else 0) = e23x
                  refine Go.by (fun _ => XS.istore X72.here hx rfl (hb hby at_303) rfl (l' := #[.val (.int p0), .val (.int p1), .val (.int p2), .val (.int p3), .val (.int r0), .val (.int r1), .val (.int r_1), .val (.int r_2), .val (.int n0_), .val (.int n1_), .val (.ref r_3), .val (.ref r_5), .val (.int pk), .val (.int c0), .val (.int c1), .val (.int r_8), .val (.ref r_9), .val (.int qk), .val (.int q0), .val (.int q1), .val (.int r_13), .val (.ref r_14), .val (.int e22), .val (.int e23x), .unset, .unset]) rfl) ?_
                  show Go p e below P (T72.setTop (mkF m 305 #[.val (.int p0), .val (.int p1), .val (.int p2), .val (.int p3), .val (.int r0), .val (.int r1), .val (.int r_1), .val (.int r_2), .val (.int n0_), .val (.int n1_), .val (.ref r_3), .val (.ref r_5), .val (.int pk), .val (.int c0), .val (.int c1), .val (.int r_8), .val (.ref r_9), .val (.int qk), .val (.int q0), .val (.int q1), .val (.int r_13), .val (.ref r_14), .val (.int e22), .val (.int e23x), .unset, .unset] []))
                  exact J305 T72 _ _ X72 eq72 N72 _ hS hk hZ hown C14 R14 e23x (by rw [← hv_e23x]; first | exact heq.2.2 hc244 hc250 | exact heq.2.2 hc244 hc279 | exact heq.2.2 hc273 hc279 | exact absurd hc244 hc273 | exact absurd hc273 hc244)
          · refine Go.by (fun _ => XS.icmpYes X19.here hx rfl (pc0 := 244) (pc' := 270) rfl (hb hby at_244) rfl (flt hc244).2.1 (by decide) (by decide)) ?_
            show Go p e below P (T19.setTop (mkF m 270 #[.val (.int p0), .val (.int p1), .val (.int p2), .val (.int p3), .val (.int r0), .val (.int r1), .val (.int r_1), .val (.int r_2), .val (.int n0_), .val (.int n1_), .val (.ref r_3), .val (.ref r_5), .val (.int pk), .val (.int c0), .val (.int c1), .val (.int r_8), .val (.ref r_9), .val (.int qk), .val (.int q0), .val (.int q1), .val (.int r_13), .val (.ref r_14), .val (.int e22), .unset, .unset, .unset] []))
            refine Go.by (fun _ => XS.iload X19.here hx rfl (hb hby at_270) rfl) ?_
            show Go p e below P (T19.setTop (mkF m 272 #[.val (.int p0), .val (.int p1), .val (.int p2), .val (.int p3), .val (.int r0), .val (.int r1), .val (.int r_1), .val (.int r_2), .val (.int n0_), .val (.int n1_), .val (.ref r_3), .val (.ref r_5), .val (.int pk), .val (.int c0), .val (.int c1), .val (.int r_8), .val (.ref r_9), .val (.int qk), .val (.int q0), .val (.int q1), .val (.int r_13), .val (.ref r_14), .val (.int e22), .unset, .unset, .unset] [(.int pk)]))
            refine Go.by (fun _ => XS.iconst X19.here hx rfl (hb hby at_272)) ?_
            show Go p e below P (T19.setTop (mkF m 273 #[.val (.int p0), .val (.int p1), .val (.int p2), .val (.int p3), .val (.int r0), .val (.int r1), .val (.int r_1), .val (.int r_2), .val (.int n0_), .val (.int n1_), .val (.ref r_3), .val (.ref r_5), .val (.int pk), .val (.int c0), .val (.int c1), .val (.int r_8), .val (.ref r_9), .val (.int qk), .val (.int q0), .val (.int q1), .val (.int r_13), .val (.ref r_14), .val (.int e22), .unset, .unset, .unset] [(.int (4 : Int32)), (.int pk)]))
            by_cases hc273 : pk < (4 : Int32)
            · refine Go.by (fun _ => XS.icmpYes X19.here hx rfl (pc0 := 273) (pc' := 282) rfl (hb hby at_273) rfl (tlt hc273).1 (by decide) (by decide)) ?_
              show Go p e below P (T19.setTop (mkF m 282 #[.val (.int p0), .val (.int p1), .val (.int p2), .val (.int p3), .val (.int r0), .val (.int r1), .val (.int r_1), .val (.int r_2), .val (.int n0_), .val (.int n1_), .val (.ref r_3), .val (.ref r_5), .val (.int pk), .val (.int c0), .val (.int c1), .val (.int r_8), .val (.ref r_9), .val (.int qk), .val (.int q0), .val (.int q1), .val (.int r_13), .val (.ref r_14), .val (.int e22), .unset, .unset, .unset] []))
              refine Go.by (fun _ => XS.iconst X19.here hx rfl (hb hby at_282)) ?_
              show Go p e below P (T19.setTop (mkF m 283 #[.val (.int p0), .val (.int p1), .val (.int p2), .val (.int p3), .val (.int r0), .val (.int r1), .val (.int r_1), .val (.int r_2), .val (.int n0_), .val (.int n1_), .val (.ref r_3), .val (.ref r_5), .val (.int pk), .val (.int c0), .val (.int c1), .val (.int r_8), .val (.ref r_9), .val (.int qk), .val (.int q0), .val (.int q1), .val (.int r_13), .val (.ref r_14), .val (.int e22), .unset, .unset, .unset] [(.int (0 : Int32))]))
              refine Go.by (fun _ => XS.istore X19.here hx rfl (hb hby at_283) rfl (l' := #[.val (.int p0), .val (.int p1), .val (.int p2), .val (.int p3), .val (.int r0), .val (.int r1), .val (.int r_1), .val (.int r_2), .val (.int n0_), .val (.int n1_), .val (.ref r_3), .val (.ref r_5), .val (.int pk), .val (.int c0), .val (.int c1), .val (.int r_8), .val (.ref r_9), .val (.int qk), .val (.int q0), .val (.int q1), .val (.int r_13), .val (.ref r_14), .val (.int e22), .val (.int (0 : Int32)), .unset, .unset]) rfl) ?_
              show Go p e below P (T19.setTop (mkF m 285 #[.val (.int p0), .val (.int p1), .val (.int p2), .val (.int p3), .val (.int r0), .val (.int r1), .val (.int r_1), .val (.int r_2), .val (.int n0_), .val (.int n1_), .val (.ref r_3), .val (.ref r_5), .val (.int pk), .val (.int c0), .val (.int c1), .val (.int r_8), .val (.ref r_9), .val (.int qk), .val (.int q0), .val (.int q1), .val (.int r_13), .val (.ref r_14), .val (.int e22), .val (.int (0 : Int32)), .unset, .unset] []))
              refine Go.by (fun _ => XS.goto X19.here hx rfl (pc0 := 285) (pc' := 305) rfl (hb hby at_285) (by decide) (by decide)) ?_
              show Go p e below P (T19.setTop (mkF m 305 #[.val (.int p0), .val (.int p1), .val (.int p2), .val (.int p3), .val (.int r0), .val (.int r1), .val (.int r_1), .val (.int r_2), .val (.int n0_), .val (.int n1_), .val (.ref r_3), .val (.ref r_5), .val (.int pk), .val (.int c0), .val (.int c1), .val (.int r_8), .val (.ref r_9), .val (.int qk), .val (.int q0), .val (.int q1), .val (.int r_13), .val (.ref r_14), .val (.int e22), .val (.int (0 : Int32)), .unset, .unset] []))
              exact J305 T19 _ _ X19 eq19 N19 _ hS hk hZ hown C14 R14 (0 : Int32) (by have q := heq.2.1 (by first | exact Or.inl ⟨hc244, hc250⟩ | exact Or.inl ⟨hc244, hc279⟩ | exact Or.inr ⟨hc244, hc279⟩ | exact Or.inr ⟨hc244, hc250⟩ | exact Or.inl ⟨hc273, hc250⟩ | exact Or.inr ⟨hc273, hc279⟩ | exact Or.inl ⟨hc273, hc279⟩ | exact absurd hc273 hc244 | exact absurd hc244 hc273 | exact absurd hc279 hc250 | exact absurd hc250 hc279); rw [if_neg q])
            · refine Go.by (fun _ => XS.icmpNo X19.here hx rfl (hb hby at_273) rfl (flt hc273).1) ?_
              show Go p e below P (T19.setTop (mkF m 276 #[.val (.int p0), .val (.int p1), .val (.int p2), .val (.int p3), .val (.int r0), .val (.int r1), .val (.int r_1), .val (.int r_2), .val (.int n0_), .val (.int n1_), .val (.ref r_3), .val (.ref r_5), .val (.int pk), .val (.int c0), .val (.int c1), .val (.int r_8), .val (.ref r_9), .val (.int qk), .val (.int q0), .val (.int q1), .val (.int r_13), .val (.ref r_14), .val (.int e22), .unset, .unset, .unset] []))
              refine Go.by (fun _ => XS.iload X19.here hx rfl (hb hby at_276) rfl) ?_
              show Go p e below P (T19.setTop (mkF m 278 #[.val (.int p0), .val (.int p1), .val (.int p2), .val (.int p3), .val (.int r0), .val (.int r1), .val (.int r_1), .val (.int r_2), .val (.int n0_), .val (.int n1_), .val (.ref r_3), .val (.ref r_5), .val (.int pk), .val (.int c0), .val (.int c1), .val (.int r_8), .val (.ref r_9), .val (.int qk), .val (.int q0), .val (.int q1), .val (.int r_13), .val (.ref r_14), .val (.int e22), .unset, .unset, .unset] [(.int qk)]))
              refine Go.by (fun _ => XS.iconst X19.here hx rfl (hb hby at_278)) ?_
              show Go p e below P (T19.setTop (mkF m 279 #[.val (.int p0), .val (.int p1), .val (.int p2), .val (.int p3), .val (.int r0), .val (.int r1), .val (.int r_1), .val (.int r_2), .val (.int n0_), .val (.int n1_), .val (.ref r_3), .val (.ref r_5), .val (.int pk), .val (.int c0), .val (.int c1), .val (.int r_8), .val (.ref r_9), .val (.int qk), .val (.int q0), .val (.int q1), .val (.int r_13), .val (.ref r_14), .val (.int e22), .unset, .unset, .unset] [(.int (4 : Int32)), (.int qk)]))
              by_cases hc279 : qk < (4 : Int32)
              · refine Go.by (fun _ => XS.icmpNo X19.here hx rfl (hb hby at_279) rfl (tlt hc279).2.1) ?_
                show Go p e below P (T19.setTop (mkF m 282 #[.val (.int p0), .val (.int p1), .val (.int p2), .val (.int p3), .val (.int r0), .val (.int r1), .val (.int r_1), .val (.int r_2), .val (.int n0_), .val (.int n1_), .val (.ref r_3), .val (.ref r_5), .val (.int pk), .val (.int c0), .val (.int c1), .val (.int r_8), .val (.ref r_9), .val (.int qk), .val (.int q0), .val (.int q1), .val (.int r_13), .val (.ref r_14), .val (.int e22), .unset, .unset, .unset] []))
                refine Go.by (fun _ => XS.iconst X19.here hx rfl (hb hby at_282)) ?_
                show Go p e below P (T19.setTop (mkF m 283 #[.val (.int p0), .val (.int p1), .val (.int p2), .val (.int p3), .val (.int r0), .val (.int r1), .val (.int r_1), .val (.int r_2), .val (.int n0_), .val (.int n1_), .val (.ref r_3), .val (.ref r_5), .val (.int pk), .val (.int c0), .val (.int c1), .val (.int r_8), .val (.ref r_9), .val (.int qk), .val (.int q0), .val (.int q1), .val (.int r_13), .val (.ref r_14), .val (.int e22), .unset, .unset, .unset] [(.int (0 : Int32))]))
                refine Go.by (fun _ => XS.istore X19.here hx rfl (hb hby at_283) rfl (l' := #[.val (.int p0), .val (.int p1), .val (.int p2), .val (.int p3), .val (.int r0), .val (.int r1), .val (.int r_1), .val (.int r_2), .val (.int n0_), .val (.int n1_), .val (.ref r_3), .val (.ref r_5), .val (.int pk), .val (.int c0), .val (.int c1), .val (.int r_8), .val (.ref r_9), .val (.int qk), .val (.int q0), .val (.int q1), .val (.int r_13), .val (.ref r_14), .val (.int e22), .val (.int (0 : Int32)), .unset, .unset]) rfl) ?_
                show Go p e below P (T19.setTop (mkF m 285 #[.val (.int p0), .val (.int p1), .val (.int p2), .val (.int p3), .val (.int r0), .val (.int r1), .val (.int r_1), .val (.int r_2), .val (.int n0_), .val (.int n1_), .val (.ref r_3), .val (.ref r_5), .val (.int pk), .val (.int c0), .val (.int c1), .val (.int r_8), .val (.ref r_9), .val (.int qk), .val (.int q0), .val (.int q1), .val (.int r_13), .val (.ref r_14), .val (.int e22), .val (.int (0 : Int32)), .unset, .unset] []))
                refine Go.by (fun _ => XS.goto X19.here hx rfl (pc0 := 285) (pc' := 305) rfl (hb hby at_285) (by decide) (by decide)) ?_
                show Go p e below P (T19.setTop (mkF m 305 #[.val (.int p0), .val (.int p1), .val (.int p2), .val (.int p3), .val (.int r0), .val (.int r1), .val (.int r_1), .val (.int r_2), .val (.int n0_), .val (.int n1_), .val (.ref r_3), .val (.ref r_5), .val (.int pk), .val (.int c0), .val (.int c1), .val (.int r_8), .val (.ref r_9), .val (.int qk), .val (.int q0), .val (.int q1), .val (.int r_13), .val (.ref r_14), .val (.int e22), .val (.int (0 : Int32)), .unset, .unset] []))
                exact J305 T19 _ _ X19 eq19 N19 _ hS hk hZ hown C14 R14 (0 : Int32) (by have q := heq.2.1 (by first | exact Or.inl ⟨hc244, hc250⟩ | exact Or.inl ⟨hc244, hc279⟩ | exact Or.inr ⟨hc244, hc279⟩ | exact Or.inr ⟨hc244, hc250⟩ | exact Or.inl ⟨hc273, hc250⟩ | exact Or.inr ⟨hc273, hc279⟩ | exact Or.inl ⟨hc273, hc279⟩ | exact absurd hc273 hc244 | exact absurd hc244 hc273 | exact absurd hc279 hc250 | exact absurd hc250 hc279); rw [if_neg q])
              · refine Go.by (fun _ => XS.icmpYes X19.here hx rfl (pc0 := 279) (pc' := 288) rfl (hb hby at_279) rfl (flt hc279).2.1 (by decide) (by decide)) ?_
                show Go p e below P (T19.setTop (mkF m 288 #[.val (.int p0), .val (.int p1), .val (.int p2), .val (.int p3), .val (.int r0), .val (.int r1), .val (.int r_1), .val (.int r_2), .val (.int n0_), .val (.int n1_), .val (.ref r_3), .val (.ref r_5), .val (.int pk), .val (.int c0), .val (.int c1), .val (.int r_8), .val (.ref r_9), .val (.int qk), .val (.int q0), .val (.int q1), .val (.int r_13), .val (.ref r_14), .val (.int e22), .unset, .unset, .unset] []))
                refine Go.by (fun _ => XS.iload X19.here hx rfl (hb hby at_288) rfl) ?_
                show Go p e below P (T19.setTop (mkF m 290 #[.val (.int p0), .val (.int p1), .val (.int p2), .val (.int p3), .val (.int r0), .val (.int r1), .val (.int r_1), .val (.int r_2), .val (.int n0_), .val (.int n1_), .val (.ref r_3), .val (.ref r_5), .val (.int pk), .val (.int c0), .val (.int c1), .val (.int r_8), .val (.ref r_9), .val (.int qk), .val (.int q0), .val (.int q1), .val (.int r_13), .val (.ref r_14), .val (.int e22), .unset, .unset, .unset] [(.int r_8)]))
                refine Go.by (fun _ => XS.iload X19.here hx rfl (hb hby at_290) rfl) ?_
                show Go p e below P (T19.setTop (mkF m 292 #[.val (.int p0), .val (.int p1), .val (.int p2), .val (.int p3), .val (.int r0), .val (.int r1), .val (.int r_1), .val (.int r_2), .val (.int n0_), .val (.int n1_), .val (.ref r_3), .val (.ref r_5), .val (.int pk), .val (.int c0), .val (.int c1), .val (.int r_8), .val (.ref r_9), .val (.int qk), .val (.int q0), .val (.int q1), .val (.int r_13), .val (.ref r_14), .val (.int e22), .unset, .unset, .unset] [(.int c0), (.int r_8)]))
                refine Go.by (fun _ => XS.iload X19.here hx rfl (hb hby at_292) rfl) ?_
                show Go p e below P (T19.setTop (mkF m 294 #[.val (.int p0), .val (.int p1), .val (.int p2), .val (.int p3), .val (.int r0), .val (.int r1), .val (.int r_1), .val (.int r_2), .val (.int n0_), .val (.int n1_), .val (.ref r_3), .val (.ref r_5), .val (.int pk), .val (.int c0), .val (.int c1), .val (.int r_8), .val (.ref r_9), .val (.int qk), .val (.int q0), .val (.int q1), .val (.int r_13), .val (.ref r_14), .val (.int e22), .unset, .unset, .unset] [(.int c1), (.int c0), (.int r_8)]))
                refine Go.by (fun _ => XS.iload X19.here hx rfl (hb hby at_294) rfl) ?_
                show Go p e below P (T19.setTop (mkF m 296 #[.val (.int p0), .val (.int p1), .val (.int p2), .val (.int p3), .val (.int r0), .val (.int r1), .val (.int r_1), .val (.int r_2), .val (.int n0_), .val (.int n1_), .val (.ref r_3), .val (.ref r_5), .val (.int pk), .val (.int c0), .val (.int c1), .val (.int r_8), .val (.ref r_9), .val (.int qk), .val (.int q0), .val (.int q1), .val (.int r_13), .val (.ref r_14), .val (.int e22), .unset, .unset, .unset] [(.int r_13), (.int c1), (.int c0), (.int r_8)]))
                refine Go.by (fun _ => XS.iload X19.here hx rfl (hb hby at_296) rfl) ?_
                show Go p e below P (T19.setTop (mkF m 298 #[.val (.int p0), .val (.int p1), .val (.int p2), .val (.int p3), .val (.int r0), .val (.int r1), .val (.int r_1), .val (.int r_2), .val (.int n0_), .val (.int n1_), .val (.ref r_3), .val (.ref r_5), .val (.int pk), .val (.int c0), .val (.int c1), .val (.int r_8), .val (.ref r_9), .val (.int qk), .val (.int q0), .val (.int q1), .val (.int r_13), .val (.ref r_14), .val (.int e22), .unset, .unset, .unset] [(.int q0), (.int r_13), (.int c1), (.int c0), (.int r_8)]))
                refine Go.by (fun _ => XS.iload X19.here hx rfl (hb hby at_298) rfl) ?_
                show Go p e below P (T19.setTop (mkF m 300 #[.val (.int p0), .val (.int p1), .val (.int p2), .val (.int p3), .val (.int r0), .val (.int r1), .val (.int r_1), .val (.int r_2), .val (.int n0_), .val (.int n1_), .val (.ref r_3), .val (.ref r_5), .val (.int pk), .val (.int c0), .val (.int c1), .val (.int r_8), .val (.ref r_9), .val (.int qk), .val (.int q0), .val (.int q1), .val (.int r_13), .val (.ref r_14), .val (.int e22), .unset, .unset, .unset] [(.int q1), (.int q0), (.int r_13), (.int c1), (.int c0), (.int r_8)]))
                obtain ⟨_, _, ⟨T73, L73, k73, n73⟩, -, X73, ⟨Lc73, hQ73, l73, y73, z73⟩, st73⟩ := Jvm.LawKit.callS X19 hx (y := (⟨"com/example/gather_solvers/gathersolvers/model/SolverFunctionMatchesPinLaw", "drawnEq", "(IIIIII)Z"⟩ : MethodName)) hown (mvT hZ (hw _ (List.mem_of_getElem? (i := 34) rfl))) (mvT hZ (hw _ (List.mem_of_getElem? (i := 35) rfl))) (mvT hZ (hw _ (List.mem_of_getElem? (i := 2) rfl))) (mvT hZ (hw _ (List.mem_of_getElem? (i := 36) rfl))) (by decide) (backOf (W := 0) (rm_deq l Z a0 hw [] zC hG r_8 c0 c1 r_13 q0 q1 ((if (r_8 = r_13 ∧ (r_8 < 1 ∨ c0 = q0) ∧ (r_8 < 2 ∨ c1 = q1)) then (1 : Int32) else 0)) T14.heap n0 Z14 O14  rfl) hZ (hw _ (List.mem_of_getElem? (i := 36) rfl)) (hw _ (List.mem_of_getElem? (i := 2) rfl)) (Nat.le_of_ble_eq_true rfl) (Nat.le_of_ble_eq_true rfl)) (g := (mkF m 300 #[.val (.int p0), .val (.int p1), .val (.int p2), .val (.int p3), .val (.int r0), .val (.int r1), .val (.int r_1), .val (.int r_2), .val (.int n0_), .val (.int n1_), .val (.ref r_3), .val (.ref r_5), .val (.int pk), .val (.int c0), .val (.int c1), .val (.int r_8), .val (.ref r_9), .val (.int qk), .val (.int q0), .val (.int q1), .val (.int r_13), .val (.ref r_14), .val (.int e22), .unset, .unset, .unset] [(.int q1), (.int q0), (.int r_13), (.int c1), (.int c0), (.int r_8)])) rfl (by rw [hml]; rfl) (argsL := [(.int r_8), (.int c0), (.int c1), (.int r_13), (.int q0), (.int q1)]) (rest := []) (lenOf pd_7 rfl) rfl (by show 2 * 0 + _ ≤ _; exact Nat.le_of_eq rfl) (hb hby at_300) (fun _ _ => ⟨rfl, eq19, (Nat.le_of_ble_eq_true rfl : 24 + 0 ≤ _), (Nat.le_of_ble_eq_true rfl : 96 + 0 ≤ _)⟩)
                dsimp only [Pt.U, Pt.locs, Pt.cells, Pt.slots] at X73 l73 y73 z73 st73 hQ73
                subst l73 y73 z73
                obtain ⟨rfl, Nq73, eq73⟩ := hQ73
                have N73 := Fr.app N19 Nq73
                refine Go.by (fun _ => st73 _) ?_
                show Go p e below P (T73.setTop (mkF m 303 #[.val (.int p0), .val (.int p1), .val (.int p2), .val (.int p3), .val (.int r0), .val (.int r1), .val (.int r_1), .val (.int r_2), .val (.int n0_), .val (.int n1_), .val (.ref r_3), .val (.ref r_5), .val (.int pk), .val (.int c0), .val (.int c1), .val (.int r_8), .val (.ref r_9), .val (.int qk), .val (.int q0), .val (.int q1), .val (.int r_13), .val (.ref r_14), .val (.int e22), .unset, .unset, .unset] [(.int (if (r_8 = r_13 ∧ (r_8 < 1 ∨ c0 = q0) ∧ (r_8 < 2 ∨ c1 = q1)) then (1 : Int32) else 0))]))
                generalize hv_e23x : (if (r_8 = r_13 ∧ (r_8 < 1 ∨ c0 = q0) ∧ (r_8 < 2 ∨ c1 = q1)) then (1 : Int32) else 0) = e23x
                refine Go.by (fun _ => XS.istore X73.here hx rfl (hb hby at_303) rfl (l' := #[.val (.int p0), .val (.int p1), .val (.int p2), .val (.int p3), .val (.int r0), .val (.int r1), .val (.int r_1), .val (.int r_2), .val (.int n0_), .val (.int n1_), .val (.ref r_3), .val (.ref r_5), .val (.int pk), .val (.int c0), .val (.int c1), .val (.int r_8), .val (.ref r_9), .val (.int qk), .val (.int q0), .val (.int q1), .val (.int r_13), .val (.ref r_14), .val (.int e22), .val (.int e23x), .unset, .unset]) rfl) ?_
                show Go p e below P (T73.setTop (mkF m 305 #[.val (.int p0), .val (.int p1), .val (.int p2), .val (.int p3), .val (.int r0), .val (.int r1), .val (.int r_1), .val (.int r_2), .val (.int n0_), .val (.int n1_), .val (.ref r_3), .val (.ref r_5), .val (.int pk), .val (.int c0), .val (.int c1), .val (.int r_8), .val (.ref r_9), .val (.int qk), .val (.int q0), .val (.int q1), .val (.int r_13), .val (.ref r_14), .val (.int e22), .val (.int e23x), .unset, .unset] []))
                exact J305 T73 _ _ X73 eq73 N73 _ hS hk hZ hown C14 R14 e23x (by rw [← hv_e23x]; first | exact heq.2.2 hc244 hc250 | exact heq.2.2 hc244 hc279 | exact heq.2.2 hc273 hc279 | exact absurd hc244 hc273 | exact absurd hc273 hc244)
        by_cases hc184 : ((((p3).toUInt32 >>> ((4 : Int32) &&& 31).toUInt32).toInt32) &&& (1 : Int32)) = (0 : Int32)
        · refine Go.by (fun _ => XS.ifYes X9.here hx rfl (pc0 := 184) (pc' := 198) rfl (hb hby at_184) rfl ((if0 _ _).trans (teq hc184).1) (by decide) (by decide)) ?_
          show Go p e below P (T9.setTop (mkF m 198 #[.val (.int p0), .val (.int p1), .val (.int p2), .val (.int p3), .val (.int r0), .val (.int r1), .val (.int r_1), .val (.int r_2), .val (.int n0_), .val (.int n1_), .val (.ref r_3), .val (.ref r_5), .val (.int pk), .val (.int c0), .val (.int c1), .val (.int r_8), .val (.ref r_9), .val (.int qk), .val (.int q0), .unset, .unset, .unset, .unset, .unset, .unset, .unset] []))
          refine Go.by (fun _ => XS.iload X9.here hx rfl (hb hby at_198) rfl) ?_
          show Go p e below P (T9.setTop (mkF m 200 #[.val (.int p0), .val (.int p1), .val (.int p2), .val (.int p3), .val (.int r0), .val (.int r1), .val (.int r_1), .val (.int r_2), .val (.int n0_), .val (.int n1_), .val (.ref r_3), .val (.ref r_5), .val (.int pk), .val (.int c0), .val (.int c1), .val (.int r_8), .val (.ref r_9), .val (.int qk), .val (.int q0), .unset, .unset, .unset, .unset, .unset, .unset, .unset] [(.int c1)]))
          exact J200 c1 hr_c1
        · refine Go.by (fun _ => XS.ifNo X9.here hx rfl (hb hby at_184) rfl ((if0 _ _).trans (feq hc184).1)) ?_
          show Go p e below P (T9.setTop (mkF m 187 #[.val (.int p0), .val (.int p1), .val (.int p2), .val (.int p3), .val (.int r0), .val (.int r1), .val (.int r_1), .val (.int r_2), .val (.int n0_), .val (.int n1_), .val (.ref r_3), .val (.ref r_5), .val (.int pk), .val (.int c0), .val (.int c1), .val (.int r_8), .val (.ref r_9), .val (.int qk), .val (.int q0), .unset, .unset, .unset, .unset, .unset, .unset, .unset] []))
          refine Go.by (fun _ => XS.iloadN X9.here hx rfl (hb hby at_187) rfl) ?_
          show Go p e below P (T9.setTop (mkF m 188 #[.val (.int p0), .val (.int p1), .val (.int p2), .val (.int p3), .val (.int r0), .val (.int r1), .val (.int r_1), .val (.int r_2), .val (.int n0_), .val (.int n1_), .val (.ref r_3), .val (.ref r_5), .val (.int pk), .val (.int c0), .val (.int c1), .val (.int r_8), .val (.ref r_9), .val (.int qk), .val (.int q0), .unset, .unset, .unset, .unset, .unset, .unset, .unset] [(.int p3)]))
          refine Go.by (fun _ => XS.bipush X9.here hx rfl (hb hby at_188)) ?_
          show Go p e below P (T9.setTop (mkF m 190 #[.val (.int p0), .val (.int p1), .val (.int p2), .val (.int p3), .val (.int r0), .val (.int r1), .val (.int r_1), .val (.int r_2), .val (.int n0_), .val (.int n1_), .val (.ref r_3), .val (.ref r_5), .val (.int pk), .val (.int c0), .val (.int c1), .val (.int r_8), .val (.ref r_9), .val (.int qk), .val (.int q0), .unset, .unset, .unset, .unset, .unset, .unset, .unset] [(.int (16 : Int32)), (.int p3)]))
          refine Go.by (fun _ => XS.iushr X9.here hx rfl (hb hby at_190) rfl) ?_
          show Go p e below P (T9.setTop (mkF m 191 #[.val (.int p0), .val (.int p1), .val (.int p2), .val (.int p3), .val (.int r0), .val (.int r1), .val (.int r_1), .val (.int r_2), .val (.int n0_), .val (.int n1_), .val (.ref r_3), .val (.ref r_5), .val (.int pk), .val (.int c0), .val (.int c1), .val (.int r_8), .val (.ref r_9), .val (.int qk), .val (.int q0), .unset, .unset, .unset, .unset, .unset, .unset, .unset] [(.int (((p3).toUInt32 >>> ((16 : Int32) &&& 31).toUInt32).toInt32))]))
          refine Go.by (fun _ => XS.sipush X9.here hx rfl (hb hby at_191)) ?_
          show Go p e below P (T9.setTop (mkF m 194 #[.val (.int p0), .val (.int p1), .val (.int p2), .val (.int p3), .val (.int r0), .val (.int r1), .val (.int r_1), .val (.int r_2), .val (.int n0_), .val (.int n1_), .val (.ref r_3), .val (.ref r_5), .val (.int pk), .val (.int c0), .val (.int c1), .val (.int r_8), .val (.ref r_9), .val (.int qk), .val (.int q0), .unset, .unset, .unset, .unset, .unset, .unset, .unset] [(.int (255 : Int32)), (.int (((p3).toUInt32 >>> ((16 : Int32) &&& 31).toUInt32).toInt32))]))
          refine Go.by (fun _ => XS.iand X9.here hx rfl (hb hby at_194) rfl) ?_
          show Go p e below P (T9.setTop (mkF m 195 #[.val (.int p0), .val (.int p1), .val (.int p2), .val (.int p3), .val (.int r0), .val (.int r1), .val (.int r_1), .val (.int r_2), .val (.int n0_), .val (.int n1_), .val (.ref r_3), .val (.ref r_5), .val (.int pk), .val (.int c0), .val (.int c1), .val (.int r_8), .val (.ref r_9), .val (.int qk), .val (.int q0), .unset, .unset, .unset, .unset, .unset, .unset, .unset] [(.int ((((p3).toUInt32 >>> ((16 : Int32) &&& 31).toUInt32).toInt32) &&& (255 : Int32)))]))
          refine Go.by (fun _ => XS.goto X9.here hx rfl (pc0 := 195) (pc' := 200) rfl (hb hby at_195) (by decide) (by decide)) ?_
          show Go p e below P (T9.setTop (mkF m 200 #[.val (.int p0), .val (.int p1), .val (.int p2), .val (.int p3), .val (.int r0), .val (.int r1), .val (.int r_1), .val (.int r_2), .val (.int n0_), .val (.int n1_), .val (.ref r_3), .val (.ref r_5), .val (.int pk), .val (.int c0), .val (.int c1), .val (.int r_8), .val (.ref r_9), .val (.int qk), .val (.int q0), .unset, .unset, .unset, .unset, .unset, .unset, .unset] [(.int ((((p3).toUInt32 >>> ((16 : Int32) &&& 31).toUInt32).toInt32) &&& (255 : Int32)))]))
          exact J200 ((((p3).toUInt32 >>> ((16 : Int32) &&& 31).toUInt32).toInt32) &&& (255 : Int32)) (own_and255 _)
      by_cases hc161 : ((((p3).toUInt32 >>> ((3 : Int32) &&& 31).toUInt32).toInt32) &&& (1 : Int32)) = (0 : Int32)
      · refine Go.by (fun _ => XS.ifYes X9.here hx rfl (pc0 := 161) (pc' := 175) rfl (hb hby at_161) rfl ((if0 _ _).trans (teq hc161).1) (by decide) (by decide)) ?_
        show Go p e below P (T9.setTop (mkF m 175 #[.val (.int p0), .val (.int p1), .val (.int p2), .val (.int p3), .val (.int r0), .val (.int r1), .val (.int r_1), .val (.int r_2), .val (.int n0_), .val (.int n1_), .val (.ref r_3), .val (.ref r_5), .val (.int pk), .val (.int c0), .val (.int c1), .val (.int r_8), .val (.ref r_9), .val (.int qk), .unset, .unset, .unset, .unset, .unset, .unset, .unset, .unset] []))
        refine Go.by (fun _ => XS.iload X9.here hx rfl (hb hby at_175) rfl) ?_
        show Go p e below P (T9.setTop (mkF m 177 #[.val (.int p0), .val (.int p1), .val (.int p2), .val (.int p3), .val (.int r0), .val (.int r1), .val (.int r_1), .val (.int r_2), .val (.int n0_), .val (.int n1_), .val (.ref r_3), .val (.ref r_5), .val (.int pk), .val (.int c0), .val (.int c1), .val (.int r_8), .val (.ref r_9), .val (.int qk), .unset, .unset, .unset, .unset, .unset, .unset, .unset, .unset] [(.int c0)]))
        exact J177 c0 hr_c0
      · refine Go.by (fun _ => XS.ifNo X9.here hx rfl (hb hby at_161) rfl ((if0 _ _).trans (feq hc161).1)) ?_
        show Go p e below P (T9.setTop (mkF m 164 #[.val (.int p0), .val (.int p1), .val (.int p2), .val (.int p3), .val (.int r0), .val (.int r1), .val (.int r_1), .val (.int r_2), .val (.int n0_), .val (.int n1_), .val (.ref r_3), .val (.ref r_5), .val (.int pk), .val (.int c0), .val (.int c1), .val (.int r_8), .val (.ref r_9), .val (.int qk), .unset, .unset, .unset, .unset, .unset, .unset, .unset, .unset] []))
        refine Go.by (fun _ => XS.iloadN X9.here hx rfl (hb hby at_164) rfl) ?_
        show Go p e below P (T9.setTop (mkF m 165 #[.val (.int p0), .val (.int p1), .val (.int p2), .val (.int p3), .val (.int r0), .val (.int r1), .val (.int r_1), .val (.int r_2), .val (.int n0_), .val (.int n1_), .val (.ref r_3), .val (.ref r_5), .val (.int pk), .val (.int c0), .val (.int c1), .val (.int r_8), .val (.ref r_9), .val (.int qk), .unset, .unset, .unset, .unset, .unset, .unset, .unset, .unset] [(.int p3)]))
        refine Go.by (fun _ => XS.bipush X9.here hx rfl (hb hby at_165)) ?_
        show Go p e below P (T9.setTop (mkF m 167 #[.val (.int p0), .val (.int p1), .val (.int p2), .val (.int p3), .val (.int r0), .val (.int r1), .val (.int r_1), .val (.int r_2), .val (.int n0_), .val (.int n1_), .val (.ref r_3), .val (.ref r_5), .val (.int pk), .val (.int c0), .val (.int c1), .val (.int r_8), .val (.ref r_9), .val (.int qk), .unset, .unset, .unset, .unset, .unset, .unset, .unset, .unset] [(.int (8 : Int32)), (.int p3)]))
        refine Go.by (fun _ => XS.iushr X9.here hx rfl (hb hby at_167) rfl) ?_
        show Go p e below P (T9.setTop (mkF m 168 #[.val (.int p0), .val (.int p1), .val (.int p2), .val (.int p3), .val (.int r0), .val (.int r1), .val (.int r_1), .val (.int r_2), .val (.int n0_), .val (.int n1_), .val (.ref r_3), .val (.ref r_5), .val (.int pk), .val (.int c0), .val (.int c1), .val (.int r_8), .val (.ref r_9), .val (.int qk), .unset, .unset, .unset, .unset, .unset, .unset, .unset, .unset] [(.int (((p3).toUInt32 >>> ((8 : Int32) &&& 31).toUInt32).toInt32))]))
        refine Go.by (fun _ => XS.sipush X9.here hx rfl (hb hby at_168)) ?_
        show Go p e below P (T9.setTop (mkF m 171 #[.val (.int p0), .val (.int p1), .val (.int p2), .val (.int p3), .val (.int r0), .val (.int r1), .val (.int r_1), .val (.int r_2), .val (.int n0_), .val (.int n1_), .val (.ref r_3), .val (.ref r_5), .val (.int pk), .val (.int c0), .val (.int c1), .val (.int r_8), .val (.ref r_9), .val (.int qk), .unset, .unset, .unset, .unset, .unset, .unset, .unset, .unset] [(.int (255 : Int32)), (.int (((p3).toUInt32 >>> ((8 : Int32) &&& 31).toUInt32).toInt32))]))
        refine Go.by (fun _ => XS.iand X9.here hx rfl (hb hby at_171) rfl) ?_
        show Go p e below P (T9.setTop (mkF m 172 #[.val (.int p0), .val (.int p1), .val (.int p2), .val (.int p3), .val (.int r0), .val (.int r1), .val (.int r_1), .val (.int r_2), .val (.int n0_), .val (.int n1_), .val (.ref r_3), .val (.ref r_5), .val (.int pk), .val (.int c0), .val (.int c1), .val (.int r_8), .val (.ref r_9), .val (.int qk), .unset, .unset, .unset, .unset, .unset, .unset, .unset, .unset] [(.int ((((p3).toUInt32 >>> ((8 : Int32) &&& 31).toUInt32).toInt32) &&& (255 : Int32)))]))
        refine Go.by (fun _ => XS.goto X9.here hx rfl (pc0 := 172) (pc' := 177) rfl (hb hby at_172) (by decide) (by decide)) ?_
        show Go p e below P (T9.setTop (mkF m 177 #[.val (.int p0), .val (.int p1), .val (.int p2), .val (.int p3), .val (.int r0), .val (.int r1), .val (.int r_1), .val (.int r_2), .val (.int n0_), .val (.int n1_), .val (.ref r_3), .val (.ref r_5), .val (.int pk), .val (.int c0), .val (.int c1), .val (.int r_8), .val (.ref r_9), .val (.int qk), .unset, .unset, .unset, .unset, .unset, .unset, .unset, .unset] [(.int ((((p3).toUInt32 >>> ((8 : Int32) &&& 31).toUInt32).toInt32) &&& (255 : Int32)))]))
        exact J177 ((((p3).toUInt32 >>> ((8 : Int32) &&& 31).toUInt32).toInt32) &&& (255 : Int32)) (own_and255 _)
    by_cases hc62 : ((((p0).toUInt32 >>> ((21 : Int32) &&& 31).toUInt32).toInt32) &&& (1 : Int32)) = (0 : Int32)
    · refine Go.by (fun _ => XS.ifYes X2.here hx rfl (pc0 := 62) (pc' := 76) rfl (hb hby at_62) rfl ((if0 _ _).trans (teq hc62).1) (by decide) (by decide)) ?_
      show Go p e below P (T2.setTop (mkF m 76 #[.val (.int p0), .val (.int p1), .val (.int p2), .val (.int p3), .val (.int r0), .val (.int r1), .val (.int r_1), .val (.int r_2), .val (.int n0_), .unset, .unset, .unset, .unset, .unset, .unset, .unset, .unset, .unset, .unset, .unset, .unset, .unset, .unset, .unset, .unset, .unset] []))
      refine Go.by (fun _ => XS.iload X2.here hx rfl (hb hby at_76) rfl) ?_
      show Go p e below P (T2.setTop (mkF m 78 #[.val (.int p0), .val (.int p1), .val (.int p2), .val (.int p3), .val (.int r0), .val (.int r1), .val (.int r_1), .val (.int r_2), .val (.int n0_), .unset, .unset, .unset, .unset, .unset, .unset, .unset, .unset, .unset, .unset, .unset, .unset, .unset, .unset, .unset, .unset, .unset] [(.int r1)]))
      exact J78 r1 hr_r1
    · refine Go.by (fun _ => XS.ifNo X2.here hx rfl (hb hby at_62) rfl ((if0 _ _).trans (feq hc62).1)) ?_
      show Go p e below P (T2.setTop (mkF m 65 #[.val (.int p0), .val (.int p1), .val (.int p2), .val (.int p3), .val (.int r0), .val (.int r1), .val (.int r_1), .val (.int r_2), .val (.int n0_), .unset, .unset, .unset, .unset, .unset, .unset, .unset, .unset, .unset, .unset, .unset, .unset, .unset, .unset, .unset, .unset, .unset] []))
      refine Go.by (fun _ => XS.iloadN X2.here hx rfl (hb hby at_65) rfl) ?_
      show Go p e below P (T2.setTop (mkF m 66 #[.val (.int p0), .val (.int p1), .val (.int p2), .val (.int p3), .val (.int r0), .val (.int r1), .val (.int r_1), .val (.int r_2), .val (.int n0_), .unset, .unset, .unset, .unset, .unset, .unset, .unset, .unset, .unset, .unset, .unset, .unset, .unset, .unset, .unset, .unset, .unset] [(.int p1)]))
      refine Go.by (fun _ => XS.bipush X2.here hx rfl (hb hby at_66)) ?_
      show Go p e below P (T2.setTop (mkF m 68 #[.val (.int p0), .val (.int p1), .val (.int p2), .val (.int p3), .val (.int r0), .val (.int r1), .val (.int r_1), .val (.int r_2), .val (.int n0_), .unset, .unset, .unset, .unset, .unset, .unset, .unset, .unset, .unset, .unset, .unset, .unset, .unset, .unset, .unset, .unset, .unset] [(.int (8 : Int32)), (.int p1)]))
      refine Go.by (fun _ => XS.iushr X2.here hx rfl (hb hby at_68) rfl) ?_
      show Go p e below P (T2.setTop (mkF m 69 #[.val (.int p0), .val (.int p1), .val (.int p2), .val (.int p3), .val (.int r0), .val (.int r1), .val (.int r_1), .val (.int r_2), .val (.int n0_), .unset, .unset, .unset, .unset, .unset, .unset, .unset, .unset, .unset, .unset, .unset, .unset, .unset, .unset, .unset, .unset, .unset] [(.int (((p1).toUInt32 >>> ((8 : Int32) &&& 31).toUInt32).toInt32))]))
      refine Go.by (fun _ => XS.sipush X2.here hx rfl (hb hby at_69)) ?_
      show Go p e below P (T2.setTop (mkF m 72 #[.val (.int p0), .val (.int p1), .val (.int p2), .val (.int p3), .val (.int r0), .val (.int r1), .val (.int r_1), .val (.int r_2), .val (.int n0_), .unset, .unset, .unset, .unset, .unset, .unset, .unset, .unset, .unset, .unset, .unset, .unset, .unset, .unset, .unset, .unset, .unset] [(.int (255 : Int32)), (.int (((p1).toUInt32 >>> ((8 : Int32) &&& 31).toUInt32).toInt32))]))
      refine Go.by (fun _ => XS.iand X2.here hx rfl (hb hby at_72) rfl) ?_
      show Go p e below P (T2.setTop (mkF m 73 #[.val (.int p0), .val (.int p1), .val (.int p2), .val (.int p3), .val (.int r0), .val (.int r1), .val (.int r_1), .val (.int r_2), .val (.int n0_), .unset, .unset, .unset, .unset, .unset, .unset, .unset, .unset, .unset, .unset, .unset, .unset, .unset, .unset, .unset, .unset, .unset] [(.int ((((p1).toUInt32 >>> ((8 : Int32) &&& 31).toUInt32).toInt32) &&& (255 : Int32)))]))
      refine Go.by (fun _ => XS.goto X2.here hx rfl (pc0 := 73) (pc' := 78) rfl (hb hby at_73) (by decide) (by decide)) ?_
      show Go p e below P (T2.setTop (mkF m 78 #[.val (.int p0), .val (.int p1), .val (.int p2), .val (.int p3), .val (.int r0), .val (.int r1), .val (.int r_1), .val (.int r_2), .val (.int n0_), .unset, .unset, .unset, .unset, .unset, .unset, .unset, .unset, .unset, .unset, .unset, .unset, .unset, .unset, .unset, .unset, .unset] [(.int ((((p1).toUInt32 >>> ((8 : Int32) &&& 31).toUInt32).toInt32) &&& (255 : Int32)))]))
      exact J78 ((((p1).toUInt32 >>> ((8 : Int32) &&& 31).toUInt32).toInt32) &&& (255 : Int32)) (own_and255 _)
  by_cases hc41 : ((((p0).toUInt32 >>> ((20 : Int32) &&& 31).toUInt32).toInt32) &&& (1 : Int32)) = (0 : Int32)
  · refine Go.by (fun _ => XS.ifYes X2.here hx rfl (pc0 := 41) (pc' := 52) rfl (hb hby at_41) rfl ((if0 _ _).trans (teq hc41).1) (by decide) (by decide)) ?_
    show Go p e below P (T2.setTop (mkF m 52 #[.val (.int p0), .val (.int p1), .val (.int p2), .val (.int p3), .val (.int r0), .val (.int r1), .val (.int r_1), .val (.int r_2), .unset, .unset, .unset, .unset, .unset, .unset, .unset, .unset, .unset, .unset, .unset, .unset, .unset, .unset, .unset, .unset, .unset, .unset] []))
    refine Go.by (fun _ => XS.iload X2.here hx rfl (hb hby at_52) rfl) ?_
    show Go p e below P (T2.setTop (mkF m 54 #[.val (.int p0), .val (.int p1), .val (.int p2), .val (.int p3), .val (.int r0), .val (.int r1), .val (.int r_1), .val (.int r_2), .unset, .unset, .unset, .unset, .unset, .unset, .unset, .unset, .unset, .unset, .unset, .unset, .unset, .unset, .unset, .unset, .unset, .unset] [(.int r0)]))
    exact J54 r0 hr_r0
  · refine Go.by (fun _ => XS.ifNo X2.here hx rfl (hb hby at_41) rfl ((if0 _ _).trans (feq hc41).1)) ?_
    show Go p e below P (T2.setTop (mkF m 44 #[.val (.int p0), .val (.int p1), .val (.int p2), .val (.int p3), .val (.int r0), .val (.int r1), .val (.int r_1), .val (.int r_2), .unset, .unset, .unset, .unset, .unset, .unset, .unset, .unset, .unset, .unset, .unset, .unset, .unset, .unset, .unset, .unset, .unset, .unset] []))
    refine Go.by (fun _ => XS.iloadN X2.here hx rfl (hb hby at_44) rfl) ?_
    show Go p e below P (T2.setTop (mkF m 45 #[.val (.int p0), .val (.int p1), .val (.int p2), .val (.int p3), .val (.int r0), .val (.int r1), .val (.int r_1), .val (.int r_2), .unset, .unset, .unset, .unset, .unset, .unset, .unset, .unset, .unset, .unset, .unset, .unset, .unset, .unset, .unset, .unset, .unset, .unset] [(.int p1)]))
    refine Go.by (fun _ => XS.sipush X2.here hx rfl (hb hby at_45)) ?_
    show Go p e below P (T2.setTop (mkF m 48 #[.val (.int p0), .val (.int p1), .val (.int p2), .val (.int p3), .val (.int r0), .val (.int r1), .val (.int r_1), .val (.int r_2), .unset, .unset, .unset, .unset, .unset, .unset, .unset, .unset, .unset, .unset, .unset, .unset, .unset, .unset, .unset, .unset, .unset, .unset] [(.int (255 : Int32)), (.int p1)]))
    refine Go.by (fun _ => XS.iand X2.here hx rfl (hb hby at_48) rfl) ?_
    show Go p e below P (T2.setTop (mkF m 49 #[.val (.int p0), .val (.int p1), .val (.int p2), .val (.int p3), .val (.int r0), .val (.int r1), .val (.int r_1), .val (.int r_2), .unset, .unset, .unset, .unset, .unset, .unset, .unset, .unset, .unset, .unset, .unset, .unset, .unset, .unset, .unset, .unset, .unset, .unset] [(.int (p1 &&& (255 : Int32)))]))
    refine Go.by (fun _ => XS.goto X2.here hx rfl (pc0 := 49) (pc' := 54) rfl (hb hby at_49) (by decide) (by decide)) ?_
    show Go p e below P (T2.setTop (mkF m 54 #[.val (.int p0), .val (.int p1), .val (.int p2), .val (.int p3), .val (.int r0), .val (.int r1), .val (.int r_1), .val (.int r_2), .unset, .unset, .unset, .unset, .unset, .unset, .unset, .unset, .unset, .unset, .unset, .unset, .unset, .unset, .unset, .unset, .unset, .unset] [(.int (p1 &&& (255 : Int32)))]))
    exact J54 (p1 &&& (255 : Int32)) (own_and255 _)
set_option maxRecDepth 65536 in
set_option maxHeartbeats 40000000 in
theorem comes_1 {Post : Tables → Env → Array Value → State → Outcome → State → Prop} (hpost : ∀ tb e args s v u, (limb_1_1.after args s (.returned v) u = true ∧ limb_1_2.after args s (.returned v) u = true ∧ True) → ReturnedEndW s (.returned v) u (Jvm.fieldLocs frame_1_writes args s ++ Jvm.arrayLocs frame_1_arrays args s ++ Jvm.staticLocs frame_1_statics s) 48 7360 → Post tb e args s (.returned v) u) :
    ArmFor flags0 classFile x code maxLocals ret World_1 tables_1 room_1 Calls_1 rest_1 Pre_1 Post := by
  intro l hfl _ _ p e ha hc hk s m args below hf hA hF happ hP
  obtain ⟨hcalls, hrest, hpre⟩ := hP
  obtain ⟨-, -, -, hnamed, -, -, -, hat⟩ := (Spec.applies_iff hf).mp happ
  obtain ⟨hg, hn⟩ := and_e (Cond.before_iff.mp (show (Jvm.Cond.and given_1 narrow_1).before args s = true from hpre))
  obtain ⟨hg0, hr0⟩ := and_e hg
  obtain ⟨hg1, hr1⟩ := and_e hr0
  obtain ⟨hg2, hr2⟩ := and_e hr1
  obtain ⟨hg3, hr3⟩ := and_e hr2
  obtain ⟨w0, w1, w2, w3, rfl⟩ : ∃ w0 w1 w2 w3 : Value, args = #[w0, w1, w2, w3] := by
    have hs : args.size = 4 := by simpa [Cond.value, given_1] using hg0
    obtain ⟨L⟩ := args
    match L, hs with
    | [w0, w1, w2, w3], _ => exact ⟨w0, w1, w2, w3, rfl⟩
  have hw := fun d (hd : d ∈ tables_1) => atoms_spec (ws := Jvm.Cond.code x code maxLocals ret :: tables_1) hat d (List.mem_cons_of_mem _ hd)
  have hfit : Fit s := fun {y c} hc i hi => by
    obtain ⟨ha, rfl⟩ := Array.getElem?_eq_some_iff.mp hc
    have q := List.all_eq_true.mp ((Array.all_eq_true_iff_forall_mem.mp hF) _ (Array.getElem_mem ha)) i (List.mem_range.mpr hi)
    simpa [Array.getElem?_eq_getElem hi] using q
  obtain ⟨hsets, hown0⟩ := atoms_of _ (rest_1_c_eq ▸ (show rest_1_c.before _ s = true from hrest))
  have hr0 := Cond.before_iff.mp hown0
  obtain ⟨i0, ei0⟩ := is_v hg1
  obtain rfl : w0 = (.int i0) := Option.some.inj ei0
  obtain ⟨i1, ei1⟩ := is_v hg2
  obtain rfl : w1 = (.int i1) := Option.some.inj ei1
  obtain ⟨i2, ei2⟩ := is_v hg3
  obtain rfl : w2 = (.int i2) := Option.some.inj ei2
  obtain ⟨i3, ei3⟩ := is_v hr3
  obtain rfl : w3 = (.int i3) := Option.some.inj ei3
  obtain ⟨zC, ezC⟩ := is_v (Cond.before_iff.mp (hsets _ (List.mem_of_getElem? (i := 1) rfl)))
  have nzC := not_v (Cond.before_iff.mp (hsets _ (List.mem_of_getElem? (i := 2) rfl)))
  have hG : Glob s zC := ⟨Sta.start ezC (Or.inl (hsets _ (List.mem_of_getElem? (i := 0) rfl))), gotF (Cond.eq_ints ezC (Term.int_eval (0))) nzC⟩
  have hCH : CHv s consts_1 s.vm s.heap := CHv.start (own_EW hw) (fun p hp => hcalls.1 p hp) (hsets _ (List.mem_of_getElem? (i := 2) rfl)) (hw _ (List.mem_of_getElem? (i := 22) rfl)) (hw _ (List.mem_of_getElem? (i := 8) rfl))
  obtain ⟨n, o, h1, h2, h3, _, L, rfl, ⟨rfl, N⟩, -, hq⟩ := rm_law l s _ hw tables_1 zC hG i0 i1 i2 i3  s.heap s.heap.size (Nat.le_refl _) (Old.start s)  p e ha hc hk s m _ below hf ((Spec.applies_iff_loose hf).mp happ).1 ⟨rfl, State.Warmed39.refl s, rfl, hCH⟩ trivial
  refine ⟨n, _, h1, h2, h3, hpost _ _ _ _ _ _ ⟨Cond.after_iff.mpr rfl, Cond.after_iff.mpr (eq_i res_at (Term.int_eval (1)) rfl), trivial⟩ ⟨hq.1, hq.2.1, hq.2.2.1, (hq.2.2.2.sift fun y hy => Or.inr (N y hy)).mono (Nat.le_of_ble_eq_true rfl) (Nat.le_of_ble_eq_true rfl)⟩⟩
theorem main_1_1 : Claimed_1_1 := comes_1 fun _ _ _ _ _ _ h hF => ⟨h.1, hF⟩
theorem main_1_2 : Claimed_1_2 := comes_1 fun _ _ _ _ _ _ h hF => ⟨h.2.1, hF⟩
end Jvm.Pilot.@@N@@
namespace Jvm.Pilot.@@N@@
open Jvm Jvm.ClassFile Sem Op Lib Jvm.Free Jvm.Stand Jvm.Pilot.@@N@@.Jvm.D
/-! MADE BY PROGRAM (witnessworld.py) out of the Statement's table words and the real class files: 22 classes; the members and pool entries that the words name. The judged class is class 1, her method 5. -/
namespace start1
open Jvm.ClassFile
def u (s : String) : CpInfo := .utf8 (stringToUtf16 s)
/-- a pool by its gaps: so many unusable entries, then the entry; so many at the end -/
def gap : Nat → List CpInfo → List CpInfo
  | 0, r => r
  | n + 1, r => .unusable :: gap n r
def poolList (es : List (Nat × CpInfo)) (last : Nat) : List CpInfo := es.foldr (fun e r => gap e.1 (e.2 :: r)) (gap last [])
def pool (es : List (Nat × CpInfo)) (last : Nat) : Array CpInfo := ⟨poolList es last⟩
def fileOf (pool : Array CpInfo) (this : Nat) (attrs : Array Attribute := #[]) (ms : Array MethodInfo := #[]) (fl : Nat := 33) (sup : Nat := 0) (ifs : Array Nat := #[]) (fds : Array FieldInfo := #[]) : ClassFile where
  minorVersion := 0
  majorVersion := 65
  constantPool := pool
  accessFlags := fl
  thisClass := this
  superClass := sup
  interfaces := ifs
  fields := fds
  methods := ms
  attributes := attrs
def plain (name : String) (sup : Option ClassId) : Class where
  name := name
  kind := .ordinary
  loader := none
  accessFlags := 33
  super := sup
  interfaces := #[]
  cf := none
  fields := #[]
  methods := #[]
  instanceTypes := #[]
  staticTypes := #[]
  resolved := #[]
  callSites := []
  init := .initialized
  statics := none
  mirror := none

def pool0 : Array CpInfo := pool [(5, u "<init>"), (0, u "()V"), (1, .class_ 10), (1, u "java/lang/Object")] 113

def k0c0 : Code := { maxStack := 0, maxLocals := 1, code := object_method_1_code, exceptionTable := #[], attributes := #[] }
def k0m0 : Method := { name := "<init>", desc := "()V", sig := { parameters := [], returnType := none }, accessFlags := 1, code := some k0c0 }
/-- java/lang/Object -/
def k0 : Class := { plain "java/lang/Object" none with
  accessFlags := 33
  interfaces := #[]
  cf := some (fileOf pool0 8 #[] #[{ accessFlags := 1, nameIndex := 5, descriptorIndex := 6, attributes := #[] }] 33 0 #[] #[])
  fields := #[]
  methods := #[k0m0]
  instanceTypes := #[]
  staticTypes := #[]
  resolved := Array.replicate 124 none
  statics := none }

def pool1 : Array CpInfo := pool [(2, .class_ 4), (1, u "java/lang/Object"), (0, u "<init>"), (0, u "()V"), (0, .class_ 8), (0, u "java/lang/String"), (0, .methodref 7 10), (0, .nameAndType 5 11), (0, u "([C)V"), (0, .string 13), (0, u "default"), (0, .string 15), (0, u "Default"), (0, .string 17), (0, u "defaul"), (0, .string 19), (0, u "defaults"), (0, .methodref 21 22), (0, .class_ 23), (0, .nameAndType 24 25), (0, u "com/example/gather_solvers/gathersolvers/model/SolverFunctionMatchesPinLaw"), (0, u "str"), (0, u "(III)Ljava/lang/String;"), (0, .methodref 21 27), (0, .nameAndType 28 29), (0, u "lenOf"), (0, u "(I)I"), (0, .methodref 21 31), (0, .nameAndType 32 33), (0, u "pkg"), (0, u "(IIII)Ljava/lang/String;"), (0, .methodref 21 35), (0, .nameAndType 36 37), (0, u "drawnEq"), (0, u "(IIIIII)Z"), (0, .class_ 39), (0, u "com/example/gather_solvers/gathersolvers/model/SolverFunction"), (0, .string 41), (0, u ""), (0, .methodref 38 43), (0, .nameAndType 5 44), (0, u "(Ljava/lang/String;Ljava/lang/String;Ljava/lang/String;Ljava/lang/String;)V"), (0, .methodref 38 46), (0, .nameAndType 47 48), (0, u "matches"), (0, u "(Ljava/lang/String;Ljava/lang/String;)Z"), (3, u "law"), (0, u "(IIII)Z")] 2

def k1m0 : Method := { name := "<init>", desc := "()V", sig := { parameters := [], returnType := none }, accessFlags := 1, code := none }
def k1c1 : Code := { maxStack := 2, maxLocals := 2, code := method_2_code, exceptionTable := #[], attributes := #[] }
def k1m1 : Method := { name := "lenOf", desc := "(I)I", sig := { parameters := [.int], returnType := some .int }, accessFlags := 10, code := some k1c1 }
def k1c2 : Code := { maxStack := 3, maxLocals := 4, code := method_3_code, exceptionTable := #[], attributes := #[] }
def k1m2 : Method := { name := "str", desc := "(III)Ljava/lang/String;", sig := { parameters := [.int, .int, .int], returnType := some (.object "java/lang/String") }, accessFlags := 10, code := some k1c2 }
def k1c3 : Code := { maxStack := 3, maxLocals := 4, code := method_4_code, exceptionTable := #[], attributes := #[] }
def k1m3 : Method := { name := "pkg", desc := "(IIII)Ljava/lang/String;", sig := { parameters := [.int, .int, .int, .int], returnType := some (.object "java/lang/String") }, accessFlags := 10, code := some k1c3 }
def k1c4 : Code := { maxStack := 2, maxLocals := 6, code := method_5_code, exceptionTable := #[], attributes := #[] }
def k1m4 : Method := { name := "drawnEq", desc := "(IIIIII)Z", sig := { parameters := [.int, .int, .int, .int, .int, .int], returnType := some .boolean }, accessFlags := 10, code := some k1c4 }
def k1c5 : Code := { maxStack := 6, maxLocals := 26, code := code, exceptionTable := #[], attributes := #[] }
def k1m5 : Method := { name := "law", desc := "(IIII)Z", sig := { parameters := [.int, .int, .int, .int], returnType := some .boolean }, accessFlags := 9, code := some k1c5 }
/-- com/example/gather_solvers/gathersolvers/model/SolverFunctionMatchesPinLaw -/
def k1 : Class := { plain "com/example/gather_solvers/gathersolvers/model/SolverFunctionMatchesPinLaw" (some 0) with
  accessFlags := 49
  interfaces := #[]
  cf := some (fileOf pool1 21 #[] #[{ accessFlags := 1, nameIndex := 5, descriptorIndex := 6, attributes := #[] }, { accessFlags := 10, nameIndex := 28, descriptorIndex := 29, attributes := #[] }, { accessFlags := 10, nameIndex := 24, descriptorIndex := 25, attributes := #[] }, { accessFlags := 10, nameIndex := 32, descriptorIndex := 33, attributes := #[] }, { accessFlags := 10, nameIndex := 36, descriptorIndex := 37, attributes := #[] }, { accessFlags := 9, nameIndex := 52, descriptorIndex := 53, attributes := #[] }] 49 2 #[] #[])
  fields := #[]
  methods := #[k1m0, k1m1, k1m2, k1m3, k1m4, k1m5]
  instanceTypes := #[]
  staticTypes := #[]
  resolved := Array.replicate 56 none
  statics := none }

def pool2 : Array CpInfo := pool [(1, .class_ 2), (0, u "java/io/Serializable"), (0, .class_ 4), (0, u "java/lang/Object")] 2

/-- java/io/Serializable -/
def k2 : Class := { plain "java/io/Serializable" (some 0) with
  accessFlags := 1537
  interfaces := #[]
  cf := some (fileOf pool2 1 #[] #[] 1537 3 #[] #[])
  fields := #[]
  methods := #[]
  instanceTypes := #[]
  staticTypes := #[]
  resolved := Array.replicate 7 none
  statics := none }

def pool3 : Array CpInfo := pool [(1, .class_ 2), (0, u "java/lang/Comparable"), (0, .class_ 4), (0, u "java/lang/Object")] 7

/-- java/lang/Comparable -/
def k3 : Class := { plain "java/lang/Comparable" (some 0) with
  accessFlags := 1537
  interfaces := #[]
  cf := some (fileOf pool3 1 #[] #[] 1537 3 #[] #[])
  fields := #[]
  methods := #[]
  instanceTypes := #[]
  staticTypes := #[]
  resolved := Array.replicate 12 none
  statics := none }

def pool4 : Array CpInfo := pool [(2, .class_ 4), (1, u "java/lang/CharSequence"), (42, .class_ 48), (0, u "java/lang/CharSequence$1CodePointIterator"), (10, .class_ 60), (0, u "java/lang/CharSequence$1CharIterator"), (5, .class_ 67), (0, u "java/lang/Object")] 63

/-- java/lang/CharSequence -/
def k4 : Class := { plain "java/lang/CharSequence" (some 0) with
  accessFlags := 1537
  interfaces := #[]
  cf := some (fileOf pool4 2 #[.nestMembers #[47, 59]] #[] 1537 66 #[] #[])
  fields := #[]
  methods := #[]
  instanceTypes := #[]
  staticTypes := #[]
  resolved := Array.replicate 131 none
  statics := none }

def pool5 : Array CpInfo := pool [(1, .class_ 2), (0, u "java/lang/constant/Constable"), (0, .class_ 4), (0, u "java/lang/Object")] 6

/-- java/lang/constant/Constable -/
def k5 : Class := { plain "java/lang/constant/Constable" (some 0) with
  accessFlags := 1537
  interfaces := #[]
  cf := some (fileOf pool5 1 #[] #[] 1537 3 #[] #[])
  fields := #[]
  methods := #[]
  instanceTypes := #[]
  staticTypes := #[]
  resolved := Array.replicate 11 none
  statics := none }

def pool6 : Array CpInfo := pool [(1, .class_ 2), (0, u "java/lang/constant/ConstantDesc"), (0, .class_ 4), (0, u "java/lang/Object")] 32

/-- java/lang/constant/ConstantDesc -/
def k6 : Class := { plain "java/lang/constant/ConstantDesc" (some 0) with
  accessFlags := 1537
  interfaces := #[]
  cf := some (fileOf pool6 1 #[] #[] 1537 3 #[] #[])
  fields := #[]
  methods := #[]
  instanceTypes := #[]
  staticTypes := #[]
  resolved := Array.replicate 37 none
  statics := none }

def pool7 : Array CpInfo := pool [(1, .methodref 2 3), (0, .class_ 4), (0, .nameAndType 5 6), (0, u "java/lang/Object"), (0, u "<init>"), (0, u "()V"), (0, .string 8), (0, u ""), (0, .fieldref 10 11), (0, .class_ 12), (0, .nameAndType 13 14), (0, u "java/lang/String"), (0, u "value"), (0, u "[B"), (0, .fieldref 10 16), (0, .nameAndType 17 18), (0, u "coder"), (0, u "B"), (2, u "hash"), (0, u "I"), (2, u "hashIsZero"), (0, u "Z"), (0, .methodref 10 28), (0, .nameAndType 5 29), (0, u "([CIILjava/lang/Void;)V"), (8, .fieldref 10 39), (0, .nameAndType 40 26), (0, u "COMPACT_STRINGS"), (1, .class_ 44), (1, u "java/lang/StringUTF16"), (0, u "compress"), (1, .methodref 42 48), (0, .nameAndType 49 50), (0, u "coderFromArrayLen"), (0, u "([BI)B"), (56, .class_ 109), (1, u "java/lang/StringLatin1"), (67, .methodref 42 178), (0, .nameAndType 45 179), (0, u "([CII)[B"), (361, .methodref 107 542), (0, .nameAndType 543 544), (0, u "equals"), (0, u "([B[B)Z"), (28, u "(Ljava/lang/Object;)Z"), (1, .class_ 576), (0, u "java/lang/CharSequence"), (22, u "CASE_INSENSITIVE_ORDER"), (0, u "Ljava/util/Comparator;"), (409, u "([C)V"), (90, u "serialPersistentFields"), (0, u "[Ljava/io/ObjectStreamField;"), (0, .class_ 1104), (0, u "java/lang/String$CaseInsensitiveComparator"), (1, .class_ 1107), (0, u "java/io/Serializable"), (0, .class_ 1109), (0, u "java/lang/Comparable"), (0, .class_ 1111), (0, u "java/lang/constant/Constable"), (0, .class_ 1113), (0, u "java/lang/constant/ConstantDesc"), (2, u "serialVersionUID"), (0, u "J"), (3, u "REPL"), (0, u "C"), (2, u "LATIN1"), (1, u "UTF16")] 323

def k7m0 : Method := { name := "<init>", desc := "()V", sig := { parameters := [], returnType := none }, accessFlags := 1, code := none }
def k7c1 : Code := { maxStack := 5, maxLocals := 2, code := jdk_42_method_3_code, exceptionTable := #[], attributes := #[] }
def k7m1 : Method := { name := "<init>", desc := "([C)V", sig := { parameters := [(.array .char)], returnType := none }, accessFlags := 1, code := some k7c1 }
def k7c2 : Code := { maxStack := 2, maxLocals := 3, code := jdk_42_method_66_code, exceptionTable := #[], attributes := #[] }
def k7m2 : Method := { name := "equals", desc := "(Ljava/lang/Object;)Z", sig := { parameters := [(.object "java/lang/Object")], returnType := some .boolean }, accessFlags := 1, code := some k7c2 }
def k7c3 : Code := { maxStack := 4, maxLocals := 6, code := jdk_42_method_149_code, exceptionTable := #[], attributes := #[] }
def k7m3 : Method := { name := "<init>", desc := "([CIILjava/lang/Void;)V", sig := { parameters := [(.array .char), .int, .int, (.object "java/lang/Void")], returnType := none }, accessFlags := 2, code := some k7c3 }
/-- java/lang/String -/
def k7 : Class := { plain "java/lang/String" (some 0) with
  accessFlags := 49
  interfaces := #[2, 3, 4, 5, 6]
  cf := some (fileOf pool7 10 #[.nestMembers #[1103]] #[{ accessFlags := 1, nameIndex := 5, descriptorIndex := 6, attributes := #[] }, { accessFlags := 1, nameIndex := 5, descriptorIndex := 1010, attributes := #[] }, { accessFlags := 1, nameIndex := 543, descriptorIndex := 573, attributes := #[] }, { accessFlags := 2, nameIndex := 5, descriptorIndex := 29, attributes := #[] }] 49 2 #[1106, 1108, 575, 1110, 1112] #[{ accessFlags := 18, nameIndex := 13, descriptorIndex := 14, attributes := #[] }, { accessFlags := 18, nameIndex := 17, descriptorIndex := 18, attributes := #[] }, { accessFlags := 2, nameIndex := 21, descriptorIndex := 22, attributes := #[] }, { accessFlags := 2, nameIndex := 25, descriptorIndex := 26, attributes := #[] }, { accessFlags := 26, nameIndex := 1116, descriptorIndex := 1117, attributes := #[] }, { accessFlags := 24, nameIndex := 40, descriptorIndex := 26, attributes := #[] }, { accessFlags := 26, nameIndex := 1101, descriptorIndex := 1102, attributes := #[] }, { accessFlags := 26, nameIndex := 1121, descriptorIndex := 1122, attributes := #[] }, { accessFlags := 25, nameIndex := 599, descriptorIndex := 600, attributes := #[] }, { accessFlags := 24, nameIndex := 1125, descriptorIndex := 18, attributes := #[] }, { accessFlags := 24, nameIndex := 1127, descriptorIndex := 18, attributes := #[] }])
  fields := #[{ name := "value", type := (.array .byte), accessFlags := 18, slot := 0, constantValue := 0 }, { name := "coder", type := .byte, accessFlags := 18, slot := 1, constantValue := 0 }, { name := "hash", type := .int, accessFlags := 2, slot := 2, constantValue := 0 }, { name := "hashIsZero", type := .boolean, accessFlags := 2, slot := 3, constantValue := 0 }, { name := "serialVersionUID", type := .long, accessFlags := 26, slot := 0, constantValue := 0 }, { name := "COMPACT_STRINGS", type := .boolean, accessFlags := 24, slot := 1, constantValue := 0 }, { name := "serialPersistentFields", type := (.array (.object "java/io/ObjectStreamField")), accessFlags := 26, slot := 2, constantValue := 0 }, { name := "REPL", type := .char, accessFlags := 26, slot := 3, constantValue := 0 }, { name := "CASE_INSENSITIVE_ORDER", type := (.object "java/util/Comparator"), accessFlags := 25, slot := 4, constantValue := 0 }, { name := "LATIN1", type := .byte, accessFlags := 24, slot := 5, constantValue := 0 }, { name := "UTF16", type := .byte, accessFlags := 24, slot := 6, constantValue := 0 }]
  methods := #[k7m0, k7m1, k7m2, k7m3]
  instanceTypes := #[(.array .byte), .byte, .int, .boolean]
  staticTypes := #[.long, .boolean, (.array (.object "java/io/ObjectStreamField")), .char, (.object "java/util/Comparator"), .byte, .byte]
  resolved := Array.replicate 1451 none
  statics := some 0 }

def pool8 : Array CpInfo := pool [(1, .methodref 2 3), (0, .class_ 4), (0, .nameAndType 5 6), (0, u "java/lang/Object"), (0, u "<init>"), (0, u "()V"), (0, .class_ 8), (0, u "java/lang/Record")] 13

def k8c0 : Code := { maxStack := 1, maxLocals := 1, code := jdk_30_method_1_code, exceptionTable := #[], attributes := #[] }
def k8m0 : Method := { name := "<init>", desc := "()V", sig := { parameters := [], returnType := none }, accessFlags := 4, code := some k8c0 }
/-- java/lang/Record -/
def k8 : Class := { plain "java/lang/Record" (some 0) with
  accessFlags := 1057
  interfaces := #[]
  cf := some (fileOf pool8 7 #[] #[{ accessFlags := 4, nameIndex := 5, descriptorIndex := 6, attributes := #[] }] 1057 2 #[] #[])
  fields := #[]
  methods := #[k8m0]
  instanceTypes := #[]
  staticTypes := #[]
  resolved := Array.replicate 22 none
  statics := none }

def pool9 : Array CpInfo := pool [(2, .class_ 4), (1, u "com/example/gather_solvers/gathersolvers/model/SolverEntry"), (11, .class_ 17), (0, u "java/lang/Object")] 13

/-- com/example/gather_solvers/gathersolvers/model/SolverEntry -/
def k9 : Class := { plain "com/example/gather_solvers/gathersolvers/model/SolverEntry" (some 0) with
  accessFlags := 1537
  interfaces := #[]
  cf := some (fileOf pool9 2 #[] #[] 1537 16 #[] #[])
  fields := #[]
  methods := #[]
  instanceTypes := #[]
  staticTypes := #[]
  resolved := Array.replicate 31 none
  statics := none }

def pool10 : Array CpInfo := pool [(1, .methodref 2 3), (0, .class_ 4), (0, .nameAndType 5 6), (0, u "java/lang/Record"), (0, u "<init>"), (0, u "()V"), (0, .fieldref 8 9), (0, .class_ 10), (0, .nameAndType 11 12), (0, u "com/example/gather_solvers/gathersolvers/model/SolverFunction"), (0, u "name"), (0, u "Ljava/lang/String;"), (0, .fieldref 8 14), (0, .nameAndType 15 12), (0, u "packageName"), (0, .fieldref 8 17), (0, .nameAndType 18 12), (0, u "signature"), (0, .fieldref 8 20), (0, .nameAndType 21 12), (0, u "description"), (0, .methodref 23 24), (0, .class_ 25), (0, .nameAndType 26 27), (0, u "java/lang/String"), (0, u "equals"), (0, u "(Ljava/lang/Object;)Z"), (0, .string 29), (0, u "default"), (11, .class_ 42), (0, u "com/example/gather_solvers/gathersolvers/model/SolverEntry"), (0, u "DEFAULT_PACKAGE"), (1, u "(Ljava/lang/String;Ljava/lang/String;Ljava/lang/String;Ljava/lang/String;)V"), (5, u "matches"), (0, u "(Ljava/lang/String;Ljava/lang/String;)Z")] 25

def k10c0 : Code := { maxStack := 2, maxLocals := 5, code := prog_113_method_1_code, exceptionTable := #[], attributes := #[] }
def k10m0 : Method := { name := "<init>", desc := "(Ljava/lang/String;Ljava/lang/String;Ljava/lang/String;Ljava/lang/String;)V", sig := { parameters := [(.object "java/lang/String"), (.object "java/lang/String"), (.object "java/lang/String"), (.object "java/lang/String")], returnType := none }, accessFlags := 1, code := some k10c0 }
def k10c1 : Code := { maxStack := 2, maxLocals := 3, code := prog_113_method_3_code, exceptionTable := #[], attributes := #[] }
def k10m1 : Method := { name := "matches", desc := "(Ljava/lang/String;Ljava/lang/String;)Z", sig := { parameters := [(.object "java/lang/String"), (.object "java/lang/String")], returnType := some .boolean }, accessFlags := 1, code := some k10c1 }
/-- com/example/gather_solvers/gathersolvers/model/SolverFunction -/
def k10 : Class := { plain "com/example/gather_solvers/gathersolvers/model/SolverFunction" (some 8) with
  accessFlags := 49
  interfaces := #[9]
  cf := some (fileOf pool10 8 #[] #[{ accessFlags := 1, nameIndex := 5, descriptorIndex := 45, attributes := #[] }, { accessFlags := 1, nameIndex := 51, descriptorIndex := 52, attributes := #[] }] 49 2 #[41] #[{ accessFlags := 18, nameIndex := 11, descriptorIndex := 12, attributes := #[] }, { accessFlags := 18, nameIndex := 15, descriptorIndex := 12, attributes := #[] }, { accessFlags := 18, nameIndex := 18, descriptorIndex := 12, attributes := #[] }, { accessFlags := 18, nameIndex := 21, descriptorIndex := 12, attributes := #[] }, { accessFlags := 25, nameIndex := 43, descriptorIndex := 12, attributes := #[] }])
  fields := #[{ name := "name", type := (.object "java/lang/String"), accessFlags := 18, slot := 0, constantValue := 0 }, { name := "packageName", type := (.object "java/lang/String"), accessFlags := 18, slot := 1, constantValue := 0 }, { name := "signature", type := (.object "java/lang/String"), accessFlags := 18, slot := 2, constantValue := 0 }, { name := "description", type := (.object "java/lang/String"), accessFlags := 18, slot := 3, constantValue := 0 }, { name := "DEFAULT_PACKAGE", type := (.object "java/lang/String"), accessFlags := 25, slot := 0, constantValue := 0 }]
  methods := #[k10m0, k10m1]
  instanceTypes := #[(.object "java/lang/String"), (.object "java/lang/String"), (.object "java/lang/String"), (.object "java/lang/String")]
  staticTypes := #[(.object "java/lang/String")]
  resolved := Array.replicate 78 none
  statics := none }

def pool11 : Array CpInfo := pool [(4, .class_ 6), (1, u "java/lang/Object"), (0, u "<init>"), (0, u "()V"), (5, .class_ 16), (1, u "java/lang/StringLatin1"), (104, u "$assertionsDisabled"), (0, u "Z"), (98, .class_ 223), (1, u "java/lang/StringLatin1$LinesSpliterator"), (57, u "equals"), (0, u "([B[B)Z"), (107, .class_ 391), (0, u "java/lang/StringLatin1$CharsSpliterator")] 3

def k11m0 : Method := { name := "<init>", desc := "()V", sig := { parameters := [], returnType := none }, accessFlags := 0, code := none }
def k11c1 : Code := { maxStack := 3, maxLocals := 3, code := jdk_43_method_13_code, exceptionTable := #[], attributes := #[] }
def k11m1 : Method := { name := "equals", desc := "([B[B)Z", sig := { parameters := [(.array .byte), (.array .byte)], returnType := some .boolean }, accessFlags := 9, code := some k11c1 }
/-- java/lang/StringLatin1 -/
def k11 : Class := { plain "java/lang/StringLatin1" (some 0) with
  accessFlags := 48
  interfaces := #[]
  cf := some (fileOf pool11 14 #[.nestMembers #[390, 221]] #[{ accessFlags := 0, nameIndex := 7, descriptorIndex := 8, attributes := #[] }, { accessFlags := 9, nameIndex := 281, descriptorIndex := 282, attributes := #[] }] 48 4 #[] #[{ accessFlags := 4120, nameIndex := 121, descriptorIndex := 122, attributes := #[] }])
  fields := #[{ name := "$assertionsDisabled", type := .boolean, accessFlags := 4120, slot := 0, constantValue := 0 }]
  methods := #[k11m0, k11m1]
  instanceTypes := #[]
  staticTypes := #[.boolean]
  resolved := Array.replicate 395 none
  statics := none }

def pool12 : Array CpInfo := pool [(6, .class_ 8), (1, u "java/lang/Object"), (0, u "<init>"), (0, u "()V"), (1, .class_ 14), (1, u "java/lang/StringUTF16"), (31, u "$assertionsDisabled"), (0, u "Z"), (13, u "HI_BYTE_SHIFT"), (0, u "I"), (2, u "LO_BYTE_SHIFT"), (49, .methodref 12 116), (0, .nameAndType 117 118), (0, u "compress"), (0, u "([CI[BII)I"), (3, u "([CII)[B"), (138, u "coderFromArrayLen"), (0, u "([BI)B"), (106, .class_ 371), (1, u "java/lang/StringUTF16$LinesSpliterator"), (58, u "MAX_LENGTH"), (196, .class_ 628), (0, u "java/lang/StringUTF16$CodePointsSpliterator"), (0, .class_ 630), (0, u "java/lang/StringUTF16$CharsSpliterator")] 4

def k12m0 : Method := { name := "<init>", desc := "()V", sig := { parameters := [], returnType := none }, accessFlags := 0, code := none }
def k12c1 : Code := { maxStack := 2, maxLocals := 2, code := jdk_52_method_15_code, exceptionTable := #[], attributes := #[] }
def k12m1 : Method := { name := "coderFromArrayLen", desc := "([BI)B", sig := { parameters := [(.array .byte), .int], returnType := some .byte }, accessFlags := 8, code := some k12c1 }
def k12c2 : Code := { maxStack := 5, maxLocals := 6, code := jdk_52_method_16_code, exceptionTable := #[], attributes := #[] }
def k12m2 : Method := { name := "compress", desc := "([CII)[B", sig := { parameters := [(.array .char), .int, .int], returnType := some (.array .byte) }, accessFlags := 9, code := some k12c2 }
def k12c3 : Code := { maxStack := 3, maxLocals := 7, code := jdk_52_method_21_code, exceptionTable := #[], attributes := #[] }
def k12m3 : Method := { name := "compress", desc := "([CI[BII)I", sig := { parameters := [(.array .char), .int, (.array .byte), .int, .int], returnType := some .int }, accessFlags := 9, code := some k12c3 }
/-- java/lang/StringUTF16 -/
def k12 : Class := { plain "java/lang/StringUTF16" (some 0) with
  accessFlags := 48
  interfaces := #[]
  cf := some (fileOf pool12 12 #[.nestMembers #[627, 629, 369]] #[{ accessFlags := 0, nameIndex := 9, descriptorIndex := 10, attributes := #[] }, { accessFlags := 8, nameIndex := 261, descriptorIndex := 262, attributes := #[] }, { accessFlags := 9, nameIndex := 117, descriptorIndex := 122, attributes := #[] }, { accessFlags := 9, nameIndex := 117, descriptorIndex := 118, attributes := #[] }] 48 6 #[] #[{ accessFlags := 26, nameIndex := 61, descriptorIndex := 62, attributes := #[] }, { accessFlags := 26, nameIndex := 65, descriptorIndex := 62, attributes := #[] }, { accessFlags := 24, nameIndex := 430, descriptorIndex := 62, attributes := #[] }, { accessFlags := 4120, nameIndex := 46, descriptorIndex := 47, attributes := #[] }])
  fields := #[{ name := "HI_BYTE_SHIFT", type := .int, accessFlags := 26, slot := 0, constantValue := 0 }, { name := "LO_BYTE_SHIFT", type := .int, accessFlags := 26, slot := 1, constantValue := 0 }, { name := "MAX_LENGTH", type := .int, accessFlags := 24, slot := 2, constantValue := 0 }, { name := "$assertionsDisabled", type := .boolean, accessFlags := 4120, slot := 3, constantValue := 0 }]
  methods := #[k12m0, k12m1, k12m2, k12m3]
  instanceTypes := #[]
  staticTypes := #[.int, .int, .int, .boolean]
  resolved := Array.replicate 635 none
  statics := none }

def pool13 : Array CpInfo := pool [(2, .class_ 4), (1, u "java/lang/Object"), (0, u "<init>"), (0, u "()V"), (17, .class_ 26), (1, u "jdk/internal/util/Preconditions"), (28, .class_ 56), (0, u "jdk/internal/util/Preconditions$4"), (57, .class_ 115), (0, u "jdk/internal/util/Preconditions$1"), (7, u "SIOOBE_FORMATTER"), (0, u "Ljava/util/function/BiFunction;"), (0, .class_ 126), (0, u "jdk/internal/util/Preconditions$2"), (3, u "AIOOBE_FORMATTER"), (0, .class_ 132), (0, u "jdk/internal/util/Preconditions$3"), (3, u "IOOBE_FORMATTER")] 57

def k13m0 : Method := { name := "<init>", desc := "()V", sig := { parameters := [], returnType := none }, accessFlags := 1, code := none }
/-- jdk/internal/util/Preconditions -/
def k13 : Class := { plain "jdk/internal/util/Preconditions" (some 0) with
  accessFlags := 33
  interfaces := #[]
  cf := some (fileOf pool13 24 #[.nestMembers #[55, 131, 125, 114]] #[{ accessFlags := 1, nameIndex := 5, descriptorIndex := 6, attributes := #[] }] 33 2 #[] #[{ accessFlags := 25, nameIndex := 123, descriptorIndex := 124, attributes := #[] }, { accessFlags := 25, nameIndex := 130, descriptorIndex := 124, attributes := #[] }, { accessFlags := 25, nameIndex := 136, descriptorIndex := 124, attributes := #[] }])
  fields := #[{ name := "SIOOBE_FORMATTER", type := (.object "java/util/function/BiFunction"), accessFlags := 25, slot := 0, constantValue := 0 }, { name := "AIOOBE_FORMATTER", type := (.object "java/util/function/BiFunction"), accessFlags := 25, slot := 1, constantValue := 0 }, { name := "IOOBE_FORMATTER", type := (.object "java/util/function/BiFunction"), accessFlags := 25, slot := 2, constantValue := 0 }]
  methods := #[k13m0]
  instanceTypes := #[]
  staticTypes := #[(.object "java/util/function/BiFunction"), (.object "java/util/function/BiFunction"), (.object "java/util/function/BiFunction")]
  resolved := Array.replicate 194 none
  statics := some 1 }

def pool14 : Array CpInfo := pool [(9, u "<init>"), (6, .class_ 18), (1, u "java/lang/Object"), (0, u "()V"), (1, .class_ 23), (1, u "jdk/internal/util/ArraysSupport"), (0, u "LOG2_ARRAY_LONG_INDEX_SCALE"), (0, u "I"), (2, u "U"), (0, u "Ljdk/internal/misc/Unsafe;"), (8, u "BIG_ENDIAN"), (0, u "Z"), (8, u "LOG2_BYTE_BIT_SIZE"), (4, u "LOG2_ARRAY_INT_INDEX_SCALE"), (54, u "JLA"), (0, u "Ljdk/internal/access/JavaLangAccess;"), (11, u "LOG2_ARRAY_BOOLEAN_INDEX_SCALE"), (9, u "LOG2_ARRAY_BYTE_INDEX_SCALE"), (5, u "LOG2_ARRAY_CHAR_INDEX_SCALE"), (5, u "LOG2_ARRAY_SHORT_INDEX_SCALE"), (18, u "LOG2_ARRAY_FLOAT_INDEX_SCALE"), (24, u "LOG2_ARRAY_DOUBLE_INDEX_SCALE"), (89, u "T_BOOLEAN"), (2, u "T_CHAR"), (1, u "T_FLOAT"), (1, u "T_DOUBLE"), (1, u "T_BYTE"), (1, u "T_SHORT"), (1, u "T_INT"), (1, u "T_LONG"), (1, u "SOFT_MAX_ARRAY_LENGTH")] 83

def k14m0 : Method := { name := "<init>", desc := "()V", sig := { parameters := [], returnType := none }, accessFlags := 2, code := none }
/-- jdk/internal/util/ArraysSupport -/
def k14 : Class := { plain "jdk/internal/util/ArraysSupport" (some 0) with
  accessFlags := 33
  interfaces := #[]
  cf := some (fileOf pool14 21 #[] #[{ accessFlags := 2, nameIndex := 9, descriptorIndex := 19, attributes := #[] }] 33 16 #[] #[{ accessFlags := 24, nameIndex := 28, descriptorIndex := 29, attributes := #[] }, { accessFlags := 26, nameIndex := 38, descriptorIndex := 39, attributes := #[] }, { accessFlags := 25, nameIndex := 121, descriptorIndex := 25, attributes := #[] }, { accessFlags := 25, nameIndex := 131, descriptorIndex := 25, attributes := #[] }, { accessFlags := 25, nameIndex := 137, descriptorIndex := 25, attributes := #[] }, { accessFlags := 25, nameIndex := 143, descriptorIndex := 25, attributes := #[] }, { accessFlags := 25, nameIndex := 53, descriptorIndex := 25, attributes := #[] }, { accessFlags := 25, nameIndex := 24, descriptorIndex := 25, attributes := #[] }, { accessFlags := 25, nameIndex := 162, descriptorIndex := 25, attributes := #[] }, { accessFlags := 25, nameIndex := 187, descriptorIndex := 25, attributes := #[] }, { accessFlags := 26, nameIndex := 48, descriptorIndex := 25, attributes := #[] }, { accessFlags := 25, nameIndex := 277, descriptorIndex := 25, attributes := #[] }, { accessFlags := 25, nameIndex := 280, descriptorIndex := 25, attributes := #[] }, { accessFlags := 25, nameIndex := 282, descriptorIndex := 25, attributes := #[] }, { accessFlags := 25, nameIndex := 284, descriptorIndex := 25, attributes := #[] }, { accessFlags := 25, nameIndex := 286, descriptorIndex := 25, attributes := #[] }, { accessFlags := 25, nameIndex := 288, descriptorIndex := 25, attributes := #[] }, { accessFlags := 25, nameIndex := 290, descriptorIndex := 25, attributes := #[] }, { accessFlags := 25, nameIndex := 292, descriptorIndex := 25, attributes := #[] }, { accessFlags := 26, nameIndex := 108, descriptorIndex := 109, attributes := #[] }, { accessFlags := 25, nameIndex := 294, descriptorIndex := 25, attributes := #[] }])
  fields := #[{ name := "U", type := (.object "jdk/internal/misc/Unsafe"), accessFlags := 24, slot := 0, constantValue := 0 }, { name := "BIG_ENDIAN", type := .boolean, accessFlags := 26, slot := 1, constantValue := 0 }, { name := "LOG2_ARRAY_BOOLEAN_INDEX_SCALE", type := .int, accessFlags := 25, slot := 2, constantValue := 0 }, { name := "LOG2_ARRAY_BYTE_INDEX_SCALE", type := .int, accessFlags := 25, slot := 3, constantValue := 0 }, { name := "LOG2_ARRAY_CHAR_INDEX_SCALE", type := .int, accessFlags := 25, slot := 4, constantValue := 0 }, { name := "LOG2_ARRAY_SHORT_INDEX_SCALE", type := .int, accessFlags := 25, slot := 5, constantValue := 0 }, { name := "LOG2_ARRAY_INT_INDEX_SCALE", type := .int, accessFlags := 25, slot := 6, constantValue := 0 }, { name := "LOG2_ARRAY_LONG_INDEX_SCALE", type := .int, accessFlags := 25, slot := 7, constantValue := 0 }, { name := "LOG2_ARRAY_FLOAT_INDEX_SCALE", type := .int, accessFlags := 25, slot := 8, constantValue := 0 }, { name := "LOG2_ARRAY_DOUBLE_INDEX_SCALE", type := .int, accessFlags := 25, slot := 9, constantValue := 0 }, { name := "LOG2_BYTE_BIT_SIZE", type := .int, accessFlags := 26, slot := 10, constantValue := 0 }, { name := "T_BOOLEAN", type := .int, accessFlags := 25, slot := 11, constantValue := 0 }, { name := "T_CHAR", type := .int, accessFlags := 25, slot := 12, constantValue := 0 }, { name := "T_FLOAT", type := .int, accessFlags := 25, slot := 13, constantValue := 0 }, { name := "T_DOUBLE", type := .int, accessFlags := 25, slot := 14, constantValue := 0 }, { name := "T_BYTE", type := .int, accessFlags := 25, slot := 15, constantValue := 0 }, { name := "T_SHORT", type := .int, accessFlags := 25, slot := 16, constantValue := 0 }, { name := "T_INT", type := .int, accessFlags := 25, slot := 17, constantValue := 0 }, { name := "T_LONG", type := .int, accessFlags := 25, slot := 18, constantValue := 0 }, { name := "JLA", type := (.object "jdk/internal/access/JavaLangAccess"), accessFlags := 26, slot := 19, constantValue := 0 }, { name := "SOFT_MAX_ARRAY_LENGTH", type := .int, accessFlags := 25, slot := 20, constantValue := 0 }]
  methods := #[k14m0]
  instanceTypes := #[]
  staticTypes := #[(.object "jdk/internal/misc/Unsafe"), .boolean, .int, .int, .int, .int, .int, .int, .int, .int, .int, .int, .int, .int, .int, .int, .int, .int, .int, (.object "jdk/internal/access/JavaLangAccess"), .int]
  resolved := Array.replicate 378 none
  statics := none }

def pool15 : Array CpInfo := pool [(1, u "java/lang/Cloneable"), (0, .class_ 1), (0, u "java/lang/Object"), (0, .class_ 3)] 3

/-- java/lang/Cloneable -/
def k15 : Class := { plain "java/lang/Cloneable" (some 0) with
  accessFlags := 1537
  interfaces := #[]
  cf := some (fileOf pool15 2 #[] #[] 1537 4 #[] #[])
  fields := #[]
  methods := #[]
  instanceTypes := #[]
  staticTypes := #[]
  resolved := Array.replicate 8 none
  statics := none }

/-- the primitive byte -/
def k16 : Class := { plain "byte" none with kind := .primitive 'B', accessFlags := 0x411 }
/-- [B -/
def k17 : Class := { plain "[B" (some 0) with kind := .array 16 .byte, interfaces := #[15, 2], accessFlags := 1041 }

/-- the primitive char -/
def k18 : Class := { plain "char" none with kind := .primitive 'C', accessFlags := 0x411 }
/-- [C -/
def k19 : Class := { plain "[C" (some 0) with kind := .array 18 .char, interfaces := #[15, 2], accessFlags := 1041 }

/-- the primitive int -/
def k20 : Class := { plain "int" none with kind := .primitive 'I', accessFlags := 0x411 }
/-- [I -/
def k21 : Class := { plain "[I" (some 0) with kind := .array 20 .int, interfaces := #[15, 2], accessFlags := 1041 }

def heap : Heap := #[{ cls := 7, slots := #[.long 0, .int 1, .null, .int 0, .null, .int 0, .int 0], vm := .statics 7 },
  { cls := 13, slots := #[.null, .null, .null], vm := .statics 13 }]
def classes : Array Class := #[k0, k1, k2, k3, k4, k5, k6, k7, k8, k9, k10, k11, k12, k13, k14, k15, k16, k17, k18, k19, k20, k21]
def interned : List (Array UInt16 × Addr) := []
def slotsUsed : Nat := 10
def theMethod : MethodId := ⟨1, 5⟩
def args0 : Array Value := #[.int 5, .int 5, .int 5, .int 5]
def aboutOver (below : List Frame) : State where
  vm := { classes := classes, interned := interned.toArray }
  heap := heap
  slotsUsed := slotsUsed
  threads := #[{ frames := .invoking theMethod args0 :: below }]
def below0 : List Frame := [.native { method := ⟨0, 0⟩, args := #[] }]
def about1 : State := aboutOver below0
def p0 : Program := .bare "" "" ""
def e0 : Env := launch0.env 0 0 0
theorem w_frames : about1.frames = Frame.invoking theMethod args0 :: below0 := rfl
set_option maxRecDepth 65536 in
theorem w_args : argsFit about1.vm theMethod args0 = true := by decide +kernel
set_option maxRecDepth 65536 in
theorem w_heap : heapFits about1 = true := by decide +kernel
set_option maxRecDepth 65536 in
theorem w_runnable : about1.curStatus? = some .runnable := by decide +kernel
set_option maxRecDepth 65536 in
theorem w_alone : about1.alone = true := by decide +kernel
set_option maxRecDepth 65536 in
theorem w_named : about1.methodNamed? x = some theMethod := by decide +kernel
set_option maxRecDepth 65536 in
theorem w_hears : about1.hears theMethod below0 = true := by decide +kernel
set_option maxRecDepth 65536 in
theorem w_ripe : about1.ripe theMethod args0 below0 = true := by decide +kernel
theorem w_running : about1.status = .running := rfl
set_option maxRecDepth 65536 in
theorem w_room : about1.hasRoom e0.platform room_1 = true :=
  launch0.hasRoom_least _ room_1 (by decide +kernel) (by decide +kernel) (by decide +kernel) (by decide +kernel) (by decide +kernel) (by decide +kernel)
theorem allAtoms_all (ts : List Jvm.Cond) (a : Array Jvm.Value) (st : Jvm.State) : (allAtoms ts).before a st = ts.all (fun c => c.before a st) := by
  induction ts with
  | nil => rfl
  | cons c t ih =>
    show (Jvm.Cond.and c (allAtoms t)).before a st = _
    rw [Jvm.Cond.before_and, ih, List.all_cons]
def words1 : List Jvm.Cond := Jvm.Cond.code x code maxLocals ret :: tables_1
/-- a 'code' word, met by the world's own term for the bytes: nothing is compared byte by byte -/
theorem code_word {y : MethodName} {bytes : ByteArray} {mx : Nat} {rt : Option FieldType} {a : Array Value} {s : State} {m : MethodId} {meth : Method} {c : Code} (h1 : s.methodNamed? y = some m) (h2 : s.vm.method? m = some meth) (h3 : meth.code = some c) (h4 : c.code = bytes)
    (h5 : (c.maxLocals == mx && c.exceptionTable.isEmpty && decide (c.maxStack ≤ mostOperands) && decide (meth.sig.returnType = rt) && !meth.locks && decide (parseMethodDescriptor y.desc = some meth.sig)) = true) : (Jvm.Cond.code y bytes mx rt).before a s = true := by
  simp only [Bool.and_eq_true, beq_iff_eq, Bool.not_eq_true', decide_eq_true_eq] at h5
  obtain ⟨⟨⟨⟨⟨g1, g2⟩, g3⟩, g4⟩, g5⟩, g6⟩ := h5
  simp [Cond.before, Cond.holds, Cond.value, h1, h2, h3, h4, g1, g2, g3, g4, g5, g6]
def isCode : Jvm.Cond → Bool
  | .code _ _ _ _ => true
  | _ => false
theorem all_split {L : List Jvm.Cond} {P : Jvm.Cond → Bool} (h1 : L.all (fun c => isCode c || P c) = true) (h2 : ∀ c ∈ L.filter isCode, P c = true) : L.all P = true := by
  refine List.all_eq_true.mpr fun c hc => ?_
  have h := List.all_eq_true.mp h1 c hc
  rcases Bool.eq_false_or_eq_true (isCode c) with hi | hi
  · exact h2 c (List.mem_filter.mpr ⟨hc, hi⟩)
  · simpa [hi] using h
set_option maxRecDepth 65536 in
theorem w_c0 : (Jvm.Cond.code x code maxLocals ret).before args0 about1 = true := code_word (m := ⟨1, 5⟩) (meth := k1m5) (c := k1c5) (by decide +kernel) rfl rfl rfl (by decide +kernel)
set_option maxRecDepth 65536 in
theorem w_c1 : (Jvm.Cond.code ({ cls := "com/example/gather_solvers/gathersolvers/model/SolverFunctionMatchesPinLaw", name := "lenOf", desc := "(I)I" } : Jvm.MethodName) method_2_code (2 : Nat) (Option.some Jvm.ClassFile.FieldType.int)).before args0 about1 = true := code_word (m := ⟨1, 1⟩) (meth := k1m1) (c := k1c1) (by decide +kernel) rfl rfl rfl (by decide +kernel)
set_option maxRecDepth 65536 in
theorem w_c2 : (Jvm.Cond.code ({ cls := "com/example/gather_solvers/gathersolvers/model/SolverFunctionMatchesPinLaw", name := "str", desc := "(III)Ljava/lang/String;" } : Jvm.MethodName) method_3_code (4 : Nat) (Option.some (Jvm.ClassFile.FieldType.object "java/lang/String"))).before args0 about1 = true := code_word (m := ⟨1, 2⟩) (meth := k1m2) (c := k1c2) (by decide +kernel) rfl rfl rfl (by decide +kernel)
set_option maxRecDepth 65536 in
theorem w_c3 : (Jvm.Cond.code ({ cls := "java/lang/String", name := "<init>", desc := "([C)V" } : Jvm.MethodName) jdk_42_method_3_code (2 : Nat) (Option.none : Option Jvm.ClassFile.FieldType)).before args0 about1 = true := code_word (m := ⟨7, 1⟩) (meth := k7m1) (c := k7c1) (by decide +kernel) rfl rfl rfl (by decide +kernel)
set_option maxRecDepth 65536 in
theorem w_c4 : (Jvm.Cond.code ({ cls := "java/lang/String", name := "<init>", desc := "([CIILjava/lang/Void;)V" } : Jvm.MethodName) jdk_42_method_149_code (6 : Nat) (Option.none : Option Jvm.ClassFile.FieldType)).before args0 about1 = true := code_word (m := ⟨7, 3⟩) (meth := k7m3) (c := k7c3) (by decide +kernel) rfl rfl rfl (by decide +kernel)
set_option maxRecDepth 65536 in
theorem w_c5 : (Jvm.Cond.code ({ cls := "java/lang/Object", name := "<init>", desc := "()V" } : Jvm.MethodName) object_method_1_code (1 : Nat) (Option.none : Option Jvm.ClassFile.FieldType)).before args0 about1 = true := code_word (m := ⟨0, 0⟩) (meth := k0m0) (c := k0c0) (by decide +kernel) rfl rfl rfl (by decide +kernel)
set_option maxRecDepth 65536 in
theorem w_c6 : (Jvm.Cond.code ({ cls := "com/example/gather_solvers/gathersolvers/model/SolverFunctionMatchesPinLaw", name := "pkg", desc := "(IIII)Ljava/lang/String;" } : Jvm.MethodName) method_4_code (4 : Nat) (Option.some (Jvm.ClassFile.FieldType.object "java/lang/String"))).before args0 about1 = true := code_word (m := ⟨1, 3⟩) (meth := k1m3) (c := k1c3) (by decide +kernel) rfl rfl rfl (by decide +kernel)
set_option maxRecDepth 65536 in
theorem w_c7 : (Jvm.Cond.code ({ cls := "com/example/gather_solvers/gathersolvers/model/SolverFunctionMatchesPinLaw", name := "drawnEq", desc := "(IIIIII)Z" } : Jvm.MethodName) method_5_code (6 : Nat) (Option.some Jvm.ClassFile.FieldType.boolean)).before args0 about1 = true := code_word (m := ⟨1, 4⟩) (meth := k1m4) (c := k1c4) (by decide +kernel) rfl rfl rfl (by decide +kernel)
set_option maxRecDepth 65536 in
theorem w_c8 : (Jvm.Cond.code ({ cls := "com/example/gather_solvers/gathersolvers/model/SolverFunction", name := "<init>", desc := "(Ljava/lang/String;Ljava/lang/String;Ljava/lang/String;Ljava/lang/String;)V" } : Jvm.MethodName) prog_113_method_1_code (5 : Nat) (Option.none : Option Jvm.ClassFile.FieldType)).before args0 about1 = true := code_word (m := ⟨10, 0⟩) (meth := k10m0) (c := k10c0) (by decide +kernel) rfl rfl rfl (by decide +kernel)
set_option maxRecDepth 65536 in
theorem w_c9 : (Jvm.Cond.code ({ cls := "java/lang/Record", name := "<init>", desc := "()V" } : Jvm.MethodName) jdk_30_method_1_code (1 : Nat) (Option.none : Option Jvm.ClassFile.FieldType)).before args0 about1 = true := code_word (m := ⟨8, 0⟩) (meth := k8m0) (c := k8c0) (by decide +kernel) rfl rfl rfl (by decide +kernel)
set_option maxRecDepth 65536 in
theorem w_c10 : (Jvm.Cond.code ({ cls := "com/example/gather_solvers/gathersolvers/model/SolverFunction", name := "matches", desc := "(Ljava/lang/String;Ljava/lang/String;)Z" } : Jvm.MethodName) prog_113_method_3_code (3 : Nat) (Option.some Jvm.ClassFile.FieldType.boolean)).before args0 about1 = true := code_word (m := ⟨10, 1⟩) (meth := k10m1) (c := k10c1) (by decide +kernel) rfl rfl rfl (by decide +kernel)
set_option maxRecDepth 65536 in
theorem w_c11 : (Jvm.Cond.code ({ cls := "java/lang/String", name := "equals", desc := "(Ljava/lang/Object;)Z" } : Jvm.MethodName) jdk_42_method_66_code (3 : Nat) (Option.some Jvm.ClassFile.FieldType.boolean)).before args0 about1 = true := code_word (m := ⟨7, 2⟩) (meth := k7m2) (c := k7c2) (by decide +kernel) rfl rfl rfl (by decide +kernel)
set_option maxRecDepth 65536 in
theorem w_c12 : (Jvm.Cond.code ({ cls := "java/lang/StringLatin1", name := "equals", desc := "([B[B)Z" } : Jvm.MethodName) jdk_43_method_13_code (3 : Nat) (Option.some Jvm.ClassFile.FieldType.boolean)).before args0 about1 = true := code_word (m := ⟨11, 1⟩) (meth := k11m1) (c := k11c1) (by decide +kernel) rfl rfl rfl (by decide +kernel)
set_option maxRecDepth 65536 in
theorem w_c13 : (Jvm.Cond.code ({ cls := "java/lang/StringUTF16", name := "compress", desc := "([CII)[B" } : Jvm.MethodName) jdk_52_method_16_code (6 : Nat) (Option.some (Jvm.ClassFile.FieldType.array Jvm.ClassFile.FieldType.byte))).before args0 about1 = true := code_word (m := ⟨12, 2⟩) (meth := k12m2) (c := k12c2) (by decide +kernel) rfl rfl rfl (by decide +kernel)
set_option maxRecDepth 65536 in
theorem w_c14 : (Jvm.Cond.code ({ cls := "java/lang/StringUTF16", name := "compress", desc := "([CI[BII)I" } : Jvm.MethodName) jdk_52_method_21_code (7 : Nat) (Option.some Jvm.ClassFile.FieldType.int)).before args0 about1 = true := code_word (m := ⟨12, 3⟩) (meth := k12m3) (c := k12c3) (by decide +kernel) rfl rfl rfl (by decide +kernel)
set_option maxRecDepth 65536 in
theorem w_c15 : (Jvm.Cond.code ({ cls := "java/lang/StringUTF16", name := "coderFromArrayLen", desc := "([BI)B" } : Jvm.MethodName) jdk_52_method_15_code (2 : Nat) (Option.some Jvm.ClassFile.FieldType.byte)).before args0 about1 = true := code_word (m := ⟨12, 1⟩) (meth := k12m1) (c := k12c1) (by decide +kernel) rfl rfl rfl (by decide +kernel)
def codes1 : List Jvm.Cond := [Jvm.Cond.code x code maxLocals ret, Jvm.Cond.code ({ cls := "com/example/gather_solvers/gathersolvers/model/SolverFunctionMatchesPinLaw", name := "lenOf", desc := "(I)I" } : Jvm.MethodName) method_2_code (2 : Nat) (Option.some Jvm.ClassFile.FieldType.int), Jvm.Cond.code ({ cls := "com/example/gather_solvers/gathersolvers/model/SolverFunctionMatchesPinLaw", name := "str", desc := "(III)Ljava/lang/String;" } : Jvm.MethodName) method_3_code (4 : Nat) (Option.some (Jvm.ClassFile.FieldType.object "java/lang/String")), Jvm.Cond.code ({ cls := "java/lang/String", name := "<init>", desc := "([C)V" } : Jvm.MethodName) jdk_42_method_3_code (2 : Nat) (Option.none : Option Jvm.ClassFile.FieldType), Jvm.Cond.code ({ cls := "java/lang/String", name := "<init>", desc := "([CIILjava/lang/Void;)V" } : Jvm.MethodName) jdk_42_method_149_code (6 : Nat) (Option.none : Option Jvm.ClassFile.FieldType), Jvm.Cond.code ({ cls := "java/lang/Object", name := "<init>", desc := "()V" } : Jvm.MethodName) object_method_1_code (1 : Nat) (Option.none : Option Jvm.ClassFile.FieldType), Jvm.Cond.code ({ cls := "com/example/gather_solvers/gathersolvers/model/SolverFunctionMatchesPinLaw", name := "pkg", desc := "(IIII)Ljava/lang/String;" } : Jvm.MethodName) method_4_code (4 : Nat) (Option.some (Jvm.ClassFile.FieldType.object "java/lang/String")), Jvm.Cond.code ({ cls := "com/example/gather_solvers/gathersolvers/model/SolverFunctionMatchesPinLaw", name := "drawnEq", desc := "(IIIIII)Z" } : Jvm.MethodName) method_5_code (6 : Nat) (Option.some Jvm.ClassFile.FieldType.boolean), Jvm.Cond.code ({ cls := "com/example/gather_solvers/gathersolvers/model/SolverFunction", name := "<init>", desc := "(Ljava/lang/String;Ljava/lang/String;Ljava/lang/String;Ljava/lang/String;)V" } : Jvm.MethodName) prog_113_method_1_code (5 : Nat) (Option.none : Option Jvm.ClassFile.FieldType), Jvm.Cond.code ({ cls := "java/lang/Record", name := "<init>", desc := "()V" } : Jvm.MethodName) jdk_30_method_1_code (1 : Nat) (Option.none : Option Jvm.ClassFile.FieldType), Jvm.Cond.code ({ cls := "com/example/gather_solvers/gathersolvers/model/SolverFunction", name := "matches", desc := "(Ljava/lang/String;Ljava/lang/String;)Z" } : Jvm.MethodName) prog_113_method_3_code (3 : Nat) (Option.some Jvm.ClassFile.FieldType.boolean), Jvm.Cond.code ({ cls := "java/lang/String", name := "equals", desc := "(Ljava/lang/Object;)Z" } : Jvm.MethodName) jdk_42_method_66_code (3 : Nat) (Option.some Jvm.ClassFile.FieldType.boolean), Jvm.Cond.code ({ cls := "java/lang/StringLatin1", name := "equals", desc := "([B[B)Z" } : Jvm.MethodName) jdk_43_method_13_code (3 : Nat) (Option.some Jvm.ClassFile.FieldType.boolean), Jvm.Cond.code ({ cls := "java/lang/StringUTF16", name := "compress", desc := "([CII)[B" } : Jvm.MethodName) jdk_52_method_16_code (6 : Nat) (Option.some (Jvm.ClassFile.FieldType.array Jvm.ClassFile.FieldType.byte)), Jvm.Cond.code ({ cls := "java/lang/StringUTF16", name := "compress", desc := "([CI[BII)I" } : Jvm.MethodName) jdk_52_method_21_code (7 : Nat) (Option.some Jvm.ClassFile.FieldType.int), Jvm.Cond.code ({ cls := "java/lang/StringUTF16", name := "coderFromArrayLen", desc := "([BI)B" } : Jvm.MethodName) jdk_52_method_15_code (2 : Nat) (Option.some Jvm.ClassFile.FieldType.byte)]
set_option maxRecDepth 65536 in
theorem codes_eq : words1.filter isCode = codes1 := rfl
theorem w_codes : ∀ c ∈ words1.filter isCode, c.before args0 about1 = true := by
  rw [codes_eq]
  intro c hc
  simp only [codes1, List.mem_cons, List.not_mem_nil, or_false] at hc
  rcases hc with rfl | rfl | rfl | rfl | rfl | rfl | rfl | rfl | rfl | rfl | rfl | rfl | rfl | rfl | rfl | rfl
  · exact w_c0
  · exact w_c1
  · exact w_c2
  · exact w_c3
  · exact w_c4
  · exact w_c5
  · exact w_c6
  · exact w_c7
  · exact w_c8
  · exact w_c9
  · exact w_c10
  · exact w_c11
  · exact w_c12
  · exact w_c13
  · exact w_c14
  · exact w_c15
set_option maxRecDepth 65536 in
theorem w_t1 : (words1.take 24).all (fun c => isCode c || c.before args0 about1) = true := by decide +kernel
set_option maxRecDepth 65536 in
theorem w_t2 : ((words1.drop 24).take 24).all (fun c => isCode c || c.before args0 about1) = true := by decide +kernel
set_option maxRecDepth 65536 in
theorem w_t3 : (((words1.drop 24).drop 24).take 24).all (fun c => isCode c || c.before args0 about1) = true := by decide +kernel
set_option maxRecDepth 65536 in
theorem w_t4 : (((words1.drop 24).drop 24).drop 24).all (fun c => isCode c || c.before args0 about1) = true := by decide +kernel
theorem w_tables : (allAtoms (Jvm.Cond.code x code maxLocals ret :: tables_1)).before args0 about1 = true := by
  rw [allAtoms_all]
  show words1.all (fun c => c.before args0 about1) = true
  refine all_split ?_ w_codes
  rw [← List.take_append_drop 24 words1, List.all_append, w_t1, ← List.take_append_drop 24 (words1.drop 24), List.all_append, w_t2, ← List.take_append_drop 24 ((words1.drop 24).drop 24), List.all_append, w_t3, w_t4]
  rfl
set_option maxRecDepth 65536 in
theorem w_rest : rest_1_c.before args0 about1 = true := by decide +kernel
set_option maxRecDepth 65536 in
theorem w_case : (Jvm.Cond.and given_1 narrow_1).before args0 about1 = true := by decide +kernel
set_option maxRecDepth 65536 in
theorem w_consts : constsHeld consts_1 about1 := Jvm.Lit.constsHeldB_iff.mp (by decide +kernel)
theorem w_applies : (headSpec (Jvm.Cond.code x code maxLocals ret :: tables_1) room_1).applies x e0.platform about1 = true :=
  (Spec.applies_iff w_frames).mpr ⟨w_running, w_runnable, w_alone, w_named, w_hears, w_ripe, w_room, w_tables⟩
theorem atStart : AtStart classFile x code maxLocals ret World_1 tables_1 room_1 Calls_1 rest_1 Pre_1 launch0 p0 e0 about1 theMethod args0 below0 :=
  ⟨lists_1, trivial, launch0.admits_env _ _ _, launch0.least_env, fairChoices_fair.cas, fairChoices_fair.clock, w_frames, w_args, w_heap, w_applies, ⟨w_consts, trivial⟩, w_rest, w_case⟩
end start1
theorem witness_1 : WitnessClaimed_1 := ⟨start1.p0, start1.e0, start1.about1, start1.theMethod, start1.args0, start1.below0, start1.atStart⟩
end Jvm.Pilot.@@N@@

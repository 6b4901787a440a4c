import JvmDerived
import JvmDerived.Pilot.@@N@@Statement
import JvmDerived.Pilot.@@N@@Code
set_option linter.unusedVariables false
set_option linter.unusedSimpArgs false
/- laws to paste: Road.backV, Road.chN, Road.codOf (cut by pick.py; bodies as the Statement names them) -/
namespace Jvm.Pilot.@@N@@
namespace StrChars
open Jvm Sem ClassFile Op Lib Jvm.Stand Jvm.Free.XT Jvm.Free.ALB Jvm.Free.JM Jvm.Free
open Jvm.Lib.Cold (StaticIs)
/-- a char array whose places are chars -/
def Ch (a : Addr) (A : Cell) (U : State) : Prop := Arr .char a A U ∧ Typed .char A
theorem Ch.mv {a : Addr} {A : Cell} {U U' : State} (h : Ch a A U) (hal : U.vm.Alike U'.vm) (hh : U'.heap = U.heap) : Ch a A U' := ⟨h.1.mv hal hh, h.2⟩
theorem Ch.keep {a : Addr} {A : Cell} {U U' : State} (h : Ch a A U) (hal : U.vm.Alike U'.vm) (hk : U'.heap[a]? = some A) : Ch a A U' := ⟨h.1.keep hal hk, h.2⟩
/-- what place i of a char[]'s cell holds -/
def cv (A : Cell) (i : Nat) : Int32 := match A.slots[i]? with | some (.int x) => x | _ => 0
theorem Ch.get {a : Addr} {A : Cell} {U : State} (h : Ch a A U) {i : Nat} (hi : i < A.slots.size) : A.slots[i]? = some (.int (cv A i)) := by
  have e := Array.getElem?_eq_getElem hi
  have f := h.2 i _ e
  unfold cv; rw [e]
  generalize A.slots[i] = v at f
  cases v <;> simp [fits] at f ⊢
/-- the byte that i2b leaves of a char -/
def lo8 (x : Int32) : Int32 := x.toInt8.toInt32
theorem fits_lo8 (y : Int32) : fits .byte (.int (lo8 y)) = true := by
  have h1 := y.toInt8.le_toInt
  have h2 := y.toInt8.toInt_lt
  simp only [lo8, fits, Bool.and_eq_true, decide_eq_true_eq, Int32.le_iff_toInt_le, Int8.toInt_toInt32, show (-128 : Int32).toInt = -128 from by decide, show (127 : Int32).toInt = 127 from by decide]
  omega
/-- A' is A but that each place j of lo .. hi - 1 holds f j -/
def Laid (A A' : Cell) (lo hi : Nat) (f : Nat → Value) : Prop := A'.cls = A.cls ∧ A'.vm = A.vm ∧ A'.slots.size = A.slots.size ∧ ∀ i, A'.slots[i]? = if lo ≤ i ∧ i < hi then some (f i) else A.slots[i]?
theorem Laid.zero (A : Cell) (lo : Nat) (f : Nat → Value) : Laid A A lo (lo + 0) f := ⟨rfl, rfl, rfl, fun i => by rw [if_neg (by omega)]⟩
theorem Laid.step {A Ak : Cell} {lo k : Nat} {f : Nat → Value} {v : Value} (h : Laid A Ak lo k f) (hlo : lo ≤ k) (hk : k < Ak.slots.size) (hv : v = f k) : Laid A (Ak.setSlot k v) lo (k + 1) f := by
  refine ⟨h.1, h.2.1, by simpa [Cell.setSlot] using h.2.2.1, fun i => ?_⟩
  by_cases e : k = i
  · subst e; rw [Cell.slots_setSlot_self v hk, if_pos (by omega), hv]
  · rw [Cell.slots_setSlot_ne v e, h.2.2.2 i]
    by_cases q : lo ≤ i ∧ i < k
    · rw [if_pos q, if_pos (by omega)]
    · rw [if_neg q, if_neg (by omega)]
def U16 : String := "java/lang/StringUTF16"
namespace Cmp5
def yN : MethodName := ⟨"java/lang/StringUTF16", "compress", "([CI[BII)I"⟩
abbrev yB : ByteArray := jdk_52_method_21_code
theorem d0 : decode yB 0 = .ok (.iconst 0, 1) := by decide +kernel
theorem d1 : decode yB 1 = .ok (.istore 5, 2) := by decide +kernel
theorem d3 : decode yB 3 = .ok (.iload 5, 2) := by decide +kernel
theorem d5 : decode yB 5 = .ok (.iload 4, 2) := by decide +kernel
theorem d7 : decode yB 7 = .ok (.if_icmp (.ge) 37, 3) := by decide +kernel
theorem d10 : decode yB 10 = .ok (.aload_n 0, 1) := by decide +kernel
theorem d11 : decode yB 11 = .ok (.iload_n 1, 1) := by decide +kernel
theorem d12 : decode yB 12 = .ok (.caload, 1) := by decide +kernel
theorem d13 : decode yB 13 = .ok (.istore 6, 2) := by decide +kernel
theorem d15 : decode yB 15 = .ok (.iload 6, 2) := by decide +kernel
theorem d17 : decode yB 17 = .ok (.sipush 255, 3) := by decide +kernel
theorem d20 : decode yB 20 = .ok (.if_icmp (.le) 6, 3) := by decide +kernel
theorem d26 : decode yB 26 = .ok (.aload_n 2, 1) := by decide +kernel
theorem d27 : decode yB 27 = .ok (.iload_n 3, 1) := by decide +kernel
theorem d28 : decode yB 28 = .ok (.iload 6, 2) := by decide +kernel
theorem d30 : decode yB 30 = .ok (.i2b, 1) := by decide +kernel
theorem d31 : decode yB 31 = .ok (.bastore, 1) := by decide +kernel
theorem d32 : decode yB 32 = .ok (.iinc 1 1, 3) := by decide +kernel
theorem d35 : decode yB 35 = .ok (.iinc 3 1, 3) := by decide +kernel
theorem d38 : decode yB 38 = .ok (.iinc 5 1, 3) := by decide +kernel
theorem d41 : decode yB 41 = .ok (.goto (-38), 3) := by decide +kernel
theorem d44 : decode yB 44 = .ok (.iload 4, 2) := by decide +kernel
theorem d46 : decode yB 46 = .ok (.ireturn, 1) := by decide +kernel
def site : List Cond := []
def tab : Cond := tabOf yN yB 7 (some .int) site
def P (b : Addr) (A : Cell) (d : Addr) (B : Cell) (o q len : Nat) (args : Array Value) (s : State) : Prop := args = #[.ref b, .int (Int32.ofNat o), .ref d, .int (Int32.ofNat q), .int (Int32.ofNat len)] ∧ Ch b A s ∧ Arr .byte d B s ∧ b ≠ d ∧ o + len ≤ A.slots.size ∧ q + len ≤ B.slots.size ∧ ∀ i, i < len → ¬ 255 < cv A (o + i)
def E (b : Addr) (A : Cell) (d : Addr) (B : Cell) (o q len : Nat) (r : Option Value) (s u : State) : Prop := r = some (.int (Int32.ofNat len)) ∧ ∃ B', Put d B' s u ∧ Laid B B' q (q + len) (fun j => Value.int (lo8 (cv A (o + (j - q)))))
/-- no char of the range above 255: len; the places written hold each char's low byte -/
theorem law (l : Launch) (b : Addr) (A : Cell) (d : Addr) (B : Cell) (o q len : Nat) : Law l yN 5 5 0 0 yB 7 (some .int) site (P b A d B o q len) (E b A d B o q len) (copyLocs d q len) 0 0 := by
  refine Law.of_walk (plainFor_of_name (by decide +kernel)) (by decide +kernel) (by decide +kernel) (by decide) (fun _ _ h => by rw [h.1]; rfl) (fun _ U U' hal hh h => ⟨h.1, h.2.1.mv hal hh, h.2.2.1.mv hal hh, h.2.2.2⟩) (fun r U U' V V' h1 hal h2 h => ⟨h.1, h.2.elim fun B' q => ⟨B', q.1.mv h1 h2, q.2⟩⟩) ?_
  intro p e s m args below meth c s₁ X0 hexec hbytes hml hret hlk hnm hown hh0 W hP
  obtain ⟨rfl, hA, hB, hne, l1, l2, hp⟩ := hP
  have c1 : Steps p.tables e below (s₁.setTop (entryFrame m #[.ref b, .int (Int32.ofNat o), .ref d, .int (Int32.ofNat q), .int (Int32.ofNat len)] 7)) (s₁.setTop (mkF m 0 #[.val (.ref b), .val (.int (Int32.ofNat o)), .val (.ref d), .val (.int (Int32.ofNat q)), .val (.int (Int32.ofNat len)), .unset, .unset] [])) := entry rfl
  have hA0 := hA.1.mv X0.warmed.alike hh0
  have hB0 := hB.mv X0.warmed.alike hh0
  have a31 := hA.1.2.2.2
  have c2 : Steps p.tables e below (s₁.setTop (entryFrame m #[.ref b, .int (Int32.ofNat o), .ref d, .int (Int32.ofNat q), .int (Int32.ofNat len)] 7)) (s₁.setTop (mkF m 3 #[.val (.ref b), .val (.int (Int32.ofNat o)), .val (.ref d), .val (.int (Int32.ofNat q)), .val (.int (Int32.ofNat len)), .val (.int 0), .unset] [])) := c1.trans (by
    refine iconstV X0.here hexec rfl 0 (hb hbytes d0) (by decide) ?_
    refine XS.istore X0.here hexec rfl (hb hbytes d1) rfl rfl ?_
    exact Steps.refl _)
  have loop : ∀ (r i : Nat), i + r = len → ∀ (z : Slot), (z = .unset ∨ ∃ w, z = .val w ∧ w.category = 1) → ∀ (Tl : State) (Bk : Cell), Stand p l e { frames := 0, locals := 0, cells := 0, slots := 0 } s m #[.ref b, .int (Int32.ofNat o), .ref d, .int (Int32.ofNat q), .int (Int32.ofNat len)] below meth c Tl ([] ++ copyLocs d q i) 0 0 → Put d Bk s₁ Tl → Laid B Bk q (q + i) (fun j => Value.int (lo8 (cv A (o + (j - q))))) →
      Steps p.tables e below (s₁.setTop (entryFrame m #[.ref b, .int (Int32.ofNat o), .ref d, .int (Int32.ofNat q), .int (Int32.ofNat len)] 7)) (Tl.setTop (mkF m 3 #[.val (.ref b), .val (.int (Int32.ofNat (o + i))), .val (.ref d), .val (.int (Int32.ofNat (q + i))), .val (.int (Int32.ofNat len)), .val (.int (Int32.ofNat i)), z] [])) → ∃ (T' : State) (B' : Cell) (z' : Slot), Stand p l e { frames := 0, locals := 0, cells := 0, slots := 0 } s m #[.ref b, .int (Int32.ofNat o), .ref d, .int (Int32.ofNat q), .int (Int32.ofNat len)] below meth c T' ([] ++ copyLocs d q len) 0 0 ∧ Put d B' s₁ T' ∧ Laid B B' q (q + len) (fun j => Value.int (lo8 (cv A (o + (j - q))))) ∧
      Steps p.tables e below (s₁.setTop (entryFrame m #[.ref b, .int (Int32.ofNat o), .ref d, .int (Int32.ofNat q), .int (Int32.ofNat len)] 7)) (T'.setTop (mkF m 3 #[.val (.ref b), .val (.int (Int32.ofNat (o + len))), .val (.ref d), .val (.int (Int32.ofNat (q + len))), .val (.int (Int32.ofNat len)), .val (.int (Int32.ofNat len)), z'] [])) := by
    intro r
    induction r with
    | zero =>
      intro i hi z hz Tl Bk Xl pl fl cl
      have hil : i = len := by omega
      rw [hil] at Xl fl cl
      exact ⟨Tl, Bk, z, Xl, pl, fl, cl⟩
    | succ r ih =>
      intro i hi z hz Tl Bk Xl pl fl cl
      have all := X0.warmed.alike.symm.trans Xl.warmed.alike
      have hAl := hA0.keep all (pl.other hne hA0.1)
      have hBk := hB0.like all pl.1 fl.1 fl.2.1 fl.2.2.1
      have hlt : q + i < Bk.slots.size := by rw [fl.2.2.1]; omega
      have c3 : Steps p.tables e below (s₁.setTop (entryFrame m #[.ref b, .int (Int32.ofNat o), .ref d, .int (Int32.ofNat q), .int (Int32.ofNat len)] 7)) (Tl.setTop (mkF m 12 #[.val (.ref b), .val (.int (Int32.ofNat (o + i))), .val (.ref d), .val (.int (Int32.ofNat (q + i))), .val (.int (Int32.ofNat len)), .val (.int (Int32.ofNat i)), z] [.int (Int32.ofNat (o + i)), .ref b])) := cl.trans (by
        refine XS.iload Xl.here hexec rfl (hb hbytes d3) rfl ?_
        refine XS.iload Xl.here hexec rfl (hb hbytes d5) rfl ?_
        refine XS.icmpNo Xl.here hexec rfl (hb hbytes d7) rfl (ii_ge_f (lt32 (by omega) (by omega))) ?_
        refine XS.aloadN Xl.here hexec rfl (hb hbytes d10) rfl rfl ?_
        refine XS.iloadN Xl.here hexec rfl (hb hbytes d11) rfl ?_
        exact Steps.refl _)
      have c4 : Steps p.tables e below (s₁.setTop (entryFrame m #[.ref b, .int (Int32.ofNat o), .ref d, .int (Int32.ofNat q), .int (Int32.ofNat len)] 7)) (Tl.setTop (mkF m 13 #[.val (.ref b), .val (.int (Int32.ofNat (o + i))), .val (.ref d), .val (.int (Int32.ofNat (q + i))), .val (.int (Int32.ofNat len)), .val (.int (Int32.ofNat i)), z] [.int (cv A (o + i))])) := c3.trans (by
        refine Xl.aget hexec hAl rfl (hA.get (i := o + i) (by omega)) rfl rfl (hb hbytes d12) ?_
        exact Steps.refl _)
      have c5 : Steps p.tables e below (s₁.setTop (entryFrame m #[.ref b, .int (Int32.ofNat o), .ref d, .int (Int32.ofNat q), .int (Int32.ofNat len)] 7)) (Tl.setTop (mkF m 15 #[.val (.ref b), .val (.int (Int32.ofNat (o + i))), .val (.ref d), .val (.int (Int32.ofNat (q + i))), .val (.int (Int32.ofNat len)), .val (.int (Int32.ofNat i)), .val (.int (cv A (o + i)))] [])) := c4.trans (by
        refine XS.istoreS Xl.here hexec rfl (hb hbytes d13) rfl rfl hz ?_
        exact Steps.refl _)
      have c6 : Steps p.tables e below (s₁.setTop (entryFrame m #[.ref b, .int (Int32.ofNat o), .ref d, .int (Int32.ofNat q), .int (Int32.ofNat len)] 7)) (Tl.setTop (mkF m 31 #[.val (.ref b), .val (.int (Int32.ofNat (o + i))), .val (.ref d), .val (.int (Int32.ofNat (q + i))), .val (.int (Int32.ofNat len)), .val (.int (Int32.ofNat i)), .val (.int (cv A (o + i)))] [.int (lo8 (cv A (o + i))), .int (Int32.ofNat (q + i)), .ref d])) := c5.trans (by
        refine XS.iload Xl.here hexec rfl (hb hbytes d15) rfl ?_
        refine sipushV Xl.here hexec rfl 255 (hb hbytes d17) (by decide) ?_
        refine XS.icmpYes Xl.here hexec rfl (pc0 := 20) rfl (hb hbytes d20) rfl (ii_le_t (hp i (by omega))) (by decide) rfl ?_
        refine XS.aloadN Xl.here hexec rfl (hb hbytes d26) rfl rfl ?_
        refine XS.iloadN Xl.here hexec rfl (hb hbytes d27) rfl ?_
        refine XS.iload Xl.here hexec rfl (hb hbytes d28) rfl ?_
        refine i2b Xl.here hexec rfl (hb hbytes d30) rfl ?_
        exact Steps.refl _)
      obtain ⟨T7, X7, p7, st7⟩ := Xl.aput hexec hBk rfl hlt rfl (fits_lo8 (cv A (o + i))) (g := (mkF m 31 #[.val (.ref b), .val (.int (Int32.ofNat (o + i))), .val (.ref d), .val (.int (Int32.ofNat (q + i))), .val (.int (Int32.ofNat len)), .val (.int (Int32.ofNat i)), .val (.int (cv A (o + i)))] [.int (lo8 (cv A (o + i))), .int (Int32.ofNat (q + i)), .ref d])) rfl (rest := []) rfl (hb hbytes d31)
      have c8 : Steps p.tables e below (s₁.setTop (entryFrame m #[.ref b, .int (Int32.ofNat o), .ref d, .int (Int32.ofNat q), .int (Int32.ofNat len)] 7)) (T7.setTop (mkF m 32 #[.val (.ref b), .val (.int (Int32.ofNat (o + i))), .val (.ref d), .val (.int (Int32.ofNat (q + i))), .val (.int (Int32.ofNat len)), .val (.int (Int32.ofNat i)), .val (.int (cv A (o + i)))] [])) := c6.trans (st7 _ (Steps.refl _))
      have c9 : Steps p.tables e below (s₁.setTop (entryFrame m #[.ref b, .int (Int32.ofNat o), .ref d, .int (Int32.ofNat q), .int (Int32.ofNat len)] 7)) (T7.setTop (mkF m 3 #[.val (.ref b), .val (.int (Int32.ofNat (o + i) + 1)), .val (.ref d), .val (.int (Int32.ofNat (q + i) + 1)), .val (.int (Int32.ofNat len)), .val (.int (Int32.ofNat i + 1)), .val (.int (cv A (o + i)))] [])) := c8.trans (by
        refine iincV X7.here hexec rfl 1 (hb hbytes d32) (by decide) rfl rfl ?_
        refine iincV X7.here hexec rfl 1 (hb hbytes d35) (by decide) rfl rfl ?_
        refine iincV X7.here hexec rfl 1 (hb hbytes d38) (by decide) rfl rfl ?_
        refine XS.goto X7.here hexec rfl (pc0 := 41) rfl (hb hbytes d41) (by decide) rfl ?_
        exact Steps.refl _)
      have c10 : Steps p.tables e below (s₁.setTop (entryFrame m #[.ref b, .int (Int32.ofNat o), .ref d, .int (Int32.ofNat q), .int (Int32.ofNat len)] 7)) (T7.setTop (mkF m 3 #[.val (.ref b), .val (.int (Int32.ofNat (o + (i + 1)))), .val (.ref d), .val (.int (Int32.ofNat (q + (i + 1)))), .val (.int (Int32.ofNat len)), .val (.int (Int32.ofNat (i + 1))), .val (.int (cv A (o + i)))] [])) := by
        have := c9
        rw [succ32, succ32, succ32] at this
        exact this
      exact ih (i + 1) (by omega) _ (Or.inr ⟨_, rfl, rfl⟩) T7 _ (by rw [copyLocs_step, ← List.append_assoc]; exact X7) (pl.trans p7) (fl.step (by omega) hlt (by simp)) c10
  obtain ⟨T9, B9, z9, X9, p9, f9, g9⟩ := loop len 0 (by omega) .unset (Or.inl rfl) s₁ B (by simpa [copyLocs] using X0) ⟨hB0.1, fun _ _ => rfl, rfl⟩ (Laid.zero _ _ _) c2
  have c11 : Steps p.tables e below (s₁.setTop (entryFrame m #[.ref b, .int (Int32.ofNat o), .ref d, .int (Int32.ofNat q), .int (Int32.ofNat len)] 7)) (T9.setTop (mkF m 46 #[.val (.ref b), .val (.int (Int32.ofNat (o + len))), .val (.ref d), .val (.int (Int32.ofNat (q + len))), .val (.int (Int32.ofNat len)), .val (.int (Int32.ofNat len)), z9] [.int (Int32.ofNat len)])) := g9.trans (by
    refine XS.iload X9.here hexec rfl (hb hbytes d3) rfl ?_
    refine XS.iload X9.here hexec rfl (hb hbytes d5) rfl ?_
    refine XS.icmpYes X9.here hexec rfl (pc0 := 7) rfl (hb hbytes d7) rfl (ii_ge_t (nlt32 (by omega) (Nat.le_refl _))) (by decide) rfl ?_
    refine XS.iload X9.here hexec rfl (hb hbytes d44) rfl ?_
    exact Steps.refl _)
  exact ⟨T9, some (.int (Int32.ofNat len)), _, _, _, X9, by simp, rfl, rfl, (fun h => by cases h), ⟨rfl, B9, p9.from hh0, f9⟩, fun fs hl => c11.trans (X9.ireturnOut hexec hret rfl (Or.inl rfl) (hb hbytes d46) hl)⟩
end Cmp5
namespace Cmp3
def yN : MethodName := ⟨"java/lang/StringUTF16", "compress", "([CII)[B"⟩
abbrev yB : ByteArray := jdk_52_method_16_code
theorem d0 : decode yB 0 = .ok (.iload_n 2, 1) := by decide +kernel
theorem d1 : decode yB 1 = .ok (.newarray .byte, 2) := by decide +kernel
theorem d3 : decode yB 3 = .ok (.astore_n 3, 1) := by decide +kernel
theorem d4 : decode yB 4 = .ok (.aload_n 0, 1) := by decide +kernel
theorem d5 : decode yB 5 = .ok (.iload_n 1, 1) := by decide +kernel
theorem d6 : decode yB 6 = .ok (.aload_n 3, 1) := by decide +kernel
theorem d7 : decode yB 7 = .ok (.iconst 0, 1) := by decide +kernel
theorem d8 : decode yB 8 = .ok (.iload_n 2, 1) := by decide +kernel
theorem d9 : decode yB 9 = .ok (.invokestatic 115, 3) := by decide +kernel
theorem d12 : decode yB 12 = .ok (.istore 4, 2) := by decide +kernel
theorem d14 : decode yB 14 = .ok (.iload 4, 2) := by decide +kernel
theorem d16 : decode yB 16 = .ok (.iload_n 2, 1) := by decide +kernel
theorem d17 : decode yB 17 = .ok (.if_icmp (.eq) 40, 3) := by decide +kernel
theorem d57 : decode yB 57 = .ok (.aload_n 3, 1) := by decide +kernel
theorem d58 : decode yB 58 = .ok (.areturn, 1) := by decide +kernel
def site : List Cond := [.arrayClass .byte, Cmp5.tab] ++ staticW U16 115 Cmp5.yN
def tab : Cond := tabOf yN yB 6 (some (.array .byte)) site
def P (b : Addr) (A : Cell) (o len : Nat) (args : Array Value) (s : State) : Prop := args = #[.ref b, .int (Int32.ofNat o), .int (Int32.ofNat len)] ∧ Ch b A s ∧ o + len ≤ A.slots.size ∧ len ≤ 536870912 ∧ ∀ i, i < len → ¬ 255 < cv A (o + i)
def E (b : Addr) (A : Cell) (o len : Nat) (r : Option Value) (s u : State) : Prop := NewArr .byte "[B" len (fun j => .int (lo8 (cv A (o + j)))) r s u ∧ u.heap.size = s.heap.size + 1
/-- no char of the range above 255: a new byte[] of their low bytes -/
theorem law (l : Launch) (b : Addr) (A : Cell) (o len : Nat) : Law l yN 3 3 1 18 yB 6 (some (.array .byte)) site (P b A o len) (E b A o len) [] 1 len := by
  refine Law.of_walk (plainFor_of_name (by decide +kernel)) (by decide +kernel) (by decide +kernel) (by decide) (fun _ _ h => by rw [h.1]; rfl) (fun _ U U' hal hh h => ⟨h.1, h.2.1.mv hal hh, h.2.2⟩) (fun r U U' V V' h1 hal h2 h => ⟨NewArr.mv r U U' V V' h1 hal h2 h.1, by rw [h1, h2]; exact h.2⟩) ?_
  intro p e s m args below meth c s₁ X0 hexec hbytes hml hret hlk hnm hown hh0 W hP
  obtain ⟨rfl, hA, l1, l2, hp⟩ := hP
  have a31 := hA.1.2.2.2
  have c1 : Steps p.tables e below (s₁.setTop (entryFrame m #[.ref b, .int (Int32.ofNat o), .int (Int32.ofNat len)] 6)) (s₁.setTop (mkF m 0 #[.val (.ref b), .val (.int (Int32.ofNat o)), .val (.int (Int32.ofNat len)), .unset, .unset, .unset] [])) := entry rfl
  have c2 : Steps p.tables e below (s₁.setTop (entryFrame m #[.ref b, .int (Int32.ofNat o), .int (Int32.ofNat len)] 6)) (s₁.setTop (mkF m 1 #[.val (.ref b), .val (.int (Int32.ofNat o)), .val (.int (Int32.ofNat len)), .unset, .unset, .unset] [.int (Int32.ofNat len)])) := c1.trans (by
    refine XS.iloadN X0.here hexec rfl (hb hbytes d0) rfl ?_
    exact Steps.refl _)
  obtain ⟨T3, B3, X3, ba3, bs3, bv3, bh3, bf3, st3⟩ := X0.anew hexec (atype := .byte) (wk W (.arrayClass .byte)) rfl (by show len * 1 ≤ _; omega) (by omega) (g := (mkF m 1 #[.val (.ref b), .val (.int (Int32.ofNat o)), .val (.int (Int32.ofNat len)), .unset, .unset, .unset] [.int (Int32.ofNat len)])) rfl (hb hbytes d1) (rest := []) rfl (Nat.le_refl _) (by show 0 + len ≤ len; omega)
  rw [hh0] at ba3 st3
  have kp3 : XT.Kept s T3 := (XT.Kept.of_eq hh0).push bh3
  have hA3 := hA.keep X3.warmed.alike (kp3 _ _ hA.1.1)
  have hne : b ≠ s.heap.size := hA.1.ne
  have c4 : Steps p.tables e below (s₁.setTop (entryFrame m #[.ref b, .int (Int32.ofNat o), .int (Int32.ofNat len)] 6)) (T3.setTop (mkF m 3 #[.val (.ref b), .val (.int (Int32.ofNat o)), .val (.int (Int32.ofNat len)), .unset, .unset, .unset] [.ref s.heap.size])) := c2.trans (st3 _ (Steps.refl _))
  have c5 : Steps p.tables e below (s₁.setTop (entryFrame m #[.ref b, .int (Int32.ofNat o), .int (Int32.ofNat len)] 6)) (T3.setTop (mkF m 9 #[.val (.ref b), .val (.int (Int32.ofNat o)), .val (.int (Int32.ofNat len)), .val (.ref s.heap.size), .unset, .unset] [.int (Int32.ofNat len), .int 0, .ref s.heap.size, .int (Int32.ofNat o), .ref b])) := c4.trans (by
    refine XS.astoreN X3.here hexec rfl (hb hbytes d3) rfl rfl rfl ?_
    refine XS.aloadN X3.here hexec rfl (hb hbytes d4) rfl rfl ?_
    refine XS.iloadN X3.here hexec rfl (hb hbytes d5) rfl ?_
    refine XS.aloadN X3.here hexec rfl (hb hbytes d6) rfl rfl ?_
    refine iconstV X3.here hexec rfl 0 (hb hbytes d7) (by decide) ?_
    refine XS.iloadN X3.here hexec rfl (hb hbytes d8) rfl ?_
    exact Steps.refl _)
  obtain ⟨v6, T6, X6, E6, g6⟩ := X3.callS hexec (Cmp5.law l b A s.heap.size B3 o 0 len) hown (wks W (staticW U16 115 Cmp5.yN)) (wk W Cmp5.tab) (W := 0) (Nat.le_of_ble_eq_true rfl) (Nat.le_of_ble_eq_true rfl) (Nat.le_refl _) (by show 0 + len + 0 ≤ len; omega) (g := (mkF m 9 #[.val (.ref b), .val (.int (Int32.ofNat o)), .val (.int (Int32.ofNat len)), .val (.ref s.heap.size), .unset, .unset] [.int (Int32.ofNat len), .int (Int32.ofNat 0), .ref s.heap.size, .int (Int32.ofNat o), .ref b])) rfl (by rw [hml]; rfl) c5 (argsL := [.ref b, .int (Int32.ofNat o), .ref s.heap.size, .int (Int32.ofNat 0), .int (Int32.ofNat len)]) (rest := []) rfl rfl (by show 2 * 0 + 0 ≤ _; decide) (hb hbytes d9) (⟨rfl, hA3, ba3, hne, l1, by rw [bs3]; simp, hp⟩)
  obtain ⟨rfl, B6, p6, f6⟩ := E6
  have c7 : Steps p.tables e below (s₁.setTop (entryFrame m #[.ref b, .int (Int32.ofNat o), .int (Int32.ofNat len)] 6)) (T6.setTop (mkF m 12 #[.val (.ref b), .val (.int (Int32.ofNat o)), .val (.int (Int32.ofNat len)), .val (.ref s.heap.size), .unset, .unset] [.int (Int32.ofNat len)])) := g6
  have c8 : Steps p.tables e below (s₁.setTop (entryFrame m #[.ref b, .int (Int32.ofNat o), .int (Int32.ofNat len)] 6)) (T6.setTop (mkF m 58 #[.val (.ref b), .val (.int (Int32.ofNat o)), .val (.int (Int32.ofNat len)), .val (.ref s.heap.size), .val (.int (Int32.ofNat len)), .unset] [.ref s.heap.size])) := c7.trans (by
    refine XS.istore X6.here hexec rfl (hb hbytes d12) rfl rfl ?_
    refine XS.iload X6.here hexec rfl (hb hbytes d14) rfl ?_
    refine XS.iloadN X6.here hexec rfl (hb hbytes d16) rfl ?_
    refine XS.icmpYes X6.here hexec rfl (pc0 := 17) rfl (hb hbytes d17) rfl (ii_eq_t rfl) (by decide) rfl ?_
    refine XS.aloadN X6.here hexec rfl (hb hbytes d57) rfl rfl ?_
    exact Steps.refl _)
  have X8 := X6.wide (L' := []) (cells' := 1) (slots' := len) (fun x hx hlt => by
    simp only [List.nil_append, copyLocs, List.mem_map, List.mem_range] at hx
    obtain ⟨i, -, rfl⟩ := hx
    exact absurd hlt (Nat.lt_irrefl _)) (Nat.le_refl _) (by omega)
  exact ⟨T6, some (.ref s.heap.size), _, _, _, X8, rfl, rfl, rfl, (fun h => by cases h), ⟨⟨rfl, B6, ba3.like (X3.warmed.alike.symm.trans X6.warmed.alike) p6.1 f6.1 f6.2.1 f6.2.2.1, f6.2.1.trans bv3, by rw [X6.warmed.alike.findClass, f6.1]; exact bf3, by rw [f6.2.2.1, bs3]; simp, fun j hj => by rw [f6.2.2.2 j, if_pos (by omega)]; rfl, kp3.put p6 (Nat.le_refl _)⟩, by rw [p6.2.2, bh3, hh0]; simp⟩, fun fs hl => c8.trans (X8.areturnOut hexec rfl hret rfl (hb hbytes d58) hl)⟩
end Cmp3
namespace CodL
def yN : MethodName := ⟨"java/lang/StringUTF16", "coderFromArrayLen", "([BI)B"⟩
abbrev yB : ByteArray := jdk_52_method_15_code
theorem d0 : decode yB 0 = .ok (.iload_n 1, 1) := by decide +kernel
theorem d1 : decode yB 1 = .ok (.aload_n 0, 1) := by decide +kernel
theorem d2 : decode yB 2 = .ok (.arraylength, 1) := by decide +kernel
theorem d3 : decode yB 3 = .ok (.isub, 1) := by decide +kernel
theorem d4 : decode yB 4 = .ok (.bipush 31, 2) := by decide +kernel
theorem d6 : decode yB 6 = .ok (.iushr, 1) := by decide +kernel
theorem d7 : decode yB 7 = .ok (.i2b, 1) := by decide +kernel
theorem d8 : decode yB 8 = .ok (.ireturn, 1) := by decide +kernel
def site : List Cond := []
def tab : Cond := tabOf yN yB 2 (some .byte) site
def P (d : Addr) (B : Cell) (args : Array Value) (s : State) : Prop := args = #[.ref d, .int (Int32.ofNat B.slots.size)] ∧ Arr .byte d B s
def E (r : Option Value) (s u : State) : Prop := XT.PureE (some (.int 0)) r s u
/-- an array as long as the number of chars: LATIN1 -/
theorem law (l : Launch) (d : Addr) (B : Cell) : Law l yN 2 2 0 0 yB 2 (some .byte) site (P d B) E [] 0 0 := by
  refine Law.of_walk (plainFor_of_name (by decide +kernel)) (by decide +kernel) (by decide +kernel) (by decide) (fun _ _ h => by rw [h.1]; rfl) (fun _ U U' hal hh h => ⟨h.1, h.2.mv hal hh⟩) (fun r U U' V V' h1 hal h2 h => XT.PureE.mv r U U' V V' h1 hal h2 h) ?_
  intro p e s m args below meth c s₁ X0 hexec hbytes hml hret hlk hnm hown hh0 W hP
  obtain ⟨rfl, hB⟩ := hP
  have hB0 := hB.mv X0.warmed.alike hh0
  have c1 : Steps p.tables e below (s₁.setTop (entryFrame m #[.ref d, .int (Int32.ofNat B.slots.size)] 2)) (s₁.setTop (mkF m 0 #[.val (.ref d), .val (.int (Int32.ofNat B.slots.size))] [])) := entry rfl
  have c2 : Steps p.tables e below (s₁.setTop (entryFrame m #[.ref d, .int (Int32.ofNat B.slots.size)] 2)) (s₁.setTop (mkF m 2 #[.val (.ref d), .val (.int (Int32.ofNat B.slots.size))] [.ref d, .int (Int32.ofNat B.slots.size)])) := c1.trans (by
    refine XS.iloadN X0.here hexec rfl (hb hbytes d0) rfl ?_
    refine XS.aloadN X0.here hexec rfl (hb hbytes d1) rfl rfl ?_
    exact Steps.refl _)
  have c3 : Steps p.tables e below (s₁.setTop (entryFrame m #[.ref d, .int (Int32.ofNat B.slots.size)] 2)) (s₁.setTop (mkF m 8 #[.val (.ref d), .val (.int (Int32.ofNat B.slots.size))] [.int (lo8 (ushr (Int32.ofNat B.slots.size - Int32.ofNat B.slots.size) 31))])) := c2.trans (by
    refine X0.alen hexec hB0 rfl rfl (hb hbytes d2) ?_
    refine XS.isub X0.here hexec rfl (hb hbytes d3) rfl ?_
    refine bipushV X0.here hexec rfl 31 (hb hbytes d4) (by decide) ?_
    refine iushr X0.here hexec rfl (hb hbytes d6) rfl ?_
    refine i2b X0.here hexec rfl (hb hbytes d7) rfl ?_
    exact Steps.refl _)
  have e0 : lo8 (ushr (Int32.ofNat B.slots.size - Int32.ofNat B.slots.size) 31) = 0 := by rw [Int32.sub_self]; decide
  rw [e0] at c3
  exact ⟨s₁, some (.int 0), _, _, _, X0, rfl, rfl, rfl, (fun h => by cases h), ⟨rfl, hh0⟩, fun fs hl => c3.trans (X0.ireturnOut hexec hret rfl (Or.inr (Or.inr (Or.inl rfl))) (hb hbytes d8) hl)⟩
end CodL
/-- the String at a is Latin-1 over a new byte[] (the heap's one new cell): the low bytes of the len chars of A from o on; every cell but a is kept -/
def Got (a : Addr) (D : Cell) (fV fC : Field) (A : Cell) (o len : Nat) (r : Option Value) (s u : State) : Prop := r = none ∧ ∃ D' V : Cell, Blank "java/lang/String" a D' u ∧ Same D D' [fV.slot, fC.slot] ∧ D'.slots[fV.slot]? = some (.ref s.heap.size) ∧ D'.slots[fC.slot]? = some (.int 0) ∧ Arr .byte s.heap.size V u ∧ V.vm = .none ∧ u.vm.findClass "[B" = some V.cls ∧ V.slots.size = len ∧ (∀ j, j < len → V.slots[j]? = some (.int (lo8 (cv A (o + j))))) ∧ (∀ (y : Addr) (c : Cell), y ≠ a → s.heap[y]? = some c → u.heap[y]? = some c) ∧ u.heap.size = s.heap.size + 1
theorem Got.mv {a : Addr} {D A : Cell} {fV fC : Field} {o len : Nat} : ∀ r (U U' V V' : State), U'.heap = U.heap → V.vm.Alike V'.vm → V'.heap = V.heap → Got a D fV fC A o len r U V → Got a D fV fC A o len r U' V' :=
  fun r U U' V V' h1 hal h2 ⟨e0, D', X, a1, a2, a3, a4, a5, a6, a7, a8, a9, a10, a11⟩ => ⟨e0, D', X, a1.mv hal h2, a2, by rw [h1]; exact a3, a4, by rw [h1]; exact a5.mv hal h2, a6, by rw [hal.findClass]; exact a7, a8, a9, by rw [h1, h2]; exact a10, by rw [h1, h2]; exact a11⟩
namespace New4
def yN : MethodName := ⟨"java/lang/String", "<init>", "([CIILjava/lang/Void;)V"⟩
abbrev yB : ByteArray := jdk_42_method_149_code
theorem d0 : decode yB 0 = .ok (.aload_n 0, 1) := by decide +kernel
theorem d1 : decode yB 1 = .ok (.invokespecial 1, 3) := by decide +kernel
theorem d4 : decode yB 4 = .ok (.iload_n 3, 1) := by decide +kernel
theorem d5 : decode yB 5 = .ok (.ifCond (.ne) 22, 3) := by decide +kernel
theorem d27 : decode yB 27 = .ok (.getstatic 38, 3) := by decide +kernel
theorem d30 : decode yB 30 = .ok (.ifCond (.eq) 28, 3) := by decide +kernel
theorem d33 : decode yB 33 = .ok (.aload_n 1, 1) := by decide +kernel
theorem d34 : decode yB 34 = .ok (.iload_n 2, 1) := by decide +kernel
theorem d35 : decode yB 35 = .ok (.iload_n 3, 1) := by decide +kernel
theorem d36 : decode yB 36 = .ok (.invokestatic 177, 3) := by decide +kernel
theorem d39 : decode yB 39 = .ok (.astore 5, 2) := by decide +kernel
theorem d41 : decode yB 41 = .ok (.aload_n 0, 1) := by decide +kernel
theorem d42 : decode yB 42 = .ok (.aload 5, 2) := by decide +kernel
theorem d44 : decode yB 44 = .ok (.iload_n 3, 1) := by decide +kernel
theorem d45 : decode yB 45 = .ok (.invokestatic 47, 3) := by decide +kernel
theorem d48 : decode yB 48 = .ok (.putfield 15, 3) := by decide +kernel
theorem d51 : decode yB 51 = .ok (.aload_n 0, 1) := by decide +kernel
theorem d52 : decode yB 52 = .ok (.aload 5, 2) := by decide +kernel
theorem d54 : decode yB 54 = .ok (.putfield 9, 3) := by decide +kernel
theorem d57 : decode yB 57 = .ok (.return_, 1) := by decide +kernel
def site : List Cond := [.fieldLink "java/lang/String" 38 "java/lang/String" "COMPACT_STRINGS" "Z", Cmp3.tab, CodL.tab, .laysFinal "java/lang/String" "java/lang/String" "value" "[B", .fieldLink "java/lang/String" 9 "java/lang/String" "value" "[B", .laysFinal "java/lang/String" "java/lang/String" "coder" "B", .fieldLink "java/lang/String" 15 "java/lang/String" "coder" "B"] ++ objW "java/lang/String" 1 ++ staticW "java/lang/String" 177 Cmp3.yN ++ staticW "java/lang/String" 47 CodL.yN
def tab : Cond := tabOf yN yB 6 none site
def P (a : Addr) (D : Cell) (fV fC : Field) (b : Addr) (A : Cell) (z : Int32) (o len : Nat) (args : Array Value) (s : State) : Prop := args = #[.ref a, .ref b, .int (Int32.ofNat o), .int (Int32.ofNat len), .null] ∧ Blank "java/lang/String" a D s ∧ Found "java/lang/String" "value" "[B" fV s ∧ Found "java/lang/String" "coder" "B" fC s ∧ Ch b A s ∧ StaticIs s "java/lang/String" "COMPACT_STRINGS" "Z" (.int z) ∧ ¬ z = 0 ∧ 0 < len ∧ o + len ≤ A.slots.size ∧ len ≤ 536870912 ∧ ∀ i, i < len → ¬ 255 < cv A (o + i)
def E (a : Addr) (D : Cell) (fV fC : Field) (A : Cell) (o len : Nat) (r : Option Value) (s u : State) : Prop := Got a D fV fC A o len r s u
/-- len > 0, no char of the range above 255: a Latin-1 String of their low bytes -/
theorem law (l : Launch) (a : Addr) (D : Cell) (fV fC : Field) (b : Addr) (A : Cell) (z : Int32) (o len : Nat) : Law l yN 5 4 2 35 yB 6 none site (P a D fV fC b A z o len) (E a D fV fC A o len) [⟨a, fC.slot⟩, ⟨a, fV.slot⟩] 1 len := by
  refine Law.of_walk (plainFor_of_name (by decide +kernel)) (by decide +kernel) (by decide +kernel) (by decide) (fun _ _ h => by rw [h.1]; rfl) (fun _ U U' hal hh h => ⟨h.1, h.2.1.mv hal hh, h.2.2.1.al hal, h.2.2.2.1.al hal, h.2.2.2.2.1.mv hal hh, h.2.2.2.2.2.1.there hal hh, h.2.2.2.2.2.2⟩) (fun r U U' V V' h1 hal h2 h => Got.mv r U U' V V' h1 hal h2 h) ?_
  intro p e s m args below meth c s₁ X0 hexec hbytes hml hret hlk hnm hown hh0 W hP
  obtain ⟨rfl, hB, f1, f2, hA, s1, hz, l0, l1, l2, hp⟩ := hP
  have a31 := hA.1.2.2.2
  have c1 : Steps p.tables e below (s₁.setTop (entryFrame m #[.ref a, .ref b, .int (Int32.ofNat o), .int (Int32.ofNat len), .null] 6)) (s₁.setTop (mkF m 0 #[.val (.ref a), .val (.ref b), .val (.int (Int32.ofNat o)), .val (.int (Int32.ofNat len)), .val .null, .unset] [])) := entry rfl
  have c2 : Steps p.tables e below (s₁.setTop (entryFrame m #[.ref a, .ref b, .int (Int32.ofNat o), .int (Int32.ofNat len), .null] 6)) (s₁.setTop (mkF m 1 #[.val (.ref a), .val (.ref b), .val (.int (Int32.ofNat o)), .val (.int (Int32.ofNat len)), .val .null, .unset] [.ref a])) := c1.trans (by
    refine XS.aloadN X0.here hexec rfl (hb hbytes d0) rfl rfl ?_
    exact Steps.refl _)
  obtain ⟨T3, X3, q3, st3⟩ := X0.oinit hexec hown (wks W (objW "java/lang/String" 1)) (g := (mkF m 1 #[.val (.ref a), .val (.ref b), .val (.int (Int32.ofNat o)), .val (.int (Int32.ofNat len)), .val .null, .unset] [.ref a])) rfl (by rw [hml]; rfl) (rest := []) rfl (hb hbytes d1) (W := 0) (by show 2 * 0 + 0 ≤ _; decide) (Nat.le_of_ble_eq_true rfl) (Nat.le_of_ble_eq_true rfl)
  have hh3 := q3.trans hh0
  have c4 : Steps p.tables e below (s₁.setTop (entryFrame m #[.ref a, .ref b, .int (Int32.ofNat o), .int (Int32.ofNat len), .null] 6)) (T3.setTop (mkF m 27 #[.val (.ref a), .val (.ref b), .val (.int (Int32.ofNat o)), .val (.int (Int32.ofNat len)), .val .null, .unset] [])) := (c2.trans (st3 _ (Steps.refl _))).trans (by
    refine XS.iloadN X3.here hexec rfl (hb hbytes d4) rfl ?_
    refine XS.ifYes X3.here hexec rfl (pc0 := 5) rfl (hb hbytes d5) rfl (i0_ne_t (nz32 (by omega) l0)) (by decide) rfl ?_
    exact Steps.refl _)
  obtain ⟨T5, X5, q5, st5⟩ := X3.sget hexec hown (wk W (.fieldLink "java/lang/String" 38 "java/lang/String" "COMPACT_STRINGS" "Z")) s1 (fun _ _ h => by rw [hh3]; exact h) (g := (mkF m 27 #[.val (.ref a), .val (.ref b), .val (.int (Int32.ofNat o)), .val (.int (Int32.ofNat len)), .val .null, .unset] [])) rfl (hb hbytes d27)
  have hh5 := q5.trans hh3
  have c6 : Steps p.tables e below (s₁.setTop (entryFrame m #[.ref a, .ref b, .int (Int32.ofNat o), .int (Int32.ofNat len), .null] 6)) (T5.setTop (mkF m 30 #[.val (.ref a), .val (.ref b), .val (.int (Int32.ofNat o)), .val (.int (Int32.ofNat len)), .val .null, .unset] [.int z])) := c4.trans (st5 _ (Steps.refl _))
  have c7 : Steps p.tables e below (s₁.setTop (entryFrame m #[.ref a, .ref b, .int (Int32.ofNat o), .int (Int32.ofNat len), .null] 6)) (T5.setTop (mkF m 36 #[.val (.ref a), .val (.ref b), .val (.int (Int32.ofNat o)), .val (.int (Int32.ofNat len)), .val .null, .unset] [.int (Int32.ofNat len), .int (Int32.ofNat o), .ref b])) := c6.trans (by
    refine XS.ifNo X5.here hexec rfl (hb hbytes d30) rfl (i0_eq_f hz) ?_
    refine XS.aloadN X5.here hexec rfl (hb hbytes d33) rfl rfl ?_
    refine XS.iloadN X5.here hexec rfl (hb hbytes d34) rfl ?_
    refine XS.iloadN X5.here hexec rfl (hb hbytes d35) rfl ?_
    exact Steps.refl _)
  obtain ⟨v8, T8, X8, E8, g8⟩ := X5.callS hexec (Cmp3.law l b A o len) hown (wks W (staticW "java/lang/String" 177 Cmp3.yN)) (wk W Cmp3.tab) (W := 0) (Nat.le_of_ble_eq_true rfl) (Nat.le_of_ble_eq_true rfl) (Nat.le_refl _) (by show 0 + len ≤ len; omega) (g := (mkF m 36 #[.val (.ref a), .val (.ref b), .val (.int (Int32.ofNat o)), .val (.int (Int32.ofNat len)), .val .null, .unset] [.int (Int32.ofNat len), .int (Int32.ofNat o), .ref b])) rfl (by rw [hml]; rfl) c7 (argsL := [.ref b, .int (Int32.ofNat o), .int (Int32.ofNat len)]) (rest := []) rfl rfl (by show 2 * 0 + 0 ≤ _; decide) (hb hbytes d36) (⟨rfl, hA.mv X5.warmed.alike hh5, l1, l2, hp⟩)
  obtain ⟨e8, z8⟩ := E8
  obtain ⟨rfl, N, n1, n2, n3, n4, n5, n6⟩ := NewArr.mv _ T5 s _ _ hh5.symm (Vm.Alike.refl _) rfl e8
  rw [hh5] at z8
  have hB1 := hB.keep X8.warmed.alike (n6 _ _ hB.1)
  have hne : s.heap.size ≠ a := (Nat.ne_of_lt (Array.getElem?_eq_some_iff.mp hB.1).1).symm
  have c9 : Steps p.tables e below (s₁.setTop (entryFrame m #[.ref a, .ref b, .int (Int32.ofNat o), .int (Int32.ofNat len), .null] 6)) (T8.setTop (mkF m 39 #[.val (.ref a), .val (.ref b), .val (.int (Int32.ofNat o)), .val (.int (Int32.ofNat len)), .val .null, .unset] [.ref s.heap.size])) := g8
  have c10 : Steps p.tables e below (s₁.setTop (entryFrame m #[.ref a, .ref b, .int (Int32.ofNat o), .int (Int32.ofNat len), .null] 6)) (T8.setTop (mkF m 45 #[.val (.ref a), .val (.ref b), .val (.int (Int32.ofNat o)), .val (.int (Int32.ofNat len)), .val .null, .val (.ref s.heap.size)] [.int (Int32.ofNat N.slots.size), .ref s.heap.size, .ref a])) := by
    have hc : Steps p.tables e below (s₁.setTop (entryFrame m #[.ref a, .ref b, .int (Int32.ofNat o), .int (Int32.ofNat len), .null] 6)) (T8.setTop (mkF m 45 #[.val (.ref a), .val (.ref b), .val (.int (Int32.ofNat o)), .val (.int (Int32.ofNat len)), .val .null, .val (.ref s.heap.size)] [.int (Int32.ofNat len), .ref s.heap.size, .ref a])) := c9.trans (by
      refine XS.astore X8.here hexec rfl (hb hbytes d39) rfl rfl rfl ?_
      refine XS.aloadN X8.here hexec rfl (hb hbytes d41) rfl rfl ?_
      refine XS.aload X8.here hexec rfl (hb hbytes d42) rfl rfl ?_
      refine XS.iloadN X8.here hexec rfl (hb hbytes d44) rfl ?_
      exact Steps.refl _)
    rw [n4]; exact hc
  obtain ⟨v11, T11, X11, E11, g11⟩ := X8.callS hexec (CodL.law l s.heap.size N) hown (wks W (staticW "java/lang/String" 47 CodL.yN)) (wk W CodL.tab) (W := 1) (Nat.le_of_ble_eq_true rfl) (Nat.le_of_ble_eq_true rfl) (Nat.le_refl _) (by show 0 + len + 0 ≤ len; omega) (g := (mkF m 45 #[.val (.ref a), .val (.ref b), .val (.int (Int32.ofNat o)), .val (.int (Int32.ofNat len)), .val .null, .val (.ref s.heap.size)] [.int (Int32.ofNat N.slots.size), .ref s.heap.size, .ref a])) rfl (by rw [hml]; rfl) c10 (argsL := [.ref s.heap.size, .int (Int32.ofNat N.slots.size)]) (rest := [.ref a]) rfl rfl (by show 2 * 0 + (1 + 0) ≤ _; decide) (hb hbytes d45) (⟨rfl, n1⟩)
  obtain ⟨rfl, q11⟩ := E11
  have hB11 := hB1.mv (X8.warmed.alike.symm.trans X11.warmed.alike) q11
  have c12 : Steps p.tables e below (s₁.setTop (entryFrame m #[.ref a, .ref b, .int (Int32.ofNat o), .int (Int32.ofNat len), .null] 6)) (T11.setTop (mkF m 48 #[.val (.ref a), .val (.ref b), .val (.int (Int32.ofNat o)), .val (.int (Int32.ofNat len)), .val .null, .val (.ref s.heap.size)] [.int 0, .ref a])) := g11
  obtain ⟨T13, X13, p13, bl13, sl13, st13⟩ := X11.finit hexec hown (wk W (.fieldLink "java/lang/String" 15 "java/lang/String" "coder" "B")) (Or.inr ⟨_, (wk W (.laysFinal "java/lang/String" "java/lang/String" "coder" "B"))⟩) (Or.inl ⟨rfl, hnm⟩) f2 (Or.inl rfl) hB11 (t := .byte) (by decide +kernel) rfl (g := (mkF m 48 #[.val (.ref a), .val (.ref b), .val (.int (Int32.ofNat o)), .val (.int (Int32.ofNat len)), .val .null, .val (.ref s.heap.size)] [.int 0, .ref a])) rfl (rest := []) rfl (hb hbytes d48)
  have c14 : Steps p.tables e below (s₁.setTop (entryFrame m #[.ref a, .ref b, .int (Int32.ofNat o), .int (Int32.ofNat len), .null] 6)) (T13.setTop (mkF m 54 #[.val (.ref a), .val (.ref b), .val (.int (Int32.ofNat o)), .val (.int (Int32.ofNat len)), .val .null, .val (.ref s.heap.size)] [.ref s.heap.size, .ref a])) := (c12.trans (st13 _ (Steps.refl _))).trans (by
    refine XS.aloadN X13.here hexec rfl (hb hbytes d51) rfl rfl ?_
    refine XS.aload X13.here hexec rfl (hb hbytes d52) rfl rfl ?_
    exact Steps.refl _)
  obtain ⟨T15, X15, p15, bl15, sl15, st15⟩ := X13.finit hexec hown (wk W (.fieldLink "java/lang/String" 9 "java/lang/String" "value" "[B")) (Or.inr ⟨_, (wk W (.laysFinal "java/lang/String" "java/lang/String" "value" "[B"))⟩) (Or.inl ⟨rfl, hnm⟩) f1 (Or.inl rfl) bl13 (t := (.array .byte)) (by decide +kernel) rfl (g := (mkF m 54 #[.val (.ref a), .val (.ref b), .val (.int (Int32.ofNat o)), .val (.int (Int32.ofNat len)), .val .null, .val (.ref s.heap.size)] [.ref s.heap.size, .ref a])) rfl (rest := []) rfl (hb hbytes d54)
  have c16 : Steps p.tables e below (s₁.setTop (entryFrame m #[.ref a, .ref b, .int (Int32.ofNat o), .int (Int32.ofNat len), .null] 6)) (T15.setTop (mkF m 57 #[.val (.ref a), .val (.ref b), .val (.int (Int32.ofNat o)), .val (.int (Int32.ofNat len)), .val .null, .val (.ref s.heap.size)] [])) := c14.trans (st15 _ (Steps.refl _))
  have ap := apart (Or.inr ⟨_, (wk W (.laysFinal "java/lang/String" "java/lang/String" "value" "[B"))⟩) (Or.inr ⟨_, (wk W (.laysFinal "java/lang/String" "java/lang/String" "coder" "B"))⟩) f1 f2 (t₁ := .array .byte) (t₂ := .byte) (by decide +kernel) (by decide +kernel) (by decide)
  have al := X8.warmed.alike.symm.trans X15.warmed.alike
  have n7 : T11.heap[s.heap.size]? = some N := by rw [q11]; exact n1.1
  exact ⟨T15, none, _, _, _, X15, by simp, rfl, by omega, (fun _ => rfl), ⟨rfl, _, N, bl15, ((Same.refl D _).set _ (by simp)).set _ (by simp), sl15, (Cell.slots_setSlot_ne _ ap).trans sl13, n1.keep al (p15.other hne (p13.other hne n7)), n2, by rw [al.findClass]; exact n3, n4, n5, fun y c h1 h2 => p15.other h1 (p13.other h1 (by rw [q11]; exact n6 y c h2)), by rw [p15.2.2, p13.2.2, q11]; exact z8⟩, fun fs hl => c16.trans (X15.returnOut hexec hret (hb hbytes d57) hl)⟩
end New4
namespace New1
def yN : MethodName := ⟨"java/lang/String", "<init>", "([C)V"⟩
abbrev yB : ByteArray := jdk_42_method_3_code
theorem d0 : decode yB 0 = .ok (.aload_n 0, 1) := by decide +kernel
theorem d1 : decode yB 1 = .ok (.aload_n 1, 1) := by decide +kernel
theorem d2 : decode yB 2 = .ok (.iconst 0, 1) := by decide +kernel
theorem d3 : decode yB 3 = .ok (.aload_n 1, 1) := by decide +kernel
theorem d4 : decode yB 4 = .ok (.arraylength, 1) := by decide +kernel
theorem d5 : decode yB 5 = .ok (.aconst_null, 1) := by decide +kernel
theorem d6 : decode yB 6 = .ok (.invokespecial 27, 3) := by decide +kernel
theorem d9 : decode yB 9 = .ok (.return_, 1) := by decide +kernel
def site : List Cond := [New4.tab] ++ initW "java/lang/String" 27 New4.yN
def tab : Cond := tabOf yN yB 2 none site
def P (a : Addr) (D : Cell) (fV fC : Field) (b : Addr) (A : Cell) (z : Int32) (args : Array Value) (s : State) : Prop := args = #[.ref a, .ref b] ∧ Blank "java/lang/String" a D s ∧ Found "java/lang/String" "value" "[B" fV s ∧ Found "java/lang/String" "coder" "B" fC s ∧ Ch b A s ∧ StaticIs s "java/lang/String" "COMPACT_STRINGS" "Z" (.int z) ∧ ¬ z = 0 ∧ 0 < A.slots.size ∧ A.slots.size ≤ 536870912 ∧ ∀ i, i < A.slots.size → ¬ 255 < cv A i
def E (a : Addr) (D : Cell) (fV fC : Field) (A : Cell) (r : Option Value) (s u : State) : Prop := Got a D fV fC A 0 A.slots.size r s u
/-- new String(chars), not empty, no char above 255: a Latin-1 String of their low bytes -/
theorem law (l : Launch) (a : Addr) (D : Cell) (fV fC : Field) (b : Addr) (A : Cell) (z : Int32) : Law l yN 2 1 3 52 yB 2 none site (P a D fV fC b A z) (E a D fV fC A) [⟨a, fC.slot⟩, ⟨a, fV.slot⟩] 1 A.slots.size := by
  refine Law.of_walk (plainFor_of_name (by decide +kernel)) (by decide +kernel) (by decide +kernel) (by decide) (fun _ _ h => by rw [h.1]; rfl) (fun _ U U' hal hh h => ⟨h.1, h.2.1.mv hal hh, h.2.2.1.al hal, h.2.2.2.1.al hal, h.2.2.2.2.1.mv hal hh, h.2.2.2.2.2.1.there hal hh, h.2.2.2.2.2.2⟩) (fun r U U' V V' h1 hal h2 h => Got.mv r U U' V V' h1 hal h2 h) ?_
  intro p e s m args below meth c s₁ X0 hexec hbytes hml hret hlk hnm hown hh0 W hP
  obtain ⟨rfl, hB, f1, f2, hA, s1, hz, l0, l2, hp⟩ := hP
  have c1 : Steps p.tables e below (s₁.setTop (entryFrame m #[.ref a, .ref b] 2)) (s₁.setTop (mkF m 0 #[.val (.ref a), .val (.ref b)] [])) := entry rfl
  have c2 : Steps p.tables e below (s₁.setTop (entryFrame m #[.ref a, .ref b] 2)) (s₁.setTop (mkF m 6 #[.val (.ref a), .val (.ref b)] [.null, .int (Int32.ofNat A.slots.size), .int 0, .ref b, .ref a])) := c1.trans (by
    refine XS.aloadN X0.here hexec rfl (hb hbytes d0) rfl rfl ?_
    refine XS.aloadN X0.here hexec rfl (hb hbytes d1) rfl rfl ?_
    refine iconstV X0.here hexec rfl 0 (hb hbytes d2) (by decide) ?_
    refine XS.aloadN X0.here hexec rfl (hb hbytes d3) rfl rfl ?_
    refine X0.alen hexec (hA.1.mv X0.warmed.alike hh0) rfl rfl (hb hbytes d4) ?_
    refine XS.aconstNull X0.here hexec rfl (hb hbytes d5) ?_
    exact Steps.refl _)
  obtain ⟨v3, T3, X3, E3, g3⟩ := X0.callN hexec (New4.law l a D fV fC b A z 0 A.slots.size) rfl hown (wks W (initW "java/lang/String" 27 New4.yN)) (W New4.tab (by simp only [site, List.mem_cons, List.mem_append, true_or, or_true])) (W := 0) (Nat.le_of_ble_eq_true rfl) (Nat.le_of_ble_eq_true rfl) (Nat.le_refl _) (by show 0 + A.slots.size ≤ A.slots.size; omega) (g := (mkF m 6 #[.val (.ref a), .val (.ref b)] [.null, .int (Int32.ofNat A.slots.size), .int (Int32.ofNat 0), .ref b, .ref a])) rfl (by rw [hml]; rfl) c2 (argsL := [.ref b, .int (Int32.ofNat 0), .int (Int32.ofNat A.slots.size), .null]) (rest := []) rfl rfl (by show 2 * 0 + 0 ≤ _; decide) (hb hbytes d6) (⟨rfl, hB.mv X0.warmed.alike hh0, f1.al X0.warmed.alike, f2.al X0.warmed.alike, hA.mv X0.warmed.alike hh0, s1.there X0.warmed.alike hh0, hz, l0, by omega, l2, fun i hi => by rw [Nat.zero_add]; exact hp i hi⟩)
  have e0 := Got.mv _ s₁ s _ _ hh0.symm (Vm.Alike.refl _) rfl E3
  obtain rfl := e0.1
  have c4 : Steps p.tables e below (s₁.setTop (entryFrame m #[.ref a, .ref b] 2)) (T3.setTop (mkF m 9 #[.val (.ref a), .val (.ref b)] [])) := g3
  exact ⟨T3, none, _, _, _, X3, by simp, rfl, by omega, (fun _ => rfl), e0, fun fs hl => c4.trans (X3.returnOut hexec hret (hb hbytes d9) hl)⟩
theorem pays {l : Launch} {R : Room} {p : Program} {e : Env} {below : List Frame} {s : State} {sargs : Array Value} {len W : Nat} (a : Addr) (D : Cell) (fV fC : Field) (b : Addr) (A : Cell) (z : Int32) (htab : tab.before sargs s = true) (hfr : 4 ≤ R.frames) (hlo : W + 65 ≤ R.locals) :
    Back l R p e below s sargs yN len W (fun A₁ a₁ => A₁.cells + 1 ≤ R.cells ∧ A₁.slots + A.slots.size ≤ R.slots ∧ P a D fV fC b A z a₁ A₁.U) (fun A₁ _ v₁ B₁ => E a D fV fC A v₁ A₁.U B₁.U ∧ B₁.locs = A₁.locs ++ [⟨a, fC.slot⟩, ⟨a, fV.slot⟩] ∧ B₁.cells = A₁.cells + 1 ∧ B₁.slots = A₁.slots + A.slots.size) :=
  (law l a D fV fC b A z).pays htab hfr (by omega)
end New1
/-- the byte, read back as charAt reads it, is the char -/
theorem lo8_mask {x : Int32} (h0 : ¬ x < 0) (h1 : ¬ 255 < x) : lo8 x &&& 255 = x := by
  have t : ∀ k : Fin 256, lo8 (Int32.ofNat k.val) &&& 255 = Int32.ofNat k.val := by decide +kernel
  rw [Int32.lt_iff_toInt_lt] at h0 h1
  have e0 : (0 : Int32).toInt = 0 := rfl
  have e1 : (255 : Int32).toInt = 255 := rfl
  obtain ⟨k, hk⟩ : ∃ k : Nat, x.toInt = k := ⟨x.toInt.toNat, by omega⟩
  have hx : x = Int32.ofNat k := Int32.toInt_inj.mp (by rw [hk, Int32.toInt_ofNat_small (by omega)])
  rw [hx]
  exact t ⟨k, by omega⟩
end StrChars
namespace StrChars.Road
open Jvm Sem ClassFile Op Lib Jvm.Stand Jvm.Free Jvm.Free.XT
open Jvm.Lib.Cold (StaticIs)
abbrev ST : String := "java/lang/String"
/-- every table word that New1's law asks, flat -/
abbrev words : List Jvm.Cond := [.code New1.yN New1.yB 2 none, .initialized ST, .methodLink ST 27 New4.yN, .instanceMethod New4.yN,
  .code New4.yN New4.yB 6 none, .fieldLink ST 38 ST "COMPACT_STRINGS" "Z", .laysFinal ST ST "value" "[B", .fieldLink ST 9 ST "value" "[B", .laysFinal ST ST "coder" "B", .fieldLink ST 15 ST "coder" "B",
  .methodLink ST 1 Lib.objectInit, .instanceMethod Lib.objectInit, .code Lib.objectInit ⟨#[0xb1]⟩ 1 none, .methodLink ST 177 Cmp3.yN, .static Cmp3.yN, .methodLink ST 47 CodL.yN, .static CodL.yN,
  .code Cmp3.yN Cmp3.yB 6 (some (.array .byte)), .initialized U16, .arrayClass .byte, .methodLink U16 115 Cmp5.yN, .static Cmp5.yN, .code Cmp5.yN Cmp5.yB 7 (some .int), .code CodL.yN CodL.yB 2 (some .byte)]
theorem tab_of {a : Array Value} {s : State} (h : ∀ w ∈ words, w.before a s = true) : New1.tab.before a s = true := by
  have h5 : Cmp5.tab.before a s = true := unparts (wk h (.code Cmp5.yN Cmp5.yB 7 (some .int))) (wks h (.initialized Cmp5.yN.cls :: Cmp5.site))
  have hc : CodL.tab.before a s = true := unparts (wk h (.code CodL.yN CodL.yB 2 (some .byte))) (wks h (.initialized CodL.yN.cls :: CodL.site))
  have q5 : ∀ w ∈ Cmp5.tab :: words, w.before a s = true := fun w hw => (List.mem_cons.mp hw).elim (fun e => e ▸ h5) (h w)
  have h3 : Cmp3.tab.before a s = true := unparts (wk q5 (.code Cmp3.yN Cmp3.yB 6 (some (.array .byte)))) (wks q5 (.initialized Cmp3.yN.cls :: Cmp3.site))
  have q3 : ∀ w ∈ Cmp3.tab :: CodL.tab :: words, w.before a s = true := fun w hw => (List.mem_cons.mp hw).elim (fun e => e ▸ h3) fun hw => (List.mem_cons.mp hw).elim (fun e => e ▸ hc) (h w)
  have h4 : New4.tab.before a s = true := unparts (wk q3 (.code New4.yN New4.yB 6 none)) (wks q3 (.initialized New4.yN.cls :: New4.site))
  have q4 : ∀ w ∈ New4.tab :: words, w.before a s = true := fun w hw => (List.mem_cons.mp hw).elim (fun e => e ▸ h4) (h w)
  exact unparts (wk q4 (.code New1.yN New1.yB 2 none)) (wks q4 (.initialized New1.yN.cls :: New1.site))
/-- the words ride from the start Z to the walk's own state -/
theorem moved {Z s : State} {a0 args : Array Value} (hZ : Z.Warmed39 s.vm) (hw : ∀ d ∈ words, d.before a0 Z = true) : ∀ d ∈ words, d.before args s = true := fun d hd => by
  have q := hw d hd
  have t : ∀ d ∈ words, d = .arrayClass .byte ∨ (d.onTables && d.keepsFace) = true := by decide +kernel
  rcases t d hd with rfl | t
  · exact RoadKit.mvA hZ q
  · exact RoadKit.mv hZ q t
/-- WHAT COMES BACK, over the tables of the start Z: h the heap at the call, h' behind it -/
def Q (Z : State) (x : Addr) (A : Cell) (h : Heap) (v : Option Value) (h' : Heap) (L : List Loc) : Prop := v = none ∧ (∀ y ∈ L, y.base = x) ∧ RoadKit.Keep h h' [x] ∧ h'.size = h.size + 1 ∧ RoadKit.Exa Z h' x ST ∧ RoadKit.Fld Z h' x ST "value" "[B" (.ref h.size) ∧ RoadKit.Fld Z h' x ST "coder" "B" (.int 0) ∧
  (∃ V : Cell, RoadKit.Arr Z h' h.size V .byte ∧ V.vm = .none ∧ Z.vm.findClass "[B" = some V.cls ∧ V.slots.size = A.slots.size ∧ ∀ j, j < A.slots.size → V.slots[j]? = some (.int (lo8 (cv A j)))) ∧
  ∀ (O n d : String) (w : Value), RoadKit.Fld Z h x O n d w → RoadKit.slotOf Z O n d ≠ RoadKit.slotOf Z ST "value" "[B" → RoadKit.slotOf Z O n d ≠ RoadKit.slotOf Z ST "coder" "B" → RoadKit.Fld Z h' x O n d w
/-- **new String(chars) AT A CALL, IN THE ROAD'S FORM**: for specialBack behind newO: x the fresh String, b the char[] with the cell A -/
theorem back {p : Program} {l : Launch} {e : Env} {R : Room} {s : State} {args : Array Value} {below : List Frame} {len W : Nat} {Z : State} {a0 : Array Value} {h : Heap} (hZ : Z.Warmed39 s.vm) (hw : ∀ d ∈ words, d.before a0 Z = true) {kI : Nat} (wi : (Jvm.Cond.instantiable ST kI).before a0 Z = true)
    {x b : Addr} {A : Cell} {z : Int32} {v0 c0 : Value} (E : RoadKit.Exa Z h x ST) (V : RoadKit.Fld Z h x ST "value" "[B" v0) (C : RoadKit.Fld Z h x ST "coder" "B" c0) (K : RoadKit.Arr Z h b A .char) (hty : Typed .char A) (S : RoadKit.Sta Z h ST "COMPACT_STRINGS" "Z" (.int z)) (hz : ¬ z = 0)
    (l0 : 0 < A.slots.size) (l2 : A.slots.size ≤ 536870912) (hp : ∀ i, i < A.slots.size → ¬ 255 < cv A i) (hfr : 4 ≤ R.frames) (hlo : W + 65 ≤ R.locals) :
    Back l R p e below s args New1.yN len W (fun P a => a = #[.ref x, .ref b] ∧ P.U.heap = h ∧ P.cells + 1 ≤ R.cells ∧ P.slots + A.slots.size ≤ R.slots)
      (fun P _ v B => ∃ L, Q Z x A h v B.U.heap L ∧ B.locs = P.locs ++ L ∧ B.cells = P.cells + 1 ∧ B.slots = P.slots + A.slots.size) := by
  intro m meth c P g ig mk a X hg hsize hdg hW hn hp'
  obtain ⟨rfl, rfl, r1, r2⟩ := hp'
  have al : Z.vm.Alike P.U.vm := hZ.alike.trans X.warmed.alike
  obtain ⟨D, cfV, kV, iV, fV, hD, gV, stV, knV, obV, asV, slV⟩ := id V
  obtain ⟨D', cfC, kC, iC, fC, hD', gC, stC, -, -, asC, slC⟩ := id C
  cases hD.symm.trans hD'
  obtain ⟨D2, kD, e1, e2, e3, e4, e5⟩ := id E
  cases hD.symm.trans e1
  obtain ⟨c2, k2, i1, i2, i3, -⟩ := Cond.instantiable_spec wi
  cases e2.symm.trans i1
  cases e3.symm.trans i2
  obtain ⟨kU, u1, u2⟩ := al.2.2 _ _ e3
  have hB : Blank ST x D P.U := ⟨hD, ⟨knV, fun q hq => by rw [hq] at obV; cases obV⟩, by rw [al.findClass]; exact e2, kU, u1, by rw [u2]; exact i3, by rw [u2]; exact e5 i3⟩
  have F1 : Found ST "value" "[B" fV P.U := ⟨SBG.found_only al ⟨cfV, kV, iV, gV⟩, stV⟩
  have F2 : Found ST "coder" "B" fC P.U := ⟨SBG.found_only al ⟨cfC, kC, iC, gC⟩, stC⟩
  have hA : Ch b A P.U := ⟨⟨K.1, State.isArrayOf_alike al K.2.1, K.2.2, by omega⟩, hty⟩
  have hS : StaticIs P.U ST "COMPACT_STRINGS" "Z" (.int z) := by
    obtain ⟨cfS, iS, kS, fS, st, cS, t1, t2, t3, t4, t5, t6, t7⟩ := S
    exact StaticIs.there (s := { Z with heap := P.U.heap }) ⟨cfS, iS, kS, fS, st, cS, t1, t2, t3, t4, t5, (fun q => by rw [q] at t6; cases t6), t7⟩ al rfl
  obtain ⟨v, B, X', ⟨⟨hv, E', V', q1, q2, q3, q4, q5, q6, q7, q8, q9, q10, q11⟩, hl, hc, hs⟩, st⟩ := New1.pays x D fV fC b A z (tab_of (moved hZ hw)) hfr hlo m meth c P g ig mk _ X hg hsize hdg hW hn ⟨r1, r2, rfl, hB, F1, F2, hA, hS, hz, l0, l2, hp⟩
  have al' : Z.vm.Alike B.U.vm := hZ.alike.trans X'.warmed.alike
  have hsz : E'.slots.size = D.slots.size := by
    obtain ⟨-, -, -, kB, w1, w2, w3⟩ := q1
    obtain ⟨kB', y1, y2⟩ := al'.2.2 _ _ e3
    rw [q2.2.1] at w1
    cases w1.symm.trans y1
    rw [w3, e5 i3, y2]
  refine ⟨v, B, X', ⟨_, ⟨hv, ?_, ⟨by omega, fun y cy hy hn' => q10 y cy (by simpa using hn') hy, fun y cy hy => ?_⟩, q11, ⟨E', _, q1.1, by rw [q2.2.1]; exact e2, by rw [q2.2.1]; exact e3, by rw [q2.1]; exact obV, fun _ => by rw [hsz]; exact e5 i3⟩,
    ⟨E', cfV, kV, iV, fV, q1.1, gV, stV, by rw [q2.1]; exact knV, by rw [q2.1]; exact obV, by rw [q2.2.1]; exact asV, q3⟩, ⟨E', cfC, kC, iC, fC, q1.1, gC, stC, by rw [q2.1]; exact knV, by rw [q2.1]; exact obV, by rw [q2.2.1]; exact asC, q4⟩,
    ⟨V', ⟨q5.1, State.isArrayOf_alike al'.symm q5.2.1, q5.2.2.1⟩, q6, by rw [← al'.findClass]; exact q7, q8, fun j hj => by have := q9 j hj; rwa [Nat.zero_add] at this⟩, fun O n d w F n1 n2 => ?_⟩, hl, hc, hs⟩, st⟩
  · intro y hy
    simp only [List.mem_cons, List.not_mem_nil, or_false] at hy
    rcases hy with rfl | rfl <;> rfl
  · by_cases q : y = x
    · subst q
      cases hD.symm.trans hy
      exact ⟨E', q1.1, q2.2.1, q2.1, hsz⟩
    · exact ⟨cy, q10 y cy q hy, rfl, rfl, rfl⟩
  · obtain ⟨D3, cf, k, i, f, g1, g2, g3, g4, g5, g6, g7⟩ := F
    cases hD.symm.trans g1
    simp only [RoadKit.slotOf, g2, gV, gC, Option.map_some, Option.getD_some] at n1 n2
    exact ⟨E', cf, k, i, f, q1.1, g2, g3, by rw [q2.1]; exact g4, by rw [q2.1]; exact g5, by rw [q2.2.1]; exact g6, by rw [q2.2.2 f.slot (by simp [n1, n2])]; exact g7⟩
end StrChars.Road
namespace StrChars.Road
open Jvm Sem ClassFile Op Lib Jvm.Stand Jvm.Free Jvm.Free.XT
/-- WHAT COMES BACK, the byte[] as a list of values -/
def QA (Z : State) (x : Addr) (zn : Int32) (cs : List Int32) (h : Heap) (v : Option Value) (h' : Heap) (L : List Loc) : Prop := v = none ∧ (∀ y ∈ L, y.base = x) ∧ RoadKit.Keep h h' [x] ∧ h'.size = h.size + 1 ∧ RoadKit.Exa Z h' x ST ∧ RoadKit.Fld Z h' x ST "value" "[B" (.ref h.size) ∧ RoadKit.Fld Z h' x ST "coder" "B" (.int 0) ∧
  (∃ kb, Z.vm.findClass "[B" = some kb ∧ RoadKit.Arv Z h' h.size kb .byte zn (cs.map fun c => .int (lo8 c)) (.int 0)) ∧
  ∀ (O n d : String) (w : Value), RoadKit.Fld Z h x O n d w → RoadKit.slotOf Z O n d ≠ RoadKit.slotOf Z ST "value" "[B" → RoadKit.slotOf Z O n d ≠ RoadKit.slotOf Z ST "coder" "B" → RoadKit.Fld Z h' x O n d w
/-- **new String(chars) AT A CALL, THE ARRAYS AS LISTS**: the char[] at b holds cs, not empty, no char above 255 -/
theorem backArv {p : Program} {l : Launch} {e : Env} {R : Room} {s : State} {args : Array Value} {below : List Frame} {len W : Nat} {Z : State} {a0 : Array Value} {h : Heap} (hZ : Z.Warmed39 s.vm) (hw : ∀ d ∈ words, d.before a0 Z = true) {kI : Nat} (wi : (Jvm.Cond.instantiable ST kI).before a0 Z = true)
    {x b : Addr} {k : ClassId} {zn z : Int32} {cs : List Int32} {dv v0 c0 : Value} (E : RoadKit.Exa Z h x ST) (V : RoadKit.Fld Z h x ST "value" "[B" v0) (C : RoadKit.Fld Z h x ST "coder" "B" c0) (K : RoadKit.Arv Z h b k .char zn (cs.map Value.int) dv) (S : RoadKit.Sta Z h ST "COMPACT_STRINGS" "Z" (.int z)) (hz : ¬ z = 0)
    (hlen : zn.toNatClampNeg = cs.length) (h0 : 0 < cs.length) (hbig : cs.length ≤ 536870912) (hall : ∀ c ∈ cs, ¬ 255 < c) (hfr : 4 ≤ R.frames) (hlo : W + 65 ≤ R.locals) :
    Back l R p e below s args New1.yN len W (fun P a => a = #[.ref x, .ref b] ∧ P.U.heap = h ∧ P.cells + 1 ≤ R.cells ∧ P.slots + cs.length ≤ R.slots)
      (fun P _ v B => ∃ L, QA Z x zn cs h v B.U.heap L ∧ B.locs = P.locs ++ L ∧ B.cells = P.cells + 1 ∧ B.slots = P.slots + cs.length) := by
  obtain ⟨A, K1, K2, K3, K4, K5, K6⟩ := K
  have e : A.slots.size = cs.length := K3.trans hlen
  have hat : ∀ (i : Nat) (hi : i < cs.length), A.slots[i]? = some (.int cs[i]) := fun i hi => by rw [K5 i (by omega)]; simp [List.getD_eq_getElem?_getD, hi]
  have hcv : ∀ (i : Nat) (hi : i < cs.length), cv A i = cs[i] := fun i hi => by unfold cv; rw [hat i hi]
  have hty : Typed .char A := fun i v hv => by
    have hi : i < A.slots.size := (Array.getElem?_eq_some_iff.mp hv).1
    have q := K5 i hi
    rw [hv] at q
    rw [Option.some.inj q]
    exact K6 i hi
  refine Back.mono (back hZ hw wi E V C K1 hty S hz (by omega) (by omega) (fun i hi => by rw [hcv i (by omega)]; exact hall _ (List.getElem_mem _)) hfr hlo) (fun P a hp => ⟨hp.1, hp.2.1, hp.2.2.1, by rw [e]; exact hp.2.2.2⟩) (fun P a v B hp hq => ?_)
  obtain ⟨L, ⟨q1, q2, q3, q4, q5, q6, q7, ⟨V', v1, v2, v3, v4, v5⟩, q9⟩, hl, hc, hs⟩ := hq
  refine ⟨L, ⟨q1, q2, q3, q4, q5, q6, q7, ⟨V'.cls, v3, V', v1, rfl, by rw [v4, e, hlen], K4, fun i hi => ?_, fun i hi => ?_⟩, q9⟩, hl, hc, by rw [hs, e]⟩
  · have hi' : i < cs.length := by omega
    rw [v5 i (by omega), hcv i hi']; simp [List.getD_eq_getElem?_getD, hi']
  · have hi' : i < cs.length := by omega
    simp only [List.getD_eq_getElem?_getD, List.getElem?_map, List.getElem?_eq_getElem hi', Option.map_some, Option.getD_some]
    exact fits_lo8 _
end StrChars.Road
namespace StrChars.Road
open Jvm Sem ClassFile Op Lib Jvm.Stand Jvm.Free Jvm.Free.XT
/-- WHAT COMES BACK, in the writer's own shape -/
def QV (Z : State) (x : Addr) (N : Int32) (bs : List Int32) (h : Heap) (n0 : Nat) (v : Option Value) (h' : Heap) (L : List Loc) : Prop := v = none ∧ RoadKit.Fr n0 L ∧ RoadKit.Keep h h' [x] ∧ RoadKit.Exa Z h' x ST ∧ RoadKit.Fld Z h' x ST "coder" "B" (.int 0) ∧
  ∃ (t : Addr) (kb : ClassId), n0 ≤ t ∧ h.size ≤ t ∧ ¬ t = x ∧ RoadKit.Fld Z h' x ST "value" "[B" (.ref t) ∧ RoadKit.Arv Z h' t kb .byte N (bs.map Value.int) (.int 0)
/-- **new String(chars) AT A CALL, FOR THE WRITER**: a char[] of n known ints, each 0 to 255 -/
theorem backV {p : Program} {l : Launch} {e : Env} {R : Room} {s : State} {args : Array Value} {below : List Frame} {len W : Nat} {Z : State} {a0 : Array Value} {h : Heap} (hZ : Z.Warmed39 s.vm) (hw : ∀ d ∈ words, d.before a0 Z = true) {kI : Nat} (wi : (Jvm.Cond.instantiable ST kI).before a0 Z = true)
    {x b : Addr} {kC : ClassId} {cs bs : List Int32} {d v0 c0 : Value} {z N : Int32} {n n0 : Nat} (hx0 : n0 ≤ x) (hh0 : n0 ≤ h.size) (E : RoadKit.Exa Z h x ST) (V : RoadKit.Fld Z h x ST "value" "[B" v0) (C : RoadKit.Fld Z h x ST "coder" "B" c0) (K : RoadKit.Arv Z h b kC .char N (cs.map Value.int) d) (S : RoadKit.Sta Z h ST "COMPACT_STRINGS" "Z" (.int z)) (hz : ¬ z = 0)
    (hn : cs.length = n) (hN : N = Int32.ofNat n) (l0 : 0 < n) (l2 : n ≤ 4000) (hp : ∀ c ∈ cs, ¬ c < 0 ∧ ¬ (255 : Int32) < c) (hb : bs = cs.map (fun c => c.toInt8.toInt32)) (hfr : 4 ≤ R.frames) (hlo : W + 65 ≤ R.locals) :
    Back l R p e below s args (⟨"java/lang/String", "<init>", "([C)V"⟩ : MethodName) len W (fun P a => a = #[.ref x, .ref b] ∧ P.U.heap = h ∧ P.cells + 1 ≤ R.cells ∧ P.slots + n ≤ R.slots)
      (fun P _ v B => ∃ L, QV Z x N bs h n0 v B.U.heap L ∧ B.locs = P.locs ++ L ∧ B.cells = P.cells + 1 ∧ B.slots = P.slots + n) := by
  subst hn hN hb
  refine Back.mono (backArv hZ hw wi E V C K S hz (n32 (by omega)) l0 (by omega) (fun c hc => (hp c hc).2) hfr hlo) (fun P a hp => hp) (fun P a v B hp hq => ?_)
  obtain ⟨L, ⟨q1, q2, q3, q4, q5, q6, q7, ⟨kb, v1, v2⟩, q9⟩, hl, hc, hs⟩ := hq
  exact ⟨L, ⟨q1, fun y hy => by rw [q2 y hy]; exact hx0, q3, q5, q7, h.size, kb, hh0, Nat.le_refl _, Nat.ne_of_gt E.lt, q6, by rw [List.map_map]; exact v2⟩, hl, hc, hs⟩
end StrChars.Road
namespace StrChars
open Jvm Sem ClassFile Op Lib Jvm.Stand Jvm.Free.XT Jvm.Free.ALB Jvm.Free.JM Jvm.Free
open Jvm.Lib.Cold (StaticIs)
def hi8 (x : Int32) : Int32 := lo8 (x >>> ((8 : Int32) &&& 31))
/-- what StringUTF16.getChar makes of two bytes -/
def pairCh (u v : Int32) : Int32 := (((u &&& 255) <<< ((0 : Int32) &&& 31)) ||| ((v &&& 255) <<< ((8 : Int32) &&& 31))).toUInt32.toUInt16.toUInt32.toInt32
theorem lo8_and (x : Int32) : (lo8 x &&& 255).toBitVec.toNat = x.toBitVec.toNat % 256 := by
  have h : (lo8 x).toBitVec = (x.toBitVec.signExtend 8).signExtend 32 := by rw [lo8, Int8.toBitVec_toInt32, Int32.toBitVec_toInt8]
  rw [Int32.toBitVec_and, BitVec.toNat_and, h]
  have e : ((x.toBitVec.signExtend 8).signExtend 32).toNat % 256 = x.toBitVec.toNat % 256 := by
    rw [BitVec.toNat_signExtend]
    have hlt := x.toBitVec.isLt
    simp only [BitVec.toNat_setWidth, BitVec.toNat_signExtend]
    split <;> split <;> omega
  rw [← e]
  exact Nat.and_two_pow_sub_one_eq_mod _ 8
theorem pair_says {c : Int32} (h0 : ¬ c < 0) (h1 : ¬ 65535 < c) : pairCh (lo8 c) (hi8 c) = c := by
  rw [Int32.lt_iff_toInt_lt] at h0 h1
  have e0 : (0 : Int32).toInt = 0 := rfl
  have e1 : (65535 : Int32).toInt = 65535 := rfl
  have hc : c.toInt = c.toBitVec.toNat := by
    have := c.toBitVec.isLt
    have e : c.toInt = c.toBitVec.toInt := rfl
    rw [e] at h0 h1
    rw [e]
    rw [BitVec.toInt_eq_toNat_cond] at h0 h1 ⊢
    split at h0 <;> split <;> omega
  have hn : c.toBitVec.toNat < 65536 := by omega
  have a1 := lo8_and c
  have a2 : (hi8 c &&& 255).toBitVec.toNat = c.toBitVec.toNat / 256 := by
    rw [hi8, lo8_and]
    have e : ((8 : Int32) &&& 31) = 8 := by decide
    rw [e, Int32.toBitVec_shiftRight]
    have e2 : ((8 : Int32).toBitVec.smod 32) = 8#32 := by decide
    rw [e2, BitVec.sshiftRight_eq', BitVec.toNat_sshiftRight_of_msb_false (by rw [BitVec.msb_eq_false_iff_two_mul_lt]; omega)]
    show c.toBitVec.toNat >>> 8 % 256 = _
    rw [Nat.shiftRight_eq_div_pow]
    omega
  unfold pairCh
  apply Int32.toBitVec_inj.mp
  apply BitVec.eq_of_toNat_eq
  have f0 : ((0 : Int32) &&& 31) = 0 := by decide
  have f8 : ((8 : Int32) &&& 31) = 8 := by decide
  rw [f0, f8]
  have g : (((lo8 c &&& 255) <<< (0 : Int32)) ||| ((hi8 c &&& 255) <<< (8 : Int32))).toBitVec.toNat = c.toBitVec.toNat := by
    rw [Int32.toBitVec_or, Int32.toBitVec_shiftLeft, Int32.toBitVec_shiftLeft]
    have s0 : ((0 : Int32).toBitVec.smod 32) = 0#32 := by decide
    have s8 : ((8 : Int32).toBitVec.smod 32) = 8#32 := by decide
    rw [s0, s8, BitVec.toNat_or]
    simp only [BitVec.shiftLeft_eq', BitVec.toNat_shiftLeft, a1, a2]
    show (c.toBitVec.toNat % 256) <<< 0 % 2 ^ 32 ||| (c.toBitVec.toNat / 256) <<< 8 % 2 ^ 32 = _
    rw [Nat.shiftLeft_zero, Nat.mod_eq_of_lt (show c.toBitVec.toNat % 256 < 2 ^ 32 by omega), Nat.mod_eq_of_lt (show (c.toBitVec.toNat / 256) <<< 8 < 2 ^ 32 by rw [Nat.shiftLeft_eq]; omega), Nat.or_comm, ← Nat.shiftLeft_add_eq_or_of_lt (by omega), Nat.shiftLeft_eq]
    omega
  show BitVec.toNat (((((lo8 c &&& 255) <<< (0 : Int32)) ||| ((hi8 c &&& 255) <<< (8 : Int32))).toBitVec.setWidth 16).setWidth 32) = _
  rw [BitVec.toNat_setWidth, BitVec.toNat_setWidth, g]
  omega
end StrChars
namespace StrChars
open Jvm Sem ClassFile Op Lib Jvm.Stand Jvm.Free.XT Jvm.Free.ALB Jvm.Free.JM Jvm.Free
open Jvm.Lib.Cold (StaticIs)
/-- charAt's cast of a byte read back -/
def chr8 (u : Int32) : Int32 := (u &&& 255).toUInt32.toUInt16.toUInt32.toInt32
theorem chr8_lo8 {c : Int32} (h0 : ¬ c < 0) (h1 : ¬ 255 < c) : chr8 (lo8 c) = c := by
  have t : ∀ k : Fin 256, (Int32.ofNat k.val).toUInt32.toUInt16.toUInt32.toInt32 = Int32.ofNat k.val := by decide +kernel
  unfold chr8
  rw [lo8_mask h0 h1]
  rw [Int32.lt_iff_toInt_lt] at h0 h1
  have e0 : (0 : Int32).toInt = 0 := rfl
  have e1 : (255 : Int32).toInt = 255 := rfl
  obtain ⟨k, hk⟩ : ∃ k : Nat, c.toInt = k := ⟨c.toInt.toNat, by omega⟩
  have hx : c = Int32.ofNat k := Int32.toInt_inj.mp (by rw [hk, Int32.toInt_ofNat_small (by omega)])
  rw [hx]
  exact t ⟨k, by omega⟩
theorem narrow_ch {c : Int32} (h0 : ¬ c < 0) (h1 : ¬ 65535 < c) : narrow .char (.int c) = .int c := by
  have q : narrow .char (.int (pairCh (lo8 c) (hi8 c))) = .int (pairCh (lo8 c) (hi8 c)) := narrow_c _
  rwa [pair_says h0 h1] at q
/-- the array's cell V codes the n chars f 0 .. f (n - 1) by the coder cd, as the JDK does: coder 1 just where some char is above 255 -/
def Cod (cd : Int32) (n : Nat) (f : Nat → Int32) (V : Cell) : Prop := (cd = 0 ∧ V.slots.size = n ∧ ∀ j, j < n → V.slots[j]? = some (.int (lo8 (f j))) ∧ ¬ 255 < f j) ∨ (cd = 1 ∧ V.slots.size = 2 * n ∧ (∀ j, j < n → V.slots[2 * j]? = some (.int (lo8 (f j))) ∧ V.slots[2 * j + 1]? = some (.int (hi8 (f j)))) ∧ ∃ j, j < n ∧ 255 < f j)
theorem Cod.cd {cd : Int32} {n : Nat} {f : Nat → Int32} {V : Cell} (h : Cod cd n f V) : cd = 0 ∨ cd = 1 := h.imp (fun q => q.1) fun q => q.1
/-- **x is a String of the n chars f 0 .. f (n - 1)**, Latin-1 or UTF-16; its array at t has the cell V -/
def Txt (x t : Addr) (V : Cell) (cd : Int32) (n : Nat) (f : Nat → Int32) (U : State) : Prop := Exact "java/lang/String" x U ∧ Has x "java/lang/String" "value" "[B" (.ref t) U ∧ Has x "java/lang/String" "coder" "B" (.int cd) U ∧ XT.Arr .byte t V U ∧ Cod cd n f V ∧ ∀ j, j < n → ¬ f j < 0 ∧ ¬ 65535 < f j
theorem Txt.mv {x t : Addr} {V : Cell} {cd : Int32} {n : Nat} {f : Nat → Int32} {U U' : State} (h : Txt x t V cd n f U) (hal : U.vm.Alike U'.vm) (hh : U'.heap = U.heap) : Txt x t V cd n f U' := ⟨h.1.mv hal hh, h.2.1.mv hal hh, h.2.2.1.mv hal hh, h.2.2.2.1.mv hal hh, h.2.2.2.2⟩
namespace IsL
def yN : MethodName := ⟨"java/lang/String", "isLatin1", "()Z"⟩
abbrev yB : ByteArray := jdk_42_method_154_code
theorem d0 : decode yB 0 = .ok (.getstatic 38, 3) := by decide +kernel
theorem d3 : decode yB 3 = .ok (.ifCond (.eq) 14, 3) := by decide +kernel
theorem d6 : decode yB 6 = .ok (.aload_n 0, 1) := by decide +kernel
theorem d7 : decode yB 7 = .ok (.getfield 15, 3) := by decide +kernel
theorem d10 : decode yB 10 = .ok (.ifCond (.ne) 7, 3) := by decide +kernel
theorem d13 : decode yB 13 = .ok (.iconst 1, 1) := by decide +kernel
theorem d14 : decode yB 14 = .ok (.goto 4, 3) := by decide +kernel
theorem d17 : decode yB 17 = .ok (.iconst 0, 1) := by decide +kernel
theorem d18 : decode yB 18 = .ok (.ireturn, 1) := by decide +kernel
def site : List Cond := [.fieldLink "java/lang/String" 38 "java/lang/String" "COMPACT_STRINGS" "Z", .fieldLink "java/lang/String" 15 "java/lang/String" "coder" "B"]
def tab : Cond := tabOf yN yB 1 (some .boolean) site
def P (x : Addr) (cd z : Int32) (args : Array Value) (s : State) : Prop := args = #[.ref x] ∧ Has x "java/lang/String" "coder" "B" (.int cd) s ∧ (cd = 0 ∨ cd = 1) ∧ StaticIs s "java/lang/String" "COMPACT_STRINGS" "Z" (.int z) ∧ ¬ z = 0
def E (cd : Int32) (r : Option Value) (s u : State) : Prop := XT.PureE (some (.int (1 - cd))) r s u
theorem law (l : Launch) (x : Addr) (cd z : Int32) : Law l yN 1 0 0 0 yB 1 (some .boolean) site (P x cd z) (E cd) [] 0 0 := by
  refine Law.of_walk (plainFor_of_name (by decide +kernel)) (by decide +kernel) (by decide +kernel) (by decide) (fun _ _ h => by rw [h.1]; rfl) (fun _ U U' hal hh h => ⟨h.1, h.2.1.mv hal hh, h.2.2.1, h.2.2.2.1.there hal hh, h.2.2.2.2⟩) (fun r U U' V V' h1 hal h2 h => XT.PureE.mv r U U' V V' h1 hal h2 h) ?_
  intro p e s m args below meth c s₁ X0 hexec hbytes hml hret hlk hnm hown hh0 W hP
  obtain ⟨rfl, hx, hc, s1, hz⟩ := hP
  have c1 : Steps p.tables e below (s₁.setTop (entryFrame m #[.ref x] 1)) (s₁.setTop (mkF m 0 #[.val (.ref x)] [])) := entry rfl
  obtain ⟨T2, X2, q2, st2⟩ := X0.sget hexec hown (wk W (.fieldLink "java/lang/String" 38 "java/lang/String" "COMPACT_STRINGS" "Z")) s1 (fun _ _ h => by rw [hh0]; exact h) (g := (mkF m 0 #[.val (.ref x)] [])) rfl (hb hbytes d0)
  have hh2 := q2.trans hh0
  have c3 : Steps p.tables e below (s₁.setTop (entryFrame m #[.ref x] 1)) (T2.setTop (mkF m 7 #[.val (.ref x)] [.ref x])) := (c1.trans (st2 _ (Steps.refl _))).trans (by
    refine XS.ifNo X2.here hexec rfl (hb hbytes d3) rfl (i0_eq_f hz) ?_
    refine XS.aloadN X2.here hexec rfl (hb hbytes d6) rfl rfl ?_
    exact Steps.refl _)
  obtain ⟨T4, X4, q4, st4⟩ := X2.hget hexec hown (wk W (.fieldLink "java/lang/String" 15 "java/lang/String" "coder" "B")) (hx.mv X2.warmed.alike hh2) (g := (mkF m 7 #[.val (.ref x)] [.ref x])) rfl (rest := []) rfl (hb hbytes d7)
  have c5 : Steps p.tables e below (s₁.setTop (entryFrame m #[.ref x] 1)) (T4.setTop (mkF m 10 #[.val (.ref x)] [.int cd])) := c3.trans (st4 _ (Steps.refl _))
  have c6 : Steps p.tables e below (s₁.setTop (entryFrame m #[.ref x] 1)) (T4.setTop (mkF m 18 #[.val (.ref x)] [.int (1 - cd)])) := by
    rcases hc with rfl | rfl
    · exact c5.trans (by
        refine XS.ifNo X4.here hexec rfl (hb hbytes d10) rfl (i0_ne_f rfl) ?_
        refine iconstV X4.here hexec rfl 1 (hb hbytes d13) (by decide) ?_
        refine XS.goto X4.here hexec rfl (pc0 := 14) rfl (hb hbytes d14) (by decide) rfl ?_
        exact Steps.refl _)
    · exact c5.trans (by
        refine XS.ifYes X4.here hexec rfl (pc0 := 10) rfl (hb hbytes d10) rfl (i0_ne_t (by decide)) (by decide) rfl ?_
        refine iconstV X4.here hexec rfl 0 (hb hbytes d17) (by decide) ?_
        exact Steps.refl _)
  exact ⟨T4, some (.int (1 - cd)), _, _, _, X4, rfl, rfl, rfl, (fun h => by cases h), ⟨rfl, q4.trans hh2⟩, fun fs hl => c6.trans (X4.ireturnOut hexec hret (by rcases hc with rfl | rfl <;> rfl) (Or.inr (Or.inl rfl)) (hb hbytes d18) hl)⟩
end IsL
namespace LChA
def yN : MethodName := ⟨"java/lang/StringLatin1", "charAt", "([BI)C"⟩
abbrev yB : ByteArray := jdk_43_method_2_code
theorem d0 : decode yB 0 = .ok (.iload_n 1, 1) := by decide +kernel
theorem d1 : decode yB 1 = .ok (.aload_n 0, 1) := by decide +kernel
theorem d2 : decode yB 2 = .ok (.arraylength, 1) := by decide +kernel
theorem d3 : decode yB 3 = .ok (.invokestatic 9, 3) := by decide +kernel
theorem d6 : decode yB 6 = .ok (.aload_n 0, 1) := by decide +kernel
theorem d7 : decode yB 7 = .ok (.iload_n 1, 1) := by decide +kernel
theorem d8 : decode yB 8 = .ok (.baload, 1) := by decide +kernel
theorem d9 : decode yB 9 = .ok (.sipush 255, 3) := by decide +kernel
theorem d12 : decode yB 12 = .ok (.iand, 1) := by decide +kernel
theorem d13 : decode yB 13 = .ok (.i2c, 1) := by decide +kernel
theorem d14 : decode yB 14 = .ok (.ireturn, 1) := by decide +kernel
def site : List Cond := [JO.Str_checkIndex.tab] ++ staticW "java/lang/StringLatin1" 9 JO.Str_checkIndex.yN
def tab : Cond := tabOf yN yB 2 (some .char) site
def P (t : Addr) (V : Cell) (i : Nat) (u : Int32) (fm : Value) (args : Array Value) (s : State) : Prop := args = #[.ref t, .int (Int32.ofNat i)] ∧ XT.Arr .byte t V s ∧ V.slots[i]? = some (.int u) ∧ (StaticIs s "jdk/internal/util/Preconditions" "SIOOBE_FORMATTER" "Ljava/util/function/BiFunction;" fm ∧ fm.isRef = true)
def E (u : Int32) (r : Option Value) (s w : State) : Prop := XT.PureE (some (.int (chr8 u))) r s w
theorem law (l : Launch) (t : Addr) (V : Cell) (i : Nat) (u : Int32) (fm : Value) : Law l yN 2 2 2 27 yB 2 (some .char) site (P t V i u fm) (E u) [] 0 0 := by
  refine Law.of_walk (plainFor_of_name (by decide +kernel)) (by decide +kernel) (by decide +kernel) (by decide) (fun _ _ h => by rw [h.1]; rfl) (fun _ U U' hal hh h => ⟨h.1, h.2.1.mv hal hh, h.2.2.1, h.2.2.2.1.there hal hh, h.2.2.2.2⟩) (fun r U U' V V' h1 hal h2 h => XT.PureE.mv r U U' V V' h1 hal h2 h) ?_
  intro p e s m args below meth c s₁ X0 hexec hbytes hml hret hlk hnm hown hh0 W hP
  obtain ⟨rfl, hV, hu, s1, rf⟩ := hP
  have v31 := hV.2.2.2
  have hi : i < V.slots.size := (Array.getElem?_eq_some_iff.mp hu).1
  have c1 : Steps p.tables e below (s₁.setTop (entryFrame m #[.ref t, .int (Int32.ofNat i)] 2)) (s₁.setTop (mkF m 0 #[.val (.ref t), .val (.int (Int32.ofNat i))] [])) := entry rfl
  have c2 : Steps p.tables e below (s₁.setTop (entryFrame m #[.ref t, .int (Int32.ofNat i)] 2)) (s₁.setTop (mkF m 3 #[.val (.ref t), .val (.int (Int32.ofNat i))] [.int (Int32.ofNat V.slots.size), .int (Int32.ofNat i)])) := c1.trans (by
    refine XS.iloadN X0.here hexec rfl (hb hbytes d0) rfl ?_
    refine XS.aloadN X0.here hexec rfl (hb hbytes d1) rfl rfl ?_
    refine X0.alen hexec (hV.mv X0.warmed.alike hh0) rfl rfl (hb hbytes d2) ?_
    exact Steps.refl _)
  obtain ⟨v3, T3, X3, E3, g3⟩ := X0.callS hexec (JO.Str_checkIndex.law l (Int32.ofNat i) (Int32.ofNat V.slots.size) fm) hown (wks W (staticW "java/lang/StringLatin1" 9 JO.Str_checkIndex.yN)) (wk W JO.Str_checkIndex.tab) (W := 0) (Nat.le_of_ble_eq_true rfl) (Nat.le_of_ble_eq_true rfl) (Nat.le_refl _) (Nat.le_refl _) (g := (mkF m 3 #[.val (.ref t), .val (.int (Int32.ofNat i))] [.int (Int32.ofNat V.slots.size), .int (Int32.ofNat i)])) rfl (by rw [hml]; rfl) c2 (argsL := [.int (Int32.ofNat i), .int (Int32.ofNat V.slots.size)]) (rest := []) rfl rfl (by show 2 * 0 + 0 ≤ _; decide) (hb hbytes d3) (⟨rfl, rf, s1.there X0.warmed.alike hh0, Int32.ofNat_not_neg (by omega), lt32 v31 hi⟩)
  obtain ⟨rfl, q3⟩ := E3
  have hh3 := q3.trans hh0
  have c4 : Steps p.tables e below (s₁.setTop (entryFrame m #[.ref t, .int (Int32.ofNat i)] 2)) (T3.setTop (mkF m 14 #[.val (.ref t), .val (.int (Int32.ofNat i))] [.int (chr8 u)])) := Steps.trans g3 (by
    refine XS.aloadN X3.here hexec rfl (hb hbytes d6) rfl rfl ?_
    refine XS.iloadN X3.here hexec rfl (hb hbytes d7) rfl ?_
    refine X3.aget hexec (hV.mv X3.warmed.alike hh3) rfl hu rfl rfl (hb hbytes d8) ?_
    refine sipushV X3.here hexec rfl 255 (hb hbytes d9) (by decide) ?_
    refine XS.iand X3.here hexec rfl (hb hbytes d12) rfl ?_
    refine i2c X3.here hexec rfl (hb hbytes d13) rfl ?_
    exact Steps.refl _)
  exact ⟨T3, some (.int (chr8 u)), _, _, _, X3, rfl, rfl, rfl, (fun h => by cases h), ⟨rfl, hh3⟩, fun fs hl => c4.trans (X3.ireturnOut hexec hret (narrow_c _) (Or.inr (Or.inr (Or.inr (Or.inl rfl)))) (hb hbytes d14) hl)⟩
end LChA
end StrChars
namespace StrChars.Road
open Jvm Sem ClassFile Op Lib Jvm.Stand Jvm.Free Jvm.Free.XT
open Jvm.Lib.Cold (StaticIs)
theorem consq {a : Array Value} {s : State} {c : Jvm.Cond} {L : List Jvm.Cond} (h0 : c.before a s = true) (h : ∀ w ∈ L, w.before a s = true) : ∀ w ∈ c :: L, w.before a s = true := fun w hw => (List.mem_cons.mp hw).elim (fun e => e ▸ h0) (h w)
/-- the bytes of the chars cs, low before high -/
def wideBytes : List Int32 → List Value
  | [] => []
  | c :: cs => .int (lo8 c) :: .int (hi8 c) :: wideBytes cs
theorem wide_lo (d : Value) : ∀ (cs : List Int32) (j : Nat), j < cs.length → (wideBytes cs).getD (2 * j) d = .int (lo8 (cs.getD j 0))
  | [], j, h => absurd h (Nat.not_lt_zero j)
  | c :: cs, 0, _ => rfl
  | c :: cs, j + 1, h => by
    have q := wide_lo d cs j (by simpa using h)
    rw [show 2 * (j + 1) = 2 * j + 1 + 1 from by omega]
    simpa [wideBytes] using q
theorem wide_hi (d : Value) : ∀ (cs : List Int32) (j : Nat), j < cs.length → (wideBytes cs).getD (2 * j + 1) d = .int (hi8 (cs.getD j 0))
  | [], j, h => absurd h (Nat.not_lt_zero j)
  | c :: cs, 0, _ => rfl
  | c :: cs, j + 1, h => by
    have q := wide_hi d cs j (by simpa using h)
    rw [show 2 * (j + 1) + 1 = 2 * j + 1 + 1 + 1 from by omega]
    simpa [wideBytes] using q
theorem low_at (d : Value) (cs : List Int32) (j : Nat) (h : j < cs.length) : (cs.map fun c => Value.int (lo8 c)).getD j d = .int (lo8 (cs.getD j 0)) := by
  simp [List.getD_eq_getElem?_getD, h]
/-- an array of N2 bytes vs codes the chars cs by the coder cd -/
def CodA (cs : List Int32) (cd N2 : Int32) (vs : List Value) : Prop := (cd = 0 ∧ N2 = Int32.ofNat cs.length ∧ vs = (cs.map fun c => Value.int (lo8 c)) ∧ ∀ c ∈ cs, ¬ 255 < c) ∨ (cd = 1 ∧ N2 = Int32.ofNat (2 * cs.length) ∧ vs = wideBytes cs ∧ ∃ c ∈ cs, 255 < c)
theorem CodA.cod {cs : List Int32} {cd N2 : Int32} {vs : List Value} {V : Cell} (h : CodA cs cd N2 vs) (hn : 2 * cs.length < 2 ^ 31) (hs : V.slots.size = N2.toNatClampNeg) (hv : RoadKit.Has V vs (.int 0)) : Cod cd cs.length (fun j => cs.getD j 0) V := by
  rcases h with ⟨rfl, rfl, rfl, h⟩ | ⟨rfl, rfl, rfl, c, hc, hw⟩
  · rw [n32 (by omega)] at hs
    exact Or.inl ⟨rfl, hs, fun j hj => ⟨by rw [hv j (by omega), low_at _ _ _ hj], by
      have e : cs.getD j 0 = cs[j] := by simp [List.getD_eq_getElem?_getD, hj]
      show ¬ 255 < cs.getD j 0
      rw [e]; exact h _ (List.getElem_mem _)⟩⟩
  · rw [n32 (by omega)] at hs
    obtain ⟨j, hj, rfl⟩ := List.getElem_of_mem hc
    exact Or.inr ⟨rfl, hs, fun j hj => ⟨by rw [hv _ (by omega), wide_lo _ _ _ hj], by rw [hv _ (by omega), wide_hi _ _ _ hj]⟩, j, hj, by
      have e : cs.getD j 0 = cs[j] := by simp [List.getD_eq_getElem?_getD, hj]
      show 255 < cs.getD j 0
      rw [e]; exact hw⟩
/-- an object of exactly java/lang/String, its two fields found: as the laws ask it -/
theorem strObj {Z U : State} {a0 : Array Value} {kI : Nat} (wi : (Jvm.Cond.instantiable ST kI).before a0 Z = true) (al : Z.vm.Alike U.vm) {x : Addr} {v0 c0 : Value} (E : RoadKit.Exa Z U.heap x ST) (V : RoadKit.Fld Z U.heap x ST "value" "[B" v0) (C : RoadKit.Fld Z U.heap x ST "coder" "B" c0) :
    ∃ (D : Cell) (fV fC : Field), Blank ST x D U ∧ Found ST "value" "[B" fV U ∧ Found ST "coder" "B" fC U ∧ D.slots[fV.slot]? = some v0 ∧ D.slots[fC.slot]? = some c0 ∧ RoadKit.slotOf Z ST "value" "[B" = fV.slot ∧ RoadKit.slotOf Z ST "coder" "B" = fC.slot := by
  obtain ⟨D, cfV, kV, iV, fV, hD, gV, stV, knV, obV, asV, slV⟩ := V
  obtain ⟨D', cfC, kC, iC, fC, hD', gC, stC, -, -, asC, slC⟩ := C
  cases hD.symm.trans hD'
  obtain ⟨D2, kD, e1, e2, e3, e4, e5⟩ := E
  cases hD.symm.trans e1
  obtain ⟨c2, k2, i1, i2, i3, -⟩ := Cond.instantiable_spec wi
  cases e2.symm.trans i1
  cases e3.symm.trans i2
  obtain ⟨kU, u1, u2⟩ := al.2.2 _ _ e3
  exact ⟨D, fV, fC, ⟨hD, ⟨knV, fun q hq => by rw [hq] at obV; cases obV⟩, by rw [al.findClass]; exact e2, kU, u1, by rw [u2]; exact i3, by rw [u2]; exact e5 i3⟩, ⟨SBG.found_only al ⟨cfV, kV, iV, gV⟩, stV⟩, ⟨SBG.found_only al ⟨cfC, kC, iC, gC⟩, stC⟩, slV, slC, by simp [RoadKit.slotOf, gV], by simp [RoadKit.slotOf, gC]⟩
theorem sta_is {Z U : State} (al : Z.vm.Alike U.vm) {C n d : String} {v : Value} (S : RoadKit.Sta Z U.heap C n d v) : StaticIs U C n d v := by
  obtain ⟨cfS, iS, kS, fS, st, cS, t1, t2, t3, t4, t5, t6, t7⟩ := S
  exact StaticIs.there (s := { Z with heap := U.heap }) ⟨cfS, iS, kS, fS, st, cS, t1, t2, t3, t4, t5, (fun q => by rw [q] at t6; cases t6), t7⟩ al rfl
end StrChars.Road
namespace StrChars.Road
open Jvm Sem ClassFile Op Lib Jvm.Stand Jvm.Free Jvm.Free.XT
open Jvm.Lib.Cold (StaticIs)
/-- the road's facts of a String, as the laws ask it -/
theorem txt_of {Z U : State} {a0 : Array Value} {kI : Nat} (wi : (Jvm.Cond.instantiable ST kI).before a0 Z = true) (al : Z.vm.Alike U.vm) {x t : Addr} {kb : ClassId} {cs : List Int32} {cd N2 : Int32} {vs : List Value} (E : RoadKit.Exa Z U.heap x ST) (V : RoadKit.Fld Z U.heap x ST "value" "[B" (.ref t)) (C : RoadKit.Fld Z U.heap x ST "coder" "B" (.int cd)) (K : RoadKit.Arv Z U.heap t kb .byte N2 vs (.int 0)) (hc : CodA cs cd N2 vs) (hb : ∀ c ∈ cs, ¬ c < 0 ∧ ¬ (65535 : Int32) < c) (l2 : cs.length ≤ 4000) :
    ∃ A, Txt x t A cd cs.length (fun j => cs.getD j 0) U := by
  obtain ⟨A, K1, K2, K3, K4, K5, K6⟩ := K
  have hcod := hc.cod (by omega) K3 K5
  obtain ⟨D, fV, fC, hB, F1, F2, g1, g2, -, -⟩ := strObj wi al E V C
  exact ⟨A, ⟨_, hB.2.2.1, D, hB.1, rfl, by cases q : D.vm <;> first | rfl | exact absurd q (hB.2.1.2 _)⟩, Has.of hB F1 g1, Has.of hB F2 g2, ⟨K1.1, State.isArrayOf_alike al K1.2.1, K1.2.2, by rcases hcod with ⟨-, q, -⟩ | ⟨-, q, -⟩ <;> omega⟩, hcod, fun j hj => by
    have e : cs.getD j 0 = cs[j] := by simp [List.getD_eq_getElem?_getD, hj]
    show ¬ cs.getD j 0 < 0 ∧ ¬ 65535 < cs.getD j 0
    rw [e]; exact hb _ (List.getElem_mem _)⟩
end StrChars.Road
namespace StrChars
open Jvm Sem ClassFile Op Lib Jvm.Stand Jvm.Free.XT Jvm.Free.ALB Jvm.Free.JM Jvm.Free
open Jvm.Lib.Cold (StaticIs)
namespace ChN
def yN : MethodName := ⟨"java/lang/String", "charAt", "(I)C"⟩
abbrev yB : ByteArray := jdk_42_method_56_code
theorem d0 : decode yB 0 = .ok (.aload_n 0, 1) := by decide +kernel
theorem d1 : decode yB 1 = .ok (.invokevirtual 492, 3) := by decide +kernel
theorem d4 : decode yB 4 = .ok (.ifCond (.eq) 12, 3) := by decide +kernel
theorem d7 : decode yB 7 = .ok (.aload_n 0, 1) := by decide +kernel
theorem d8 : decode yB 8 = .ok (.getfield 9, 3) := by decide +kernel
theorem d11 : decode yB 11 = .ok (.iload_n 1, 1) := by decide +kernel
theorem d12 : decode yB 12 = .ok (.invokestatic 495, 3) := by decide +kernel
theorem d15 : decode yB 15 = .ok (.ireturn, 1) := by decide +kernel
def site : List Cond := [.fieldLink "java/lang/String" 9 "java/lang/String" "value" "[B", IsL.tab, LChA.tab] ++ virtW "java/lang/String" 492 "java/lang/String" IsL.yN IsL.yN ++ staticW "java/lang/String" 495 LChA.yN
def tab : Cond := tabOf yN yB 2 (some .char) site
def P (x t : Addr) (V : Cell) (n : Nat) (f : Nat → Int32) (z : Int32) (fm : Value) (i : Nat) (args : Array Value) (s : State) : Prop := args = #[.ref x, .int (Int32.ofNat i)] ∧ Txt x t V 0 n f s ∧ i < n ∧ StaticIs s "java/lang/String" "COMPACT_STRINGS" "Z" (.int z) ∧ ¬ z = 0 ∧ StaticIs s "jdk/internal/util/Preconditions" "SIOOBE_FORMATTER" "Ljava/util/function/BiFunction;" fm ∧ fm.isRef = true
def E (f : Nat → Int32) (i : Nat) (r : Option Value) (s u : State) : Prop := XT.PureE (some (.int (f i))) r s u
/-- charAt(i) of a Latin-1 String of n chars, i < n: f i -/
theorem law (l : Launch) (x t : Addr) (V : Cell) (n : Nat) (f : Nat → Int32) (z : Int32) (fm : Value) (i : Nat) : Law l yN 2 1 3 40 yB 2 (some .char) site (P x t V n f z fm i) (E f i) [] 0 0 := by
  refine Law.of_walk (plainFor_of_name (by decide +kernel)) (by decide +kernel) (by decide +kernel) (by decide) (fun _ _ h => by rw [h.1]; rfl) (fun _ U U' hal hh h => ⟨h.1, h.2.1.mv hal hh, h.2.2.1, h.2.2.2.1.there hal hh, h.2.2.2.2.1, h.2.2.2.2.2.1.there hal hh, h.2.2.2.2.2.2⟩) (fun r U U' V V' h1 hal h2 h => XT.PureE.mv r U U' V V' h1 hal h2 h) ?_
  intro p e s m args below meth c s₁ X0 hexec hbytes hml hret hlk hnm hown hh0 W hP
  obtain ⟨rfl, hx, hi, s1, hz, s3, rf⟩ := hP
  have v31 := hx.2.2.2.1.2.2.2
  have hr := hx.2.2.2.2.2 i hi
  have hx0 := hx.mv X0.warmed.alike hh0
  have c1 : Steps p.tables e below (s₁.setTop (entryFrame m #[.ref x, .int (Int32.ofNat i)] 2)) (s₁.setTop (mkF m 1 #[.val (.ref x), .val (.int (Int32.ofNat i))] [.ref x])) := Steps.trans (entry rfl) (by
    show Steps p.tables e below (s₁.setTop (mkF m 0 #[.val (.ref x), .val (.int (Int32.ofNat i))] [])) _
    refine XS.aloadN X0.here hexec rfl (hb hbytes d0) rfl rfl ?_
    exact Steps.refl _)
  obtain ⟨v2, T2, X2, E2, g2⟩ := X0.callV hexec (IsL.law l x 0 z) hown (wks W (virtW "java/lang/String" 492 "java/lang/String" IsL.yN IsL.yN)) rfl (by decide) (wk W IsL.tab) (W := 0) (Nat.le_of_ble_eq_true rfl) (Nat.le_of_ble_eq_true rfl) (Nat.le_refl _) (Nat.le_refl _) (hx0.1.fc X0.warmed.alike) hx0.1.is (g := (mkF m 1 #[.val (.ref x), .val (.int (Int32.ofNat i))] [.ref x])) rfl (by rw [hml]; rfl) c1 (argsL := []) (rest := []) rfl rfl (by show 2 * 0 + 0 ≤ _; decide) (hb hbytes d1) (⟨rfl, hx0.2.2.1, hx.2.2.2.2.1.cd, s1.there X0.warmed.alike hh0, hz⟩)
  obtain ⟨rfl, q2⟩ := E2
  have hh2 := q2.trans hh0
  have hx2 := hx.mv X2.warmed.alike hh2
  obtain ⟨-, k1, k2⟩ | ⟨k0, -⟩ := hx.2.2.2.2.1
  · have c3 : Steps p.tables e below (s₁.setTop (entryFrame m #[.ref x, .int (Int32.ofNat i)] 2)) (T2.setTop (mkF m 8 #[.val (.ref x), .val (.int (Int32.ofNat i))] [.ref x])) := Steps.trans g2 (by
      refine XS.ifNo X2.here hexec rfl (hb hbytes d4) rfl (i0_eq_f (by decide)) ?_
      refine XS.aloadN X2.here hexec rfl (hb hbytes d7) rfl rfl ?_
      exact Steps.refl _)
    obtain ⟨T4, X4, q4, st4⟩ := X2.hget hexec hown (wk W (.fieldLink "java/lang/String" 9 "java/lang/String" "value" "[B")) hx2.2.1 (g := (mkF m 8 #[.val (.ref x), .val (.int (Int32.ofNat i))] [.ref x])) rfl (rest := []) rfl (hb hbytes d8)
    have hh4 := q4.trans hh2
    have c5 : Steps p.tables e below (s₁.setTop (entryFrame m #[.ref x, .int (Int32.ofNat i)] 2)) (T4.setTop (mkF m 12 #[.val (.ref x), .val (.int (Int32.ofNat i))] [.int (Int32.ofNat i), .ref t])) := (c3.trans (st4 _ (Steps.refl _))).trans (by
      refine XS.iloadN X4.here hexec rfl (hb hbytes d11) rfl ?_
      exact Steps.refl _)
    obtain ⟨v6, T6, X6, E6, g6⟩ := X4.callS hexec (LChA.law l t V i (lo8 (f i)) fm) hown (wks W (staticW "java/lang/String" 495 LChA.yN)) (wk W LChA.tab) (W := 0) (Nat.le_of_ble_eq_true rfl) (Nat.le_of_ble_eq_true rfl) (Nat.le_refl _) (Nat.le_refl _) (g := (mkF m 12 #[.val (.ref x), .val (.int (Int32.ofNat i))] [.int (Int32.ofNat i), .ref t])) rfl (by rw [hml]; rfl) c5 (argsL := [.ref t, .int (Int32.ofNat i)]) (rest := []) rfl rfl (by show 2 * 0 + 0 ≤ _; decide) (hb hbytes d12) (⟨rfl, hx.2.2.2.1.mv X4.warmed.alike hh4, (k2 i hi).1, s3.there X4.warmed.alike hh4, rf⟩)
    obtain ⟨rfl, q6⟩ := E6
    rw [chr8_lo8 hr.1 (k2 i hi).2] at g6
    exact ⟨T6, some (.int (f i)), _, _, _, X6, rfl, rfl, rfl, (fun h => by cases h), ⟨rfl, q6.trans hh4⟩, fun fs hl => Steps.trans g6 (X6.ireturnOut hexec hret (narrow_ch hr.1 hr.2) (Or.inr (Or.inr (Or.inr (Or.inl rfl)))) (hb hbytes d15) hl)⟩
  · exact absurd k0 (by decide)
theorem pays {l : Launch} {R : Room} {p : Program} {e : Env} {below : List Frame} {s : State} {sargs : Array Value} {len W : Nat} (x t : Addr) (V : Cell) (n : Nat) (f : Nat → Int32) (z : Int32) (fm : Value) (i : Nat) (htab : tab.before sargs s = true) (hfr : 4 ≤ R.frames) (hlo : W + 53 ≤ R.locals) :
    Back l R p e below s sargs yN len W (fun A₁ a₁ => A₁.cells + 0 ≤ R.cells ∧ A₁.slots + 0 ≤ R.slots ∧ P x t V n f z fm i a₁ A₁.U) (fun A₁ _ v₁ B₁ => E f i v₁ A₁.U B₁.U ∧ B₁.locs = A₁.locs ++ [] ∧ B₁.cells = A₁.cells + 0 ∧ B₁.slots = A₁.slots + 0) :=
  (law l x t V n f z fm i).pays htab hfr (by omega)
end ChN
end StrChars
namespace StrChars.Road
open Jvm Sem ClassFile Op Lib Jvm.Stand Jvm.Free Jvm.Free.XT
open Jvm.Lib.Cold (StaticIs)
/-- the words of String.charAt(int), the Latin-1 road alone -/
abbrev wordsChN : List Jvm.Cond := [.code ChN.yN ChN.yB 2 (some .char), .initialized ST, .fieldLink ST 9 ST "value" "[B", .fieldLink ST 38 ST "COMPACT_STRINGS" "Z", .fieldLink ST 15 ST "coder" "B", .code IsL.yN IsL.yB 1 (some .boolean), .methodLink ST 492 IsL.yN, .declares IsL.yN, .selects ST IsL.yN IsL.yN, .instanceMethod IsL.yN,
  .methodLink ST 495 LChA.yN, .static LChA.yN, .code LChA.yN LChA.yB 2 (some .char), .initialized "java/lang/StringLatin1", .methodLink "java/lang/StringLatin1" 9 JO.Str_checkIndex.yN, .static JO.Str_checkIndex.yN, .code JO.Str_checkIndex.yN JO.Str_checkIndex.yB 2 none,
  .fieldLink ST 1053 "jdk/internal/util/Preconditions" "SIOOBE_FORMATTER" "Ljava/util/function/BiFunction;", .methodLink ST 1059 JC.PreCheck.yN, .static JC.PreCheck.yN, .code JC.PreCheck.yN JC.PreCheck.yB 3 (some .int), .initialized "jdk/internal/util/Preconditions"]
theorem tabChN_of {a : Array Value} {s : State} (h : ∀ w ∈ wordsChN, w.before a s = true) : ChN.tab.before a s = true := by
  have hp : JC.PreCheck.tab.before a s = true := unparts (wk h (.code JC.PreCheck.yN JC.PreCheck.yB 3 (some .int))) (wks h (.initialized JC.PreCheck.yN.cls :: JC.PreCheck.site))
  have qk := consq hp h
  have hk : JO.Str_checkIndex.tab.before a s = true := unparts (wk qk (.code JO.Str_checkIndex.yN JO.Str_checkIndex.yB 2 none)) (wks qk (.initialized JO.Str_checkIndex.yN.cls :: JO.Str_checkIndex.site))
  have ql := consq hk h
  have hl : LChA.tab.before a s = true := unparts (wk ql (.code LChA.yN LChA.yB 2 (some .char))) (wks ql (.initialized LChA.yN.cls :: LChA.site))
  have hi : IsL.tab.before a s = true := unparts (wk h (.code IsL.yN IsL.yB 1 (some .boolean))) (wks h (.initialized IsL.yN.cls :: IsL.site))
  have q := consq hi (consq hl h)
  exact unparts (wk q (.code ChN.yN ChN.yB 2 (some .char))) (wks q (.initialized ChN.yN.cls :: ChN.site))
theorem movedChN {Z s : State} {a0 args : Array Value} (hZ : Z.Warmed39 s.vm) (hw : ∀ d ∈ wordsChN, d.before a0 Z = true) : ∀ d ∈ wordsChN, d.before args s = true := fun d hd => by
  have t : ∀ d ∈ wordsChN, (d.onTables && d.keepsFace) = true := by decide +kernel
  exact RoadKit.mv hZ (hw d hd) (t d hd)
/-- **charAt(i) OF A LATIN-1 STRING**, i < n: the char -/
theorem chN {p : Program} {l : Launch} {e : Env} {R : Room} {s : State} {args : Array Value} {below : List Frame} {len W : Nat} {Z : State} {a0 : Array Value} {h : Heap} (hZ : Z.Warmed39 s.vm) (hw : ∀ d ∈ wordsChN, d.before a0 Z = true) {kI : Nat} (wi : (Jvm.Cond.instantiable ST kI).before a0 Z = true)
    {x t : Addr} {kb : ClassId} {cs : List Int32} {N2 z : Int32} {vs : List Value} {fm : Value} {i : Nat} {j : Int32} (E : RoadKit.Exa Z h x ST) (V : RoadKit.Fld Z h x ST "value" "[B" (.ref t)) (C : RoadKit.Fld Z h x ST "coder" "B" (.int 0)) (K : RoadKit.Arv Z h t kb .byte N2 vs (.int 0)) (hc : CodA cs 0 N2 vs) (hb : ∀ c ∈ cs, ¬ c < 0 ∧ ¬ (65535 : Int32) < c)
    (S : RoadKit.Sta Z h ST "COMPACT_STRINGS" "Z" (.int z)) (hz : ¬ z = 0) (F : RoadKit.Sta Z h "jdk/internal/util/Preconditions" "SIOOBE_FORMATTER" "Ljava/util/function/BiFunction;" fm) (rf : fm.isRef = true) (l2 : cs.length ≤ 4000) (hi : i < cs.length) (hj : j = Int32.ofNat i) (hfr : 4 ≤ R.frames) (hlo : W + 53 ≤ R.locals) :
    Back l R p e below s args (⟨"java/lang/String", "charAt", "(I)C"⟩ : MethodName) len W (fun P a => a = #[.ref x, .int j] ∧ P.U.heap = h ∧ P.cells + 0 ≤ R.cells ∧ P.slots + 0 ≤ R.slots)
      (fun P _ v B => ∃ L, (v = some (.int (cs.getD i 0)) ∧ L = [] ∧ B.U.heap = h) ∧ B.locs = P.locs ++ L ∧ B.cells = P.cells + 0 ∧ B.slots = P.slots + 0) := by
  subst hj
  intro m meth c P g ig mk a X hg hsize hdg hW hn hp'
  obtain ⟨rfl, rfl, r1, r2⟩ := hp'
  have al : Z.vm.Alike P.U.vm := hZ.alike.trans X.warmed.alike
  obtain ⟨A, hx⟩ := txt_of wi al E V C K hc hb l2
  obtain ⟨v, B, X', ⟨⟨hv, hh⟩, hl, hk, hs⟩, st⟩ := ChN.pays x t A cs.length (fun j => cs.getD j 0) z fm i (tabChN_of (movedChN hZ hw)) hfr hlo m meth c P g ig mk _ X hg hsize hdg hW hn ⟨r1, r2, rfl, hx, hi, sta_is al S, hz, sta_is al F, rf⟩
  exact ⟨v, B, X', ⟨[], ⟨hv, rfl, hh⟩, hl, hk, hs⟩, st⟩
/-- what backV says of its String, as the contracts of this text ask it: cs's low bytes, coder 0 -/
theorem codOf {cs : List Int32} {n : Nat} (hn : cs.length = n) (hb : ∀ c ∈ cs, ¬ 255 < c) : CodA cs 0 (Int32.ofNat n) ((cs.map lo8).map Value.int) := Or.inl ⟨rfl, by rw [hn], by simp [List.map_map, Function.comp_def], hb⟩
end StrChars.Road
end Jvm.Pilot.@@N@@
namespace Jvm.Pilot.@@N@@
open Jvm Jvm.ClassFile Sem Op Lib Jvm.Free Jvm.Stand Jvm.LawKit Jvm.RoadKit Bundle Jvm.Pilot.@@N@@.Jvm.D
theorem hwk {ts : List Jvm.Cond} {a0 : Array Value} {Z : State} (hw : ∀ d ∈ ts, d.before a0 Z = true) (i : Nat) {d : Jvm.Cond} (h : ts[i]? = some d) : d.before a0 Z = true := hw d (List.mem_of_getElem? h)
theorem old_le {Z : State} {n0 : Nat} {h : Heap} (O : Old Z n0 h) : n0 ≤ h.size := O.1 ▸ O.2.1
theorem narrow_refV {t : FieldType} {v : Value} (ht : t.isReference = true) (hv : v.isRef = true) : narrow t v = v := by rcases ref_cases hv with rfl | ⟨a, rfl⟩ <;> cases t <;> first | rfl | cases ht
theorem fits_refV {t : FieldType} {v : Value} (ht : t.isReference = true) (hv : v.isRef = true) : fits t v = true := by rcases ref_cases hv with rfl | ⟨a, rfl⟩ <;> cases t <;> first | rfl | cases ht
def SameStand {p : Program} {l : Launch} {e : Env} {R : Room} {s : State} {m : MethodId} {args : Array Value} {below : List Frame} {meth : Method} {c : Code} {T : State} {locs : List Loc} {cells slots : Nat} (_ : Stand p l e R s m args below meth c T locs cells slots) (T' : State) : Prop := Stand p l e R s m args below meth c T' locs cells slots
def WideStand {p : Program} {l : Launch} {e : Env} {R : Room} {s : State} {m : MethodId} {args : Array Value} {below : List Frame} {meth : Method} {c : Code} {T : State} {locs : List Loc} {cells slots : Nat} (_ : Stand p l e R s m args below meth c T locs cells slots) (s' T' : State) (dc ds : Nat) : Prop := Stand p l e R s' m args below meth c T' locs (cells + dc) (slots + ds)
def JoinStand {p : Program} {l : Launch} {e : Env} {R : Room} {s : State} {m : MethodId} {args : Array Value} {below : List Frame} {meth : Method} {c : Code} {T : State} {locs : List Loc} {cells slots : Nat} (_ : Stand p l e R s m args below meth c T locs cells slots) (s' T' : State) (L' : List Loc) (dc ds : Nat) : Prop := Stand p l e R s' m args below meth c T' (locs ++ L') (cells + dc) (slots + ds)
theorem own_jn {p : Program} {l : Launch} {e : Env} {R : Room} {s : State} {m : MethodId} {args : Array Value} {below : List Frame} {meth : Method} {c : Code} {T : State} {locs : List Loc} {cells slots : Nat} (X : Stand p l e R s m args below meth c T locs cells slots) : Stand p l e R s m args below meth c T (locs ++ []) cells slots := by rw [List.append_nil]; exact X
def OptExa (Z : State) (h : Heap) (v : Value) (C : String) : Prop := ∀ a, v = .ref a → Exa Z h a C
theorem own_mext {Z : State} {h h' : Heap} {v : Value} {C : String} (E : Ext h h') (F : OptExa Z h v C) : OptExa Z h' v C := fun a q => Exa.ext E (F a q)
theorem own_mwr {Z : State} {h h' : Heap} {v w : Value} {C : String} {b : Addr} {sl : Nat} (W : Wr h h' b sl w) (F : OptExa Z h v C) : OptExa Z h' v C := fun a q => Exa.wr W (F a q)
theorem own_mkeep {Z : State} {h h' : Heap} {v : Value} {C : String} {ws : List Addr} (K : Keep h h' ws) (F : OptExa Z h v C) : OptExa Z h' v C := fun a q => Exa.keep (F a q) K
theorem own_mnull {Z : State} {h : Heap} {C : String} : OptExa Z h .null C := fun a q => by cases q
theorem own_mref {Z : State} {h : Heap} {x : Addr} {C : String} (E : Exa Z h x C) : OptExa Z h (.ref x) C := fun a q => by cases q; exact E
theorem own_sf {P : Addr → Prop} {y : Addr} {L : List Addr} (q : P y) (r : ∀ x ∈ L, P x) : ∀ x ∈ y :: L, P x := fun x z => (List.mem_cons.mp z).elim (fun u => u ▸ q) (r x)
theorem own_ext {h h' h'' : Heap} (a : Ext h h') (b : Ext h' h'') : Ext h h'' := ⟨Nat.le_trans a.1 b.1, fun x c q => b.2 x c (a.2 x c q)⟩
theorem own_ite {c : Prop} [Decidable c] {a b : Value} (ha : a.isRef = true) (hb : b.isRef = true) : (if c then a else b).isRef = true := by split <;> assumption
theorem own_eqI {args : Array Value} {s : State} {a b : Term} {n : Int32} (h : (Jvm.Cond.eq a b).value args s none s [] = some true) (hb : b.eval args s none [] s = some (.int n)) : a.eval args s none [] s = some (.int n) := by
  obtain ⟨x, y, h1, h2, h3, h4⟩ := cmp_v (Or.inl h)
  cases h2.symm.trans hb
  obtain ⟨z, rfl⟩ := h4
  have q := gotT (Jvm.Cond.eq_ints h1 hb) h
  rw [h1, q]
theorem own_eqR {args : Array Value} {s : State} {a b : Term} {x y : Value} (h : (Jvm.Cond.eq a b).value args s none s [] = some true) (ha : a.eval args s none [] s = some x) (hb : b.eval args s none [] s = some y) (hx : x.isRef = true) (hy : y.isRef = true) : x = y := gotT (eq_R ha hb hx hy) h
theorem own_neR {args : Array Value} {s : State} {a b : Term} {x y : Value} (h : (Jvm.Cond.not (Jvm.Cond.eq a b)).value args s none s [] = some true) (ha : a.eval args s none [] s = some x) (hb : b.eval args s none [] s = some y) (hx : x.isRef = true) (hy : y.isRef = true) : ¬ x = y := gotF (eq_R ha hb hx hy) (not_v h)
theorem own_str {a0 : Array Value} {Z : State} (hw : ∀ d ∈ tables_1, d.before a0 Z = true) : ∀ a ∈ Bundle.stringAtoms, a.before a0 Z = true := fun a ha => by
  simp only [Bundle.stringAtoms, List.mem_cons, List.not_mem_nil, or_false] at ha
  rcases ha with rfl | rfl | rfl | rfl | rfl | rfl | rfl
  · exact (hwk hw 6 rfl)
  · exact (hwk hw 5 rfl)
  · exact (hwk hw 19 rfl)
  · exact (hwk hw 20 rfl)
  · exact (hwk hw 21 rfl)
  · exact (hwk hw 22 rfl)
  · exact (hwk hw 23 rfl)

theorem own_EW {a0 : Array Value} {Z : State} (hw : ∀ d ∈ tables_1, d.before a0 Z = true) : EW Z a0 consts_1 := by
  unfold consts_1
  exact (EW.cons (hwk hw 117 rfl) (by decide) (EW.cons (hwk hw 18 rfl) (by decide) EW.nil))
/-- a call of a callee that keeps the literals' invariant and is told which addresses no literal has -/
theorem own_backSH {p : Program} {l : Launch} {e : Env} {R : Room} {s : State} {args : Array Value} {below : List Frame} {Z : State} {a0 : Array Value} {EL : List (String × Nat)} {h : Heap} {vm0 : Vm} {y : MethodName} {bytes : ByteArray} {maxL : Nat} {ret : Option FieldType} {rm : Room} {len W : Nat} {as' : Array Value} {Q : Option Value → Heap → List Loc → Prop} {sf : List Addr}
    (hM : MetFree l y (head1 [Jvm.Cond.code y bytes maxL ret] rm) (fun a U => a = as' ∧ Z.Warmed39 U.vm ∧ U.heap = h ∧ CHv Z EL U.vm h ∧ ∀ x ∈ sf, Safe Z EL U.vm h x) (fun _ _ _ _ _ => True) (fun _ U o U' => ∃ v L, o = .returned v ∧ Q v U'.heap L ∧ CHr Z EL U.vm U.heap U'.vm U'.heap ∧ ReturnedEndW U o U' L rm.cells rm.slots))
    (hZ : Z.Warmed39 vm0) (wc : (Jvm.Cond.code y bytes maxL ret).before a0 Z = true) (wz : (Jvm.Cond.initialized y.cls).before a0 Z = true) (hf : rm.frames + 1 ≤ R.frames) (hl : W + (maxL + 11) + rm.locals ≤ R.locals) (hEL : EW Z a0 EL) (H : CHv Z EL vm0 h) (hsf : ∀ x ∈ sf, x < h.size ∧ Safe Z EL vm0 h x) :
    BackS l R p e below (s.setVm vm0) args y len W (fun A a => a = as' ∧ A.U.heap = h ∧ A.cells + rm.cells ≤ R.cells ∧ A.slots + rm.slots ≤ R.slots)
      (fun A _ v B => ∃ L, Q v B.U.heap L ∧ B.locs = A.locs ++ L ∧ B.cells = A.cells + rm.cells ∧ B.slots = A.slots + rm.slots ∧ CHr Z EL vm0 h B.U.vm B.U.heap) := by
  refine BackS.of_freeW (bytes := bytes) (maxL := maxL) (ret := ret) (E := fun _ U o t L k n => (k = rm.cells ∧ n = rm.slots) ∧ (∃ v, o = .returned v ∧ Q v t.heap L) ∧ CHr Z EL U.vm U.heap t.vm t.heap) hM hf hl ?_ ?_ ?_ ?_ ?_
  · intro m meth c A a Y hp
    have hU : Z.Warmed39 A.U.vm := wtrans (s := s.setVm vm0) hZ Y.warmed
    refine ⟨?_, mv hU wc, mv hU wz, hp.2.2.1, hp.2.2.2⟩
    show (Jvm.Cond.and _ .tt).before a A.U = true
    rw [Cond.before_and, mv hU wc]; rfl
  · intro m meth c A a g mk Y hp
    have C := CHv.at Y hZ hEL H
    exact ⟨hp.1, wtrans (s := s.setVm vm0) hZ Y.warmed, hp.2.1, C.1, fun x hx => C.safe (hsf x hx).1 (hsf x hx).2⟩
  · intros; trivial
  · rintro _ _ _ _ ⟨v, L, h1, h2, h3, h4⟩
    exact ⟨L, _, _, h4, ⟨rfl, rfl⟩, ⟨v, h1, h2⟩, h3⟩
  · rintro m meth c A a g mk v t L k n Y hp - - ⟨⟨rfl, rfl⟩, ⟨v', e3, e4⟩, e5⟩
    cases e3
    refine ⟨L, e4, rfl, rfl, rfl, (CHv.at Y hZ hEL H).trans ?_⟩
    rw [← hp.2.1]; exact e5

theorem own_frnil {n0 : Nat} {L : List Loc} (h : L = []) : Fr n0 L := h ▸ Fr.nil n0
def OwnStr (cs : List Int32) (N : Int32) (vs : List Value) : Prop := StrChars.Road.CodA cs (0 : Int32) N vs ∧ (∀ c ∈ cs, ¬ c < 0 ∧ ¬ (65535 : Int32) < c) ∧ cs.length ≤ 4000
def VM (cs ds : List Int32) : Int32 := if cs = ds then 1 else 0
theorem own_vm {cs ds : List Int32} {v : Option Value} (h : (v = some (.int 1) ∧ cs = ds) ∨ (v = some (.int 0) ∧ ¬ cs = ds)) : v = some (.int (VM cs ds)) := by
  unfold VM
  rcases h with ⟨rfl, h⟩ | ⟨rfl, h⟩
  · rw [if_pos h]
  · rw [if_neg h]
theorem own_s255 {cs : List Int32} (h : ∀ c ∈ cs, ¬ c < 0 ∧ ¬ (255 : Int32) < c) (hl : cs.length ≤ 4000) : OwnStr cs (Int32.ofNat cs.length) ((cs.map (fun c => c.toInt8.toInt32)).map Value.int) :=
  ⟨StrChars.Road.codOf rfl (fun c hc => (h c hc).2), fun c hc => ⟨(h c hc).1, fun q => (h c hc).2 (by rw [Int32.lt_iff_toInt_lt] at q ⊢; have e1 : (65535 : Int32).toInt = 65535 := by decide
                                                                                                      have e2 : (255 : Int32).toInt = 255 := by decide
                                                                                                      omega)⟩, hl⟩

theorem own_chm (x : Int32) : ¬ ((255 : Int32) < ((x &&& (255 : Int32)).toUInt32.toUInt16.toUInt32.toInt32)) := by
  rw [i2c_mask]
  have h := c_and x (255 : Int32) (by decide)
  rw [Int32.lt_iff_toInt_lt]
  omega

theorem own_selfP {s : State} {args : Array Value} {y : MethodName} {C : String} (hpriv : s.PrivateAt y) (hinst : (Cond.instanceMethod y).before args s = true) (hsel : (Cond.selects C y y).before args s = true) (hy : y.cls ≠ "java/lang/invoke/MethodHandle" ∧ y.cls ≠ "java/lang/invoke/VarHandle") : (Cond.selects y.cls y y).before args s = true := by
  obtain ⟨c, r, m, h1, h2, h3, h4, mk, h5, h6⟩ := Cond.selects_spec hsel
  exact selects_self_of_private (findClass_of_methodNamed h3) h5 h6 hpriv hinst hy
theorem own_same {s : State} {args : Array Value} {y z : MethodName} {C : String} (hinst : (Cond.instanceMethod y).before args s = true) (hsel : (Cond.selects C z z).before args s = true) (e : z.cls = y.cls) (hy : y.cls ≠ "java/lang/invoke/MethodHandle" ∧ y.cls ≠ "java/lang/invoke/VarHandle") : (Cond.sameMethod y.cls y.cls y.name y.desc).before args s = true := by
  obtain ⟨mk, methM, hnamed, hmethM, -, -⟩ := Cond.instanceMethod_spec hinst
  obtain ⟨c, r, m, h1, h2, h3, h4, k, h5, h6⟩ := Cond.selects_spec hsel
  have f1 := findClass_of_methodNamed hnamed
  have f2 := findClass_of_methodNamed h3
  rw [e, f1] at f2
  have q := State.methodFound?_of_named hnamed hy
  have q2 : s.methodNamed? ⟨y.cls, y.name, y.desc⟩ = some mk := hnamed
  rw [← Option.some.inj f2] at h5
  simp [Cond.before, Cond.holds, Cond.value, f1, q, q2, h5, h6]
theorem own_nf {s : State} {args : Array Value} {y z : MethodName} {C : String} (hsel : (Cond.selects C z z).before args s = true) (e : z.cls = y.cls) : NotFace s y := fun r0 h0 => by
  obtain ⟨c, r, m, h1, h2, h3, h4, k, h5, h6⟩ := Cond.selects_spec hsel
  have f1 := findClass_of_methodNamed h0
  have f2 := findClass_of_methodNamed h3
  rw [e, f1] at f2
  rw [← Option.some.inj f2] at h5
  exact ⟨k, h5, h6⟩

def BY (c : Int32) : Int32 := c.toInt8.toInt32
def C8 (c : Int32) : Prop := ¬ c < 0 ∧ ¬ (255 : Int32) < c
theorem own_arv {Z : State} {h : Heap} {a : Addr} {k : ClassId} {ty : FieldType} {z : Int32} {vs vs' : List Value} {dv : Value} (A : Arv Z h a k ty z vs dv) (e : vs = vs') : Arv Z h a k ty z vs' dv := e ▸ A
theorem own_c8e {c : Int32} (h : C8 c) : ∃ k : Fin 256, c = Int32.ofNat k.val := by
  obtain ⟨h1, h2⟩ := h
  rw [Int32.lt_iff_toInt_lt] at h1 h2
  have e0 : (0 : Int32).toInt = 0 := by decide
  have e1 : (255 : Int32).toInt = 255 := by decide
  rw [e0] at h1
  rw [e1] at h2
  refine ⟨⟨c.toInt.toNat, by omega⟩, ?_⟩
  apply Int32.toInt_inj.mp
  show _ = (Int32.ofNat c.toInt.toNat).toInt
  rw [Int32.toInt_ofNat_of_lt (by omega)]
  omega
theorem own_narc {c : Int32} (h : C8 c) : nar .char c = c := by
  obtain ⟨k, rfl⟩ := own_c8e h
  exact (by decide +kernel : ∀ k : Fin 256, nar .char (Int32.ofNat k.val) = Int32.ofNat k.val) k
theorem own_narb {c : Int32} (h : C8 c) : nar .byte (c.toInt8.toInt32) = BY c := by
  obtain ⟨k, rfl⟩ := own_c8e h
  exact (by decide +kernel : ∀ k : Fin 256, nar .byte ((Int32.ofNat k.val).toInt8.toInt32) = BY (Int32.ofNat k.val)) k
theorem own_narC {c : Int32} (h : C8 c) : narrow .char (.int c) = (.int c) := by
  have := own_narc h
  exact congrArg Value.int this
theorem own_ch8 (x : Int32) : C8 ((x &&& (255 : Int32)).toUInt32.toUInt16.toUInt32.toInt32) := by
  refine ⟨?_, own_chm x⟩
  rw [i2c_mask]
  have h := c_and x (255 : Int32) (by decide)
  rw [Int32.lt_iff_toInt_lt]
  have e0 : (0 : Int32).toInt = 0 := by decide
  omega
theorem own_r3 (x : Int32) : ((x &&& (255 : Int32)) % (3 : Int32)) = 0 ∨ ((x &&& (255 : Int32)) % (3 : Int32)) = 1 ∨ ((x &&& (255 : Int32)) % (3 : Int32)) = 2 := by
  obtain ⟨k, e⟩ := own_c8e (c := x &&& (255 : Int32)) (by
    have h := c_and x (255 : Int32) (by decide)
    have e0 : (0 : Int32).toInt = 0 := by decide
    have e1 : (255 : Int32).toInt = 255 := by decide
    constructor <;> rw [Int32.lt_iff_toInt_lt] <;> omega)
  rw [e]
  exact (by decide +kernel : ∀ k : Fin 256, (Int32.ofNat k.val % (3 : Int32)) = 0 ∨ (Int32.ofNat k.val % (3 : Int32)) = 1 ∨ (Int32.ofNat k.val % (3 : Int32)) = 2) k
theorem own_shl0 (x : Int32) : (x <<< ((0 : Int32) &&& 31)) = x := by
  have e : ((0 : Int32) &&& 31) = 0 := by decide
  rw [e, Int32.shiftLeft_zero]
theorem own_shr0 (x : Int32) : (x >>> ((0 : Int32) &&& 31)) = x := by
  have e : ((0 : Int32) &&& 31) = 0 := by decide
  rw [e, Int32.shiftRight_zero]
theorem own_sub0 (x : Int32) : (x - (0 : Int32)) = x := Int32.sub_zero x
theorem own_us {m : Int32} {X : List Value} {dv : Value} (h : m.toNatClampNeg = X.length) : X = (List.range m.toNatClampNeg).map fun i => X.getD ((0 : Int32).toNatClampNeg + i) dv := by
  have e0 : (0 : Int32).toNatClampNeg = 0 := by decide
  rw [e0, h]
  apply List.ext_getElem?
  intro i
  simp only [Nat.zero_add, List.getElem?_map, List.getElem?_range', List.getD_eq_getElem?_getD]
  by_cases q : i < X.length
  · simp [q]
  · simp [q, Nat.le_of_not_lt q]
theorem own_take {c : Int32} {V : List Value} {dv : Value} (h : c.toNatClampNeg ≤ V.length) : V.take c.toNatClampNeg = (List.range c.toNatClampNeg).map fun i => V.getD ((0 : Int32).toNatClampNeg + i) dv := by
  have e0 : (0 : Int32).toNatClampNeg = 0 := by decide
  rw [e0]
  apply List.ext_getElem?
  intro i
  by_cases q : i < c.toNatClampNeg
  · have q2 : i < V.length := Nat.lt_of_lt_of_le q h
    simp [q, q2, List.getElem?_take_of_lt q, List.getD_eq_getElem?_getD]
  · simp [q, List.getElem?_take, Nat.le_of_not_lt q]
theorem own_cat {c : Int32} {V R : List Value} (hR : R.length = c.toNatClampNeg) : R.take (0 : Int32).toNatClampNeg ++ V.take c.toNatClampNeg ++ R.drop ((0 : Int32).toNatClampNeg + c.toNatClampNeg) = V.take c.toNatClampNeg := by
  have e0 : (0 : Int32).toNatClampNeg = 0 := by decide
  rw [e0, Nat.zero_add, ← hR]
  simp
def APP (n : Int32) (V : List Value) (m : Int32) (X : List Value) : List Value := V.take n.toNatClampNeg ++ X ++ V.drop (n.toNatClampNeg + m.toNatClampNeg)
theorem own_appl {n m : Int32} {V X : List Value} (hV : V.length = 16) (hm : m.toNatClampNeg = X.length) (hs : n.toNatClampNeg + m.toNatClampNeg ≤ 16) : (APP n V m X).length = 16 := by
  unfold APP
  simp only [List.length_append, List.length_take, List.length_drop]
  omega
theorem own_r12 {m : Int32} (h : m = 1 ∨ m = 2) : ¬ (m = 0) := by rcases h with rfl | rfl <;> decide
def KO (n m : Int32) : Prop := ¬ n < 0 ∧ ¬ m < 0 ∧ n.toNatClampNeg + m.toNatClampNeg ≤ 16 ∧ ¬ (0 : Int32) < ((n + m) - (16 : Int32))
theorem own_ko (m1 m2 : Int32) (h1 : m1 = 1 ∨ m1 = 2) (h2 : m2 = 0 ∨ m2 = 1 ∨ m2 = 2) : KO 0 m1 ∧ KO ((0 : Int32) + m1) 1 ∧ KO (((0 : Int32) + m1) + 1) m2 ∧ ¬ ((((0 : Int32) + m1) + 1) + m2) < 0 ∧ ((((0 : Int32) + m1) + 1) + m2) < 16 := by
  unfold KO
  rcases h1 with rfl | rfl <;> rcases h2 with rfl | rfl | rfl <;> decide
theorem own_cle {c : Int32} (h0 : ¬ c < 0) (h1 : c < 16) : c.toNatClampNeg ≤ 16 := by
  rw [Int32.lt_iff_toInt_lt] at h0 h1
  have e0 : (0 : Int32).toInt = 0 := by decide
  have e1 : (16 : Int32).toInt = 16 := by decide
  simp only [Int32.toNatClampNeg]
  omega
theorem ef_rm3 (m : MethodId) (x0 : Addr) (x1 : Addr) (x2 : Int32) (x3 : Int32) : entryFrame m #[(.ref x0), (.ref x1), (.int x2), (.int x3), .null] 6 = mkF m 0 #[.val (.ref x0), .val (.ref x1), .val (.int x2), .val (.int x3), .val .null, .unset] [] := by first | (simp [entryFrame, mkF, argsToLocals, Value.category]; done) | rfl
def Q_rm3 (Z : State) (a1 : Addr) (c1 : Addr) (h0 : Heap) (n0 : Nat) (v : Option Value) (h : Heap) (L : List Loc) : Prop := ∃ t : Addr, ∃ kb : ClassId, (v = none) ∧ (Fr n0 L) ∧ (Keep h0 h [a1]) ∧ (Exa Z h a1 "java/lang/String") ∧ (Fld Z h a1 "java/lang/String" "coder" "B" (.int (0 : Int32))) ∧ (Fld Z h a1 "java/lang/String" "value" "[B" (.ref t)) ∧ (Arv Z h t kb .byte (0 : Int32) [] (.int (0 : Int32)))
theorem pn_0 : plainName "java/lang/String" = true := by first | (simp [plainName, overriddenIn]; done) | decide +kernel
theorem d3_0 : decode jdk_42_method_149_code 0 = .ok (.aload_n 0, 1) := by decide +kernel
theorem d3_1 : decode jdk_42_method_149_code 1 = .ok (.invokespecial 1, 3) := by decide +kernel
theorem d3_4 : decode jdk_42_method_149_code 4 = .ok (.iload_n 3, 1) := by decide +kernel
theorem d3_5 : decode jdk_42_method_149_code 5 = .ok (.ifCond .ne 22, 3) := by decide +kernel
theorem d3_8 : decode jdk_42_method_149_code 8 = .ok (.aload_n 0, 1) := by decide +kernel
theorem d3_9 : decode jdk_42_method_149_code 9 = .ok (.ldc 7, 2) := by decide +kernel
theorem d3_11 : decode jdk_42_method_149_code 11 = .ok (.getfield 9, 3) := by decide +kernel
theorem d3_14 : decode jdk_42_method_149_code 14 = .ok (.putfield 9, 3) := by decide +kernel
theorem d3_17 : decode jdk_42_method_149_code 17 = .ok (.aload_n 0, 1) := by decide +kernel
theorem d3_18 : decode jdk_42_method_149_code 18 = .ok (.ldc 7, 2) := by decide +kernel
theorem d3_20 : decode jdk_42_method_149_code 20 = .ok (.getfield 15, 3) := by decide +kernel
theorem d3_23 : decode jdk_42_method_149_code 23 = .ok (.putfield 15, 3) := by decide +kernel
theorem d3_26 : decode jdk_42_method_149_code 26 = .ok (.return_, 1) := by decide +kernel
set_option maxRecDepth 65536 in
set_option maxHeartbeats 40000000 in
theorem rm3 (l : Launch) (Z : State) (a0 : Array Value) (hw : ∀ d ∈ tables_1, d.before a0 Z = true) (ws : List Jvm.Cond) (a1 : Addr) (c1 : Addr) (h0 : Heap) (n0 : Nat) (O0 : Old Z n0 h0) (E1 : Exa Z h0 a1 "java/lang/String") (ga : n0 ≤ a1) (F1 : Fld Z h0 a1 "java/lang/String" "value" "[B" .null) (F2 : Fld Z h0 a1 "java/lang/String" "coder" "B" (.int (0 : Int32))) :
    MetFree l (⟨"java/lang/String", "<init>", "([CIILjava/lang/Void;)V"⟩ : MethodName) (head1 (Jvm.Cond.code (⟨"java/lang/String", "<init>", "([CIILjava/lang/Void;)V"⟩ : MethodName) jdk_42_method_149_code 6 none :: ws) ({ frames := 1, cells := 4, slots := 8, locals := 12 } : Room)) (fun a U => a = #[(.ref a1), (.ref c1), (.int (0 : Int32)), (.int (0 : Int32)), .null] ∧ Z.Warmed39 U.vm ∧ U.heap = h0 ∧ CHv Z consts_1 U.vm h0 ∧ ∀ x ∈ ([a1] : List Addr), Safe Z consts_1 U.vm h0 x) (fun _ _ _ _ _ => True) (fun _ U o U' => ∃ v L, o = .returned v ∧ Q_rm3 Z a1 c1 h0 n0 v U'.heap L ∧ CHr Z consts_1 U.vm U.heap U'.vm U'.heap ∧ ReturnedEndW U o U' L ({ frames := 1, cells := 4, slots := 8, locals := 12 } : Room).cells ({ frames := 1, cells := 4, slots := 8, locals := 12 } : Room).slots) := by
  refine MetFree.of_bodySF (plainFor_of_name pn_0) hisR ?_
  intro p e s m args below meth c s₁ Bd hml0 hP hK
  obtain ⟨rfl, hZ, hh, hH0, hSf⟩ := hP
  have hx := Bd.exec
  have hby := Bd.bytes
  have hml : c.maxLocals = 6 := hml0
  have hEL : EW Z a0 consts_1 := own_EW hw
  have CR0 : CHr Z consts_1 s.vm h0 s.vm h0 := CHr.refl hH0
  have hown : s.vm.findClass "java/lang/String" = some m.cls := findClass_of_methodNamed Bd.named
  have hnm := (name_of_methodNamed Bd.named Bd.method).1
  have hS0 : s.Since s.vm h0.size := (State.WarmedH.refl s).since _
  have hstr : ∀ a ∈ Bundle.stringAtoms, a.before a0 Z = true := own_str hw
  have X0 : Stand p l e ({ frames := 1, cells := 4, slots := 8, locals := 12 } : Room) (s.setVm s.vm) m #[(.ref a1), (.ref c1), (.int (0 : Int32)), (.int (0 : Int32)), .null] below meth c s₁ [] 0 0 := Stand.of_body Bd
  have e0 : s₁.heap = h0 := by rw [← hh, Bd.state]; rfl
  have N0 := Fr.nil n0
  have Z0 : n0 ≤ h0.size := old_le O0
  have pre0 : ∀ t, Steps p.tables e below (s₁.setTop (mkF m 0 #[.val (.ref a1), .val (.ref c1), .val (.int (0 : Int32)), .val (.int (0 : Int32)), .val .null, .unset] [])) t → Steps p.tables e below (s₁.setTop (entryFrame m #[(.ref a1), (.ref c1), (.int (0 : Int32)), (.int (0 : Int32)), .null] 6)) t := fun t k => castTop (ef_rm3 m a1 c1 (0 : Int32) (0 : Int32)) k
  obtain ⟨T101, X101, e101, st101⟩ := initO X0 hx hZ hown (hwk hw 15 rfl) (hwk hw 16 rfl) (hwk hw 17 rfl) e0 (g := (mkF m 1 #[.val (.ref a1), .val (.ref c1), .val (.int (0 : Int32)), .val (.int (0 : Int32)), .val .null, .unset] [(.ref a1)])) rfl (by rw [hml]; rfl) rfl (hb hby d3_1) (by decide) (W := 0) (by show 2 * 0 + _ ≤ _; exact Nat.le_of_eq rfl) (by decide)
  obtain ⟨a102, T102, h102, k102, b102, kc102, X102, e102, E102, hS102, hk102, hZ102, hown102, Ex102, Fc102, Fv102, Av102, la102, lb102, CX102, Lt102, Sn102, st102⟩ := ldcCH X101 hx hZ hown (hwk hw 18 rfl) hstr e101 hS0 (Nat.le_refl _) hEL (by decide) CR0.1 (vs := []) (z := (0 : Int32)) ⟨by decide, by decide⟩ (by decide) rfl (g := (mkF m 9 #[.val (.ref a1), .val (.ref c1), .val (.int (0 : Int32)), .val (.int (0 : Int32)), .val .null, .unset] [(.ref a1)])) rfl (hb hby d3_9) (n := 0) (by decide) (by decide) (by decide) (by decide)
  obtain ⟨T103, X103, e103, st103⟩ := getF X102 hx hZ102 hown102 (host := "") (Or.inl (hwk hw 24 rfl)) Via.refl e102 Fv102 (g := (mkF m 11 #[.val (.ref a1), .val (.ref c1), .val (.int (0 : Int32)), .val (.int (0 : Int32)), .val .null, .unset] [(.ref a102), (.ref a1)])) rfl rfl (hb hby d3_11)
  have c104 : Exa Z h102 a1 "java/lang/String" := (Exa.ext E102 E1)
  have c105 : Fld Z h102 a1 "java/lang/String" "value" "[B" .null := (Fld.ext E102 F1)
  obtain ⟨T106, h106, X106, e106, W106, st106⟩ := putF X103 hx hZ102 hown102 (host := "") (Or.inl (hwk hw 24 rfl)) Via.refl e103 c105 c104 (Or.inr ⟨(hwk hw 20 rfl), rfl, hnm⟩) (hwk hw 5 rfl) (ty := (.array .byte)) (by decide) rfl rfl (g := (mkF m 14 #[.val (.ref a1), .val (.ref c1), .val (.int (0 : Int32)), .val (.int (0 : Int32)), .val .null, .unset] [(.ref b102), (.ref a1)])) rfl rfl (hb hby d3_14)
  have F106 : Fld Z h106 a1 "java/lang/String" "value" "[B" (.ref b102) := Fld.same W106 c105
  have N106 := Fr.snoc X106 N0 ga
  have CR107 : CHr Z consts_1 s.vm h0 T102.vm h102 := CHr.trans CR0 CX102
  have Sf108 : Safe Z consts_1 T102.vm h102 a1 := (CHr.safe CX102 (E1).lt (hSf _ (List.mem_of_getElem? (i := 0) rfl)))
  have CR109 : CHr Z consts_1 s.vm h0 T102.vm h106 := CHr.trans CR107 (CHr.wr W106 Sf108 CR107.1)
  obtain ⟨a110, T110, h110, k110, b110, kc110, X110, e110, E110, hS110, hk110, hZ110, hown110, Ex110, Fc110, Fv110, Av110, la110, lb110, CX110, Lt110, Sn110, st110⟩ := ldcCH X106 hx hZ102 hown102 (hwk hw 18 rfl) hstr e106 hS102 (Nat.le_trans hk102 (Nat.le_trans (Nat.le_refl _) (Nat.le_of_eq W106.size.symm))) hEL (by decide) CR109.1 (vs := []) (z := (0 : Int32)) ⟨by decide, by decide⟩ (by decide) rfl (g := (mkF m 18 #[.val (.ref a1), .val (.ref c1), .val (.int (0 : Int32)), .val (.int (0 : Int32)), .val .null, .unset] [(.ref a1)])) rfl (hb hby d3_18) (n := 0) (by decide) (by decide) (by decide) (by decide)
  obtain ⟨T111, X111, e111, st111⟩ := getF X110 hx hZ110 hown110 (host := "") (Or.inl (hwk hw 25 rfl)) Via.refl e110 Fc110 (g := (mkF m 20 #[.val (.ref a1), .val (.ref c1), .val (.int (0 : Int32)), .val (.int (0 : Int32)), .val .null, .unset] [(.ref a110), (.ref a1)])) rfl rfl (hb hby d3_20)
  have c112 : Exa Z h110 a1 "java/lang/String" := (Exa.ext E110 (Exa.wr W106 c104))
  have c113 : Fld Z h110 a1 "java/lang/String" "coder" "B" (.int (0 : Int32)) := (Fld.ext E110 (Fld.other W106 (Fld.ext E102 F2) (Or.inr (slot_ne (Or.inr (hwk hw 21 rfl)) (Or.inr (hwk hw 20 rfl)) (by decide) (t := .byte) (t' := (.array .byte)) (by decide) (by decide)))))
  obtain ⟨T114, h114, X114, e114, W114, st114⟩ := putF X111 hx hZ110 hown110 (host := "") (Or.inl (hwk hw 25 rfl)) Via.refl e111 c113 c112 (Or.inr ⟨(hwk hw 21 rfl), rfl, hnm⟩) (hwk hw 5 rfl) (ty := .byte) (by decide) rfl rfl (g := (mkF m 23 #[.val (.ref a1), .val (.ref c1), .val (.int (0 : Int32)), .val (.int (0 : Int32)), .val .null, .unset] [(.int (0 : Int32)), (.ref a1)])) rfl rfl (hb hby d3_23)
  have F114 : Fld Z h114 a1 "java/lang/String" "coder" "B" (.int (0 : Int32)) := Fld.same W114 c113
  have N114 := Fr.snoc X114 N106 ga
  have K115 : Keep h0 h102 [a1] := Keep.ext (Keep.refl h0 [a1]) E102
  have K116 : Keep h0 h106 [a1] := Keep.wr K115 W106 (Or.inl (List.mem_of_getElem? (i := 0) rfl))
  have K117 : Keep h0 h110 [a1] := Keep.ext K116 E110
  have K118 : Keep h0 h114 [a1] := Keep.wr K117 W114 (Or.inl (List.mem_of_getElem? (i := 0) rfl))
  have c119 : Exa Z h114 a1 "java/lang/String" := (Exa.wr W114 c112)
  have c120 : Fld Z h114 a1 "java/lang/String" "value" "[B" (.ref b102) := (Fld.other W114 (Fld.ext E110 F106) (Or.inr (slot_ne (Or.inr (hwk hw 20 rfl)) (Or.inr (hwk hw 21 rfl)) (by decide) (t := (.array .byte)) (t' := .byte) (by decide) (by decide))))
  have c121 : Arv Z h114 b102 kc102 .byte (0 : Int32) [] (.int 0) := (Arv.other ((Arv.other Av102 W106 (Ne.symm ((Sn102 a1 Sf108).2))).ext E110) W114 (Ne.symm ((Sn102 a1 Sf108).2)))
  have CR122 : CHr Z consts_1 s.vm h0 T110.vm h110 := CHr.trans CR109 CX110
  have Sf123 : Safe Z consts_1 T110.vm h110 a1 := (CHr.safe CX110 (F106).lt (Safe.wr W106 Sf108 CR107.1 Sf108))
  have CR124 : CHr Z consts_1 s.vm h0 T110.vm h114 := CHr.trans CR122 (CHr.wr W114 Sf123 CR122.1)
  obtain ⟨fs, hr, hrun, hended, hRE⟩ := X114.leaveW hS110 (show _ ≤ T114.heap.size from by rw [e114]; exact (Nat.le_trans hk110 (Nat.le_trans (Nat.le_refl _) (Nat.le_of_eq W114.size.symm)))) (v := none) (fun _ => rfl)
  have CRl : CHr Z consts_1 s.vm s.heap (T114.setFrames fs).vm (T114.setFrames fs).heap := by
    have q := CHr.trans CR124 (CHv.at X114 hZ110 hEL CR124.1)
    rw [← hh, ← e114] at q
    exact q
  refine ⟨_, _, pre0 _ ?_, hrun, hended, _, _, rfl, ?_, CRl, hRE.1, hRE.2.1, hRE.2.2.1, hRE.2.2.2.mono (by decide) (by decide)⟩
  · show Steps p.tables e below (s₁.setTop (mkF m 0 #[.val (.ref a1), .val (.ref c1), .val (.int (0 : Int32)), .val (.int (0 : Int32)), .val .null, .unset] [])) _
    refine XS.aloadN X0.here hx rfl (hb hby d3_0) rfl rfl ?_
    show Steps p.tables e below (s₁.setTop (mkF m 1 #[.val (.ref a1), .val (.ref c1), .val (.int (0 : Int32)), .val (.int (0 : Int32)), .val .null, .unset] [(.ref a1)])) _
    refine st101 _ ?_
    show Steps p.tables e below (T101.setTop (mkF m 4 #[.val (.ref a1), .val (.ref c1), .val (.int (0 : Int32)), .val (.int (0 : Int32)), .val .null, .unset] [])) _
    refine XS.iloadN X101.here hx rfl (hb hby d3_4) rfl ?_
    refine XS.ifNo X101.here hx rfl (hb hby d3_5) rfl ((if0 _ _).trans (teq (by decide : (0 : Int32) = (0 : Int32))).2) ?_
    show Steps p.tables e below (T101.setTop (mkF m 8 #[.val (.ref a1), .val (.ref c1), .val (.int (0 : Int32)), .val (.int (0 : Int32)), .val .null, .unset] [])) _
    refine XS.aloadN X101.here hx rfl (hb hby d3_8) rfl rfl ?_
    show Steps p.tables e below (T101.setTop (mkF m 9 #[.val (.ref a1), .val (.ref c1), .val (.int (0 : Int32)), .val (.int (0 : Int32)), .val .null, .unset] [(.ref a1)])) _
    refine st102 _ ?_
    show Steps p.tables e below (T102.setTop (mkF m 11 #[.val (.ref a1), .val (.ref c1), .val (.int (0 : Int32)), .val (.int (0 : Int32)), .val .null, .unset] [(.ref a102), (.ref a1)])) _
    refine st103 _ ?_
    show Steps p.tables e below (T103.setTop (mkF m 14 #[.val (.ref a1), .val (.ref c1), .val (.int (0 : Int32)), .val (.int (0 : Int32)), .val .null, .unset] [(.ref b102), (.ref a1)])) _
    refine st106 _ ?_
    show Steps p.tables e below (T106.setTop (mkF m 17 #[.val (.ref a1), .val (.ref c1), .val (.int (0 : Int32)), .val (.int (0 : Int32)), .val .null, .unset] [])) _
    refine XS.aloadN X106.here hx rfl (hb hby d3_17) rfl rfl ?_
    show Steps p.tables e below (T106.setTop (mkF m 18 #[.val (.ref a1), .val (.ref c1), .val (.int (0 : Int32)), .val (.int (0 : Int32)), .val .null, .unset] [(.ref a1)])) _
    refine st110 _ ?_
    show Steps p.tables e below (T110.setTop (mkF m 20 #[.val (.ref a1), .val (.ref c1), .val (.int (0 : Int32)), .val (.int (0 : Int32)), .val .null, .unset] [(.ref a110), (.ref a1)])) _
    refine st111 _ ?_
    show Steps p.tables e below (T111.setTop (mkF m 23 #[.val (.ref a1), .val (.ref c1), .val (.int (0 : Int32)), .val (.int (0 : Int32)), .val .null, .unset] [(.int (0 : Int32)), (.ref a1)])) _
    refine st114 _ ?_
    show Steps p.tables e below (T114.setTop (mkF m 26 #[.val (.ref a1), .val (.ref c1), .val (.int (0 : Int32)), .val (.int (0 : Int32)), .val .null, .unset] [])) _
    exact X114.returnOut hx Bd.returns (hb hby d3_26) hr
  · show Q_rm3 Z a1 c1 h0 n0 _ T114.heap _
    rw [e114]
    unfold Q_rm3
    exact ⟨b102, kc102, rfl, N114, K118, c119, F114, c120, c121⟩
theorem ef_rm2 (m : MethodId) (x0 : Addr) (x1 : Addr) : entryFrame m #[(.ref x0), (.ref x1)] 2 = mkF m 0 #[.val (.ref x0), .val (.ref x1)] [] := by first | (simp [entryFrame, mkF, argsToLocals, Value.category]; done) | rfl
def Q_rm2 (Z : State) (a1 : Addr) (c1 : Addr) (kc : ClassId) (dv : Value) (h0 : Heap) (n0 : Nat) (v : Option Value) (h : Heap) (L : List Loc) : Prop := ∃ t : Addr, ∃ kb : ClassId, (v = none) ∧ (Fr n0 L) ∧ (Keep h0 h [a1]) ∧ (Exa Z h a1 "java/lang/String") ∧ (Fld Z h a1 "java/lang/String" "coder" "B" (.int (0 : Int32))) ∧ (Fld Z h a1 "java/lang/String" "value" "[B" (.ref t)) ∧ (Arv Z h t kb .byte (0 : Int32) [] (.int (0 : Int32)))
theorem d2_0 : decode jdk_42_method_3_code 0 = .ok (.aload_n 0, 1) := by decide +kernel
theorem d2_1 : decode jdk_42_method_3_code 1 = .ok (.aload_n 1, 1) := by decide +kernel
theorem d2_2 : decode jdk_42_method_3_code 2 = .ok (.iconst 0, 1) := by decide +kernel
theorem d2_3 : decode jdk_42_method_3_code 3 = .ok (.aload_n 1, 1) := by decide +kernel
theorem d2_4 : decode jdk_42_method_3_code 4 = .ok (.arraylength, 1) := by decide +kernel
theorem d2_5 : decode jdk_42_method_3_code 5 = .ok (.aconst_null, 1) := by decide +kernel
theorem d2_6 : decode jdk_42_method_3_code 6 = .ok (.invokespecial 27, 3) := by decide +kernel
theorem pd_0 : parseMethodDescriptor "([CIILjava/lang/Void;)V" = some ⟨[(.array .char), .int, .int, (.object "java/lang/Void")], none⟩ := by decide +kernel
theorem d2_9 : decode jdk_42_method_3_code 9 = .ok (.return_, 1) := by decide +kernel
set_option maxRecDepth 65536 in
set_option maxHeartbeats 40000000 in
theorem rm2 (l : Launch) (Z : State) (a0 : Array Value) (hw : ∀ d ∈ tables_1, d.before a0 Z = true) (ws : List Jvm.Cond) (a1 : Addr) (c1 : Addr) (kc : ClassId) (dv : Value) (h0 : Heap) (n0 : Nat) (O0 : Old Z n0 h0) (E1 : Exa Z h0 a1 "java/lang/String") (ga : n0 ≤ a1) (F1 : Fld Z h0 a1 "java/lang/String" "value" "[B" .null) (F2 : Fld Z h0 a1 "java/lang/String" "coder" "B" (.int (0 : Int32))) (A1 : Arv Z h0 c1 kc .char (0 : Int32) [] dv) :
    MetFree l (⟨"java/lang/String", "<init>", "([C)V"⟩ : MethodName) (head1 (Jvm.Cond.code (⟨"java/lang/String", "<init>", "([C)V"⟩ : MethodName) jdk_42_method_3_code 2 none :: ws) ({ frames := 2, cells := 4, slots := 8, locals := 29 } : Room)) (fun a U => a = #[(.ref a1), (.ref c1)] ∧ Z.Warmed39 U.vm ∧ U.heap = h0 ∧ CHv Z consts_1 U.vm h0 ∧ ∀ x ∈ ([a1] : List Addr), Safe Z consts_1 U.vm h0 x) (fun _ _ _ _ _ => True) (fun _ U o U' => ∃ v L, o = .returned v ∧ Q_rm2 Z a1 c1 kc dv h0 n0 v U'.heap L ∧ CHr Z consts_1 U.vm U.heap U'.vm U'.heap ∧ ReturnedEndW U o U' L ({ frames := 2, cells := 4, slots := 8, locals := 29 } : Room).cells ({ frames := 2, cells := 4, slots := 8, locals := 29 } : Room).slots) := by
  refine MetFree.of_bodySF (plainFor_of_name pn_0) hisR ?_
  intro p e s m args below meth c s₁ Bd hml0 hP hK
  obtain ⟨rfl, hZ, hh, hH0, hSf⟩ := hP
  have hx := Bd.exec
  have hby := Bd.bytes
  have hml : c.maxLocals = 2 := hml0
  have hEL : EW Z a0 consts_1 := own_EW hw
  have CR0 : CHr Z consts_1 s.vm h0 s.vm h0 := CHr.refl hH0
  have hown : s.vm.findClass "java/lang/String" = some m.cls := findClass_of_methodNamed Bd.named
  have hnm := (name_of_methodNamed Bd.named Bd.method).1
  have hS0 : s.Since s.vm h0.size := (State.WarmedH.refl s).since _
  have hstr : ∀ a ∈ Bundle.stringAtoms, a.before a0 Z = true := own_str hw
  have X0 : Stand p l e ({ frames := 2, cells := 4, slots := 8, locals := 29 } : Room) (s.setVm s.vm) m #[(.ref a1), (.ref c1)] below meth c s₁ [] 0 0 := Stand.of_body Bd
  have e0 : s₁.heap = h0 := by rw [← hh, Bd.state]; rfl
  have N0 := Fr.nil n0
  have Z0 : n0 ≤ h0.size := old_le O0
  have pre0 : ∀ t, Steps p.tables e below (s₁.setTop (mkF m 0 #[.val (.ref a1), .val (.ref c1)] [])) t → Steps p.tables e below (s₁.setTop (entryFrame m #[(.ref a1), (.ref c1)] 2)) t := fun t k => castTop (ef_rm2 m a1 c1) k
  obtain ⟨cl101, Ar101, -, Sz101, Nn101, -, -⟩ := id A1
  obtain ⟨_, _, ⟨T102, L102, k102, n102⟩, -, X102, hs102', hg102', ⟨Lc102, hQ102, l102, y102, z102, CX102⟩, st102⟩ := X0.specialBackS hx (y := (⟨"java/lang/String", "<init>", "([CIILjava/lang/Void;)V"⟩ : MethodName)) rfl hown (mvT hZ (hwk hw 11 rfl)) (mvT hZ (hwk hw 12 rfl)) (mvT hZ (hwk hw 14 rfl)) (by decide) (own_backSH (W := 0) (rm3 l Z a0 hw [] a1 c1 h0 n0 O0 E1 ga F1 F2) hZ (hwk hw 14 rfl) (hwk hw 6 rfl) (by decide) (by decide) hEL CR0.1 (own_sf ⟨(E1).lt, (hSf _ (List.mem_of_getElem? (i := 0) rfl))⟩ (fun _ q => nomatch q))) (g := (mkF m 6 #[.val (.ref a1), .val (.ref c1)] [.null, (.int (0 : Int32)), (.int (0 : Int32)), (.ref c1), (.ref a1)])) rfl (by rw [hml]; rfl) (Steps.refl _) (a := a1) (argsL := [(.ref c1), (.int (0 : Int32)), (.int (0 : Int32)), .null]) (rest := []) (lenOf pd_0 rfl) rfl (by show 2 * 0 + _ ≤ _; exact Nat.le_of_eq rfl) (hb hby d2_6) (fun _ _ => ⟨rfl, e0, (by decide : 0 + 4 ≤ _), (by decide : 0 + 8 ≤ _)⟩)
  dsimp only [Pt.U, Pt.locs, Pt.cells, Pt.slots] at X102 l102 y102 z102 st102 hQ102 hs102' hg102' CX102
  subst l102 y102 z102
  obtain ⟨X102b, hS102, hZ102, hown102⟩ := rebS hS0 (show _ ≤ s₁.heap.size from by rw [e0]; exact (Nat.le_refl _)) X102 hs102' hg102' hZ hown
  unfold Q_rm3 at hQ102
  obtain ⟨t_102, kb_102, rfl, N102q, K102, f102_0, f102_1, f102_2, f102_3⟩ := hQ102
  have N102 := Fr.app N0 N102q
  have K103 : Keep h0 T102.heap [a1] := Keep.trans (Keep.refl h0 [a1]) K102 (allS (Or.inl (List.mem_of_getElem? (i := 0) rfl)) all0)
  have CR104 : CHr Z consts_1 s.vm h0 T102.vm T102.heap := CHr.trans CR0 CX102
  obtain ⟨fs, hr, hrun, hended, hRE⟩ := X102b.leaveW hS102 (show _ ≤ T102.heap.size from by rw [(rfl : T102.heap = T102.heap)]; exact (Nat.le_refl _)) (v := none) (fun _ => rfl)
  have CRl : CHr Z consts_1 s.vm s.heap (T102.setFrames fs).vm (T102.setFrames fs).heap := by
    have q := CHr.trans CR104 (CHv.at X102b hZ102 hEL CR104.1)
    rw [← hh, ← (rfl : T102.heap = T102.heap)] at q
    exact q
  refine ⟨_, _, pre0 _ ?_, hrun, hended, _, _, rfl, ?_, CRl, hRE.1, hRE.2.1, hRE.2.2.1, hRE.2.2.2.mono (by decide) (by decide)⟩
  · show Steps p.tables e below (s₁.setTop (mkF m 0 #[.val (.ref a1), .val (.ref c1)] [])) _
    refine XS.aloadN X0.here hx rfl (hb hby d2_0) rfl rfl ?_
    refine XS.aloadN X0.here hx rfl (hb hby d2_1) rfl rfl ?_
    refine XS.iconst X0.here hx rfl (hb hby d2_2) ?_
    refine XS.aloadN X0.here hx rfl (hb hby d2_3) rfl rfl ?_
    show Steps p.tables e below (s₁.setTop (mkF m 4 #[.val (.ref a1), .val (.ref c1)] [(.ref c1), (.int (0 : Int32)), (.ref c1), (.ref a1)])) _
    refine X0.arraylength hx (by rw [e0]; exact Ar101.1) (State.isArrayOf_alike hZ.alike Ar101.2.1) (g := (mkF m 4 #[.val (.ref a1), .val (.ref c1)] [(.ref c1), (.int (0 : Int32)), (.ref c1), (.ref a1)])) rfl rfl (hb hby d2_4) _ ?_
    rw [len_of Sz101 Nn101]
    show Steps p.tables e below (s₁.setTop (mkF m 5 #[.val (.ref a1), .val (.ref c1)] [(.int (0 : Int32)), (.int (0 : Int32)), (.ref c1), (.ref a1)])) _
    refine XS.aconstNull X0.here hx rfl (hb hby d2_5) ?_
    show Steps p.tables e below (s₁.setTop (mkF m 6 #[.val (.ref a1), .val (.ref c1)] [.null, (.int (0 : Int32)), (.int (0 : Int32)), (.ref c1), (.ref a1)])) _
    refine st102.trans ?_
    show Steps p.tables e below (T102.setTop (mkF m 9 #[.val (.ref a1), .val (.ref c1)] [])) _
    exact X102b.returnOut hx Bd.returns (hb hby d2_9) hr
  · show Q_rm2 Z a1 c1 kc dv h0 n0 _ T102.heap _
    unfold Q_rm2
    exact ⟨t_102, kb_102, rfl, N102, K103, f102_0, f102_1, f102_2, f102_3⟩
theorem ef_rm39 (m : MethodId) (x0 : Int32) : entryFrame m #[(.int x0)] 1 = mkF m 0 #[.val (.int x0)] [] := by first | (simp [entryFrame, mkF, argsToLocals, Value.category]; done) | rfl
def VCan (p : Int32) : Int32 := if (255 : Int32) < p then 0 else 1
def Q_rm39 (Z : State) (p1 : Int32) (h0 : Heap) (n0 : Nat) (v : Option Value) (h : Heap) (L : List Loc) : Prop := (v = some (.int (VCan p1))) ∧ (Fr n0 L) ∧ (h = h0)
theorem pn_1 : plainName "java/lang/StringLatin1" = true := by first | (simp [plainName, overriddenIn]; done) | decide +kernel
theorem d39_0 : decode jdk_43_method_3_code 0 = .ok (.iload_n 0, 1) := by decide +kernel
theorem d39_1 : decode jdk_43_method_3_code 1 = .ok (.sipush 255, 3) := by decide +kernel
theorem d39_4 : decode jdk_43_method_3_code 4 = .ok (.if_icmp .gt 7, 3) := by decide +kernel
theorem d39_11 : decode jdk_43_method_3_code 11 = .ok (.iconst 0, 1) := by decide +kernel
theorem d39_12 : decode jdk_43_method_3_code 12 = .ok (.ireturn, 1) := by decide +kernel
theorem d39_7 : decode jdk_43_method_3_code 7 = .ok (.iconst 1, 1) := by decide +kernel
theorem d39_8 : decode jdk_43_method_3_code 8 = .ok (.goto 4, 3) := by decide +kernel
set_option maxRecDepth 65536 in
set_option maxHeartbeats 40000000 in
theorem rm39 (l : Launch) (Z : State) (a0 : Array Value) (hw : ∀ d ∈ tables_1, d.before a0 Z = true) (ws : List Jvm.Cond) (p1 : Int32) (h0 : Heap) (n0 : Nat) (O0 : Old Z n0 h0)  :
    MetFree l (⟨"java/lang/StringLatin1", "canEncode", "(C)Z"⟩ : MethodName) (head1 (Jvm.Cond.code (⟨"java/lang/StringLatin1", "canEncode", "(C)Z"⟩ : MethodName) jdk_43_method_3_code 1 (some .boolean) :: ws) ({ frames := 0, cells := 0, slots := 0, locals := 0 } : Room)) (fun a U => a = #[(.int p1)] ∧ Z.Warmed39 U.vm ∧ U.heap = h0) (fun _ _ _ _ _ => True) (fun _ U o U' => ∃ v L, o = .returned v ∧ Q_rm39 Z p1 h0 n0 v U'.heap L ∧ FrameEnd U o U' L ({ frames := 0, cells := 0, slots := 0, locals := 0 } : Room).cells ({ frames := 0, cells := 0, slots := 0, locals := 0 } : Room).slots) := by
  refine MetFree.of_bodySF (plainFor_of_name pn_1) hisR ?_
  intro p e s m args below meth c s₁ Bd hml0 hP hK
  obtain ⟨rfl, hZ, hh⟩ := hP
  have hx := Bd.exec
  have hby := Bd.bytes
  have hml : c.maxLocals = 1 := hml0
  have hown : s.vm.findClass "java/lang/StringLatin1" = some m.cls := findClass_of_methodNamed Bd.named
  have hnm := (name_of_methodNamed Bd.named Bd.method).1
  have X0 : Stand p l e ({ frames := 0, cells := 0, slots := 0, locals := 0 } : Room) s m #[(.int p1)] below meth c s₁ [] 0 0 := Stand.of_body Bd
  have e0 : s₁.heap = h0 := by rw [← hh, Bd.state]; rfl
  have N0 := Fr.nil n0
  have Z0 : n0 ≤ h0.size := old_le O0
  have pre0 : ∀ t, Steps p.tables e below (s₁.setTop (mkF m 0 #[.val (.int p1)] [])) t → Steps p.tables e below (s₁.setTop (entryFrame m #[(.int p1)] 1)) t := fun t k => castTop (ef_rm39 m p1) k
  have S102 : ∀ t, Steps p.tables e below (s₁.setTop (mkF m 4 #[.val (.int p1)] [(.int (255 : Int32)), (.int p1)])) t → Steps p.tables e below (s₁.setTop (entryFrame m #[(.int p1)] 1)) t := fun t k => by
    refine pre0 t ?_
    show Steps p.tables e below (s₁.setTop (mkF m 0 #[.val (.int p1)] [])) _
    refine XS.iloadN X0.here hx rfl (hb hby d39_0) rfl ?_
    refine XS.sipush X0.here hx rfl (hb hby d39_1) ?_
    exact k
  by_cases hc101 : (255 : Int32) < p1
  · obtain ⟨fs, hr, hrun, hended, hW, hsame⟩ := X0.leave (v := some (.int (0 : Int32))) (fun h => by rw [Bd.returns] at h; cases h)
    refine ⟨_, _, S102 _ ?_, hrun, hended, _, _, rfl, ?_, ⟨_, rfl⟩, hW, hsame.mono (by decide) (by decide)⟩
    · show Steps p.tables e below (s₁.setTop (mkF m 4 #[.val (.int p1)] [(.int (255 : Int32)), (.int p1)])) _
      refine XS.icmpYes X0.here hx rfl (pc0 := 4) (pc' := 11) rfl (hb hby d39_4) rfl (tlt hc101).2.2.1 (by decide) (by decide) ?_
      show Steps p.tables e below (s₁.setTop (mkF m 11 #[.val (.int p1)] [])) _
      refine XS.iconst X0.here hx rfl (hb hby d39_11) ?_
      show Steps p.tables e below (s₁.setTop (mkF m 12 #[.val (.int p1)] [(.int (0 : Int32))])) _
      exact Jvm.RoadKit.retOut X0 hx Bd.returns rfl (Or.inl ⟨rfl, by simp, _, rfl⟩) (hb hby d39_12) hr
    · show Q_rm39 Z p1 h0 n0 _ s₁.heap _
      rw [e0]
      unfold Q_rm39
      exact ⟨by simp [VCan, hc101], N0, rfl⟩
  · obtain ⟨fs, hr, hrun, hended, hW, hsame⟩ := X0.leave (v := some (.int (1 : Int32))) (fun h => by rw [Bd.returns] at h; cases h)
    refine ⟨_, _, S102 _ ?_, hrun, hended, _, _, rfl, ?_, ⟨_, rfl⟩, hW, hsame.mono (by decide) (by decide)⟩
    · show Steps p.tables e below (s₁.setTop (mkF m 4 #[.val (.int p1)] [(.int (255 : Int32)), (.int p1)])) _
      refine XS.icmpNo X0.here hx rfl (hb hby d39_4) rfl (flt hc101).2.2.1 ?_
      show Steps p.tables e below (s₁.setTop (mkF m 7 #[.val (.int p1)] [])) _
      refine XS.iconst X0.here hx rfl (hb hby d39_7) ?_
      refine XS.goto X0.here hx rfl (pc0 := 8) (pc' := 12) rfl (hb hby d39_8) (by decide) (by decide) ?_
      show Steps p.tables e below (s₁.setTop (mkF m 12 #[.val (.int p1)] [(.int (1 : Int32))])) _
      exact Jvm.RoadKit.retOut X0 hx Bd.returns rfl (Or.inl ⟨rfl, by simp, _, rfl⟩) (hb hby d39_12) hr
    · show Q_rm39 Z p1 h0 n0 _ s₁.heap _
      rw [e0]
      unfold Q_rm39
      exact ⟨by simp [VCan, hc101], N0, rfl⟩
theorem ef_rm40 (m : MethodId) (x0 : Int32) : entryFrame m #[(.int x0)] 1 = mkF m 0 #[.val (.int x0)] [] := by first | (simp [entryFrame, mkF, argsToLocals, Value.category]; done) | rfl
def Q_rm40 (Z : State) (p1 : Int32) (h0 : Heap) (n0 : Nat) (v : Option Value) (h : Heap) (L : List Loc) : Prop := ∃ t : Addr, ∃ k : ClassId, (v = some (.ref t)) ∧ (Fr n0 L) ∧ (Keep h0 h []) ∧ (h0.size ≤ t) ∧ (Arv Z h t k .byte (1 : Int32) [(.int (nar .byte (p1.toInt8.toInt32)))] (.int (0 : Int32)))
theorem d40_0 : decode jdk_43_method_46_code 0 = .ok (.iconst 1, 1) := by decide +kernel
theorem d40_1 : decode jdk_43_method_46_code 1 = .ok (.newarray .byte, 2) := by decide +kernel
theorem d40_3 : decode jdk_43_method_46_code 3 = .ok (.dup, 1) := by decide +kernel
theorem d40_4 : decode jdk_43_method_46_code 4 = .ok (.iconst 0, 1) := by decide +kernel
theorem d40_5 : decode jdk_43_method_46_code 5 = .ok (.iload_n 0, 1) := by decide +kernel
theorem d40_6 : decode jdk_43_method_46_code 6 = .ok (.i2b, 1) := by decide +kernel
theorem d40_7 : decode jdk_43_method_46_code 7 = .ok (.bastore, 1) := by decide +kernel
theorem d40_8 : decode jdk_43_method_46_code 8 = .ok (.areturn, 1) := by decide +kernel
set_option maxRecDepth 65536 in
set_option maxHeartbeats 40000000 in
theorem rm40 (l : Launch) (Z : State) (a0 : Array Value) (hw : ∀ d ∈ tables_1, d.before a0 Z = true) (ws : List Jvm.Cond) (p1 : Int32) (h0 : Heap) (n0 : Nat) (O0 : Old Z n0 h0)  :
    MetFree l (⟨"java/lang/StringLatin1", "toBytes", "(C)[B"⟩ : MethodName) (head1 (Jvm.Cond.code (⟨"java/lang/StringLatin1", "toBytes", "(C)[B"⟩ : MethodName) jdk_43_method_46_code 1 (some (.array .byte)) :: ws) ({ frames := 0, cells := 1, slots := 1, locals := 0 } : Room)) (fun a U => a = #[(.int p1)] ∧ Z.Warmed39 U.vm ∧ U.heap = h0) (fun _ _ _ _ _ => True) (fun _ U o U' => ∃ v L, o = .returned v ∧ Q_rm40 Z p1 h0 n0 v U'.heap L ∧ FrameEnd U o U' L ({ frames := 0, cells := 1, slots := 1, locals := 0 } : Room).cells ({ frames := 0, cells := 1, slots := 1, locals := 0 } : Room).slots) := by
  refine MetFree.of_bodySF (plainFor_of_name pn_1) hisR ?_
  intro p e s m args below meth c s₁ Bd hml0 hP hK
  obtain ⟨rfl, hZ, hh⟩ := hP
  have hx := Bd.exec
  have hby := Bd.bytes
  have hml : c.maxLocals = 1 := hml0
  have hown : s.vm.findClass "java/lang/StringLatin1" = some m.cls := findClass_of_methodNamed Bd.named
  have hnm := (name_of_methodNamed Bd.named Bd.method).1
  have X0 : Stand p l e ({ frames := 0, cells := 1, slots := 1, locals := 0 } : Room) s m #[(.int p1)] below meth c s₁ [] 0 0 := Stand.of_body Bd
  have e0 : s₁.heap = h0 := by rw [← hh, Bd.state]; rfl
  have N0 := Fr.nil n0
  have Z0 : n0 ≤ h0.size := old_le O0
  have pre0 : ∀ t, Steps p.tables e below (s₁.setTop (mkF m 0 #[.val (.int p1)] [])) t → Steps p.tables e below (s₁.setTop (entryFrame m #[(.int p1)] 1)) t := fun t k => castTop (ef_rm40 m p1) k
  obtain ⟨T101, h101, k101, X101, e101, E101, A101, st101⟩ := newP X0 hx hZ (hwk hw 19 rfl) e0 (g := (mkF m 1 #[.val (.int p1)] [(.int (1 : Int32))])) rfl (hb hby d40_1) rfl (by decide) (cap := 1) (by decide) (by decide) (by decide) (by decide)
  obtain ⟨b101, g101⟩ : ∃ z, z = h0.size := ⟨_, rfl⟩
  rw [← g101] at A101 st101
  have g_b101 : n0 ≤ b101 := Nat.le_trans (old_le O0) (Nat.le_of_eq g101.symm)
  have V101 : Arv Z h101 b101 k101 .byte (1 : Int32) [(.int (0 : Int32))] (.int (0 : Int32)) := (Arv.new A101 (by decide)).pad (pad_rep [] (.int (0 : Int32)) 1)
  obtain ⟨clq102, Arq102, kqq102, Szq102, Nnq102, Hsq102, Gsq102⟩ := id V101
  have hinq102 : ¬ ((0 : Int32) < 0 ∨ clq102.slots.size ≤ ((0 : Int32)).toNatClampNeg) := inb_of Szq102 ⟨by decide, by decide⟩
  obtain ⟨T103, h103, X103, e103, W103, st103⟩ := stB X101 hx hZ e101 Arq102 (j := (0 : Int32)) hinq102 (g := (mkF m 7 #[.val (.int p1)] [(.int (p1.toInt8.toInt32)), (.int (0 : Int32)), (.ref b101), (.ref b101)])) rfl rfl (hb hby d40_7)
  have V103 : Arv Z h103 b101 k101 .byte (1 : Int32) [(.int (nar .byte (p1.toInt8.toInt32)))] (.int (0 : Int32)) := Arv.set Arq102 kqq102 Szq102 Nnq102 Hsq102 Gsq102 (fits_nar_byte _) W103 0 rfl (Nat.le_of_ble_eq_true rfl)
  have N103 := Fr.snoc X103 N0 g_b101
  have K104 : Keep h0 h101 [] := Keep.ext (Keep.refl h0 []) E101
  have K105 : Keep h0 h103 [] := Keep.wr K104 W103 (Or.inr (Nat.le_trans (Nat.le_refl _) (Nat.le_of_eq g101.symm)))
  obtain ⟨fs, hr, hrun, hended, hW, hsame⟩ := X103.leave (v := some (.ref b101)) (fun h => by rw [Bd.returns] at h; cases h)
  refine ⟨_, _, pre0 _ ?_, hrun, hended, _, _, rfl, ?_, ⟨_, rfl⟩, hW, hsame.mono (by decide) (by decide)⟩
  · show Steps p.tables e below (s₁.setTop (mkF m 0 #[.val (.int p1)] [])) _
    refine XS.iconst X0.here hx rfl (hb hby d40_0) ?_
    show Steps p.tables e below (s₁.setTop (mkF m 1 #[.val (.int p1)] [(.int (1 : Int32))])) _
    refine st101 _ ?_
    show Steps p.tables e below (T101.setTop (mkF m 3 #[.val (.int p1)] [(.ref b101)])) _
    refine XS.dup X101.here hx rfl (hb hby d40_3) rfl rfl ?_
    show Steps p.tables e below (T101.setTop (mkF m 4 #[.val (.int p1)] [(.ref b101), (.ref b101)])) _
    refine XS.iconst X101.here hx rfl (hb hby d40_4) ?_
    refine XS.iloadN X101.here hx rfl (hb hby d40_5) rfl ?_
    refine XS.i2b X101.here hx rfl (hb hby d40_6) rfl ?_
    show Steps p.tables e below (T101.setTop (mkF m 7 #[.val (.int p1)] [(.int (p1.toInt8.toInt32)), (.int (0 : Int32)), (.ref b101), (.ref b101)])) _
    refine st103 _ ?_
    show Steps p.tables e below (T103.setTop (mkF m 8 #[.val (.int p1)] [(.ref b101)])) _
    exact Jvm.RoadKit.retOut X103 hx Bd.returns rfl (Or.inr (Or.inr (Or.inr (Or.inr ⟨rfl, rfl, rfl⟩)))) (hb hby d40_8) hr
  · show Q_rm40 Z p1 h0 n0 _ T103.heap _
    rw [e103]
    unfold Q_rm40
    exact ⟨b101, k101, rfl, N103, K105, (Nat.le_trans (Nat.le_refl _) (Nat.le_of_eq g101.symm)), V103⟩
theorem ef_rm41 (m : MethodId) (x0 : Addr) (x1 : Addr) (x2 : Int32) : entryFrame m #[(.ref x0), (.ref x1), (.int x2)] 3 = mkF m 0 #[.val (.ref x0), .val (.ref x1), .val (.int x2)] [] := by first | (simp [entryFrame, mkF, argsToLocals, Value.category]; done) | rfl
def Q_rm41 (Z : State) (a1 : Addr) (t1 : Addr) (h0 : Heap) (n0 : Nat) (v : Option Value) (h : Heap) (L : List Loc) : Prop := (v = none) ∧ (Fr n0 L) ∧ (Keep h0 h [a1]) ∧ (Exa Z h a1 "java/lang/String") ∧ (Fld Z h a1 "java/lang/String" "value" "[B" (.ref t1)) ∧ (Fld Z h a1 "java/lang/String" "coder" "B" (.int (0 : Int32)))
theorem d41_0 : decode jdk_42_method_151_code 0 = .ok (.aload_n 0, 1) := by decide +kernel
theorem d41_1 : decode jdk_42_method_151_code 1 = .ok (.invokespecial 1, 3) := by decide +kernel
theorem d41_4 : decode jdk_42_method_151_code 4 = .ok (.aload_n 0, 1) := by decide +kernel
theorem d41_5 : decode jdk_42_method_151_code 5 = .ok (.aload_n 1, 1) := by decide +kernel
theorem d41_6 : decode jdk_42_method_151_code 6 = .ok (.putfield 9, 3) := by decide +kernel
theorem d41_9 : decode jdk_42_method_151_code 9 = .ok (.aload_n 0, 1) := by decide +kernel
theorem d41_10 : decode jdk_42_method_151_code 10 = .ok (.iload_n 2, 1) := by decide +kernel
theorem d41_11 : decode jdk_42_method_151_code 11 = .ok (.putfield 15, 3) := by decide +kernel
theorem d41_14 : decode jdk_42_method_151_code 14 = .ok (.return_, 1) := by decide +kernel
set_option maxRecDepth 65536 in
set_option maxHeartbeats 40000000 in
theorem rm41 (l : Launch) (Z : State) (a0 : Array Value) (hw : ∀ d ∈ tables_1, d.before a0 Z = true) (ws : List Jvm.Cond) (a1 : Addr) (t1 : Addr) (h0 : Heap) (n0 : Nat) (O0 : Old Z n0 h0) (E1 : Exa Z h0 a1 "java/lang/String") (g1 : n0 ≤ a1) (D0 : Fld Z h0 a1 "java/lang/String" "value" "[B" .null) (D1 : Fld Z h0 a1 "java/lang/String" "coder" "B" (.int (0 : Int32))) :
    MetFree l (⟨"java/lang/String", "<init>", "([BB)V"⟩ : MethodName) (head1 (Jvm.Cond.code (⟨"java/lang/String", "<init>", "([BB)V"⟩ : MethodName) jdk_42_method_151_code 3 none :: ws) ({ frames := 1, cells := 0, slots := 0, locals := 12 } : Room)) (fun a U => a = #[(.ref a1), (.ref t1), (.int (0 : Int32))] ∧ Z.Warmed39 U.vm ∧ U.heap = h0) (fun _ _ _ _ _ => True) (fun _ U o U' => ∃ v L, o = .returned v ∧ Q_rm41 Z a1 t1 h0 n0 v U'.heap L ∧ FrameEnd U o U' L ({ frames := 1, cells := 0, slots := 0, locals := 12 } : Room).cells ({ frames := 1, cells := 0, slots := 0, locals := 12 } : Room).slots) := by
  refine MetFree.of_bodySF (plainFor_of_name pn_0) hisR ?_
  intro p e s m args below meth c s₁ Bd hml0 hP hK
  obtain ⟨rfl, hZ, hh⟩ := hP
  have hx := Bd.exec
  have hby := Bd.bytes
  have hml : c.maxLocals = 3 := hml0
  have hown : s.vm.findClass "java/lang/String" = some m.cls := findClass_of_methodNamed Bd.named
  have hnm := (name_of_methodNamed Bd.named Bd.method).1
  have X0 : Stand p l e ({ frames := 1, cells := 0, slots := 0, locals := 12 } : Room) s m #[(.ref a1), (.ref t1), (.int (0 : Int32))] below meth c s₁ [] 0 0 := Stand.of_body Bd
  have e0 : s₁.heap = h0 := by rw [← hh, Bd.state]; rfl
  have N0 := Fr.nil n0
  have Z0 : n0 ≤ h0.size := old_le O0
  have pre0 : ∀ t, Steps p.tables e below (s₁.setTop (mkF m 0 #[.val (.ref a1), .val (.ref t1), .val (.int (0 : Int32))] [])) t → Steps p.tables e below (s₁.setTop (entryFrame m #[(.ref a1), (.ref t1), (.int (0 : Int32))] 3)) t := fun t k => castTop (ef_rm41 m a1 t1 (0 : Int32)) k
  obtain ⟨T101, X101, e101, st101⟩ := initO X0 hx hZ hown (hwk hw 15 rfl) (hwk hw 16 rfl) (hwk hw 17 rfl) e0 (g := (mkF m 1 #[.val (.ref a1), .val (.ref t1), .val (.int (0 : Int32))] [(.ref a1)])) rfl (by rw [hml]; rfl) rfl (hb hby d41_1) (by decide) (W := 0) (by show 2 * 0 + _ ≤ _; exact Nat.le_of_eq rfl) (by decide)
  obtain ⟨T102, h102, X102, e102, W102, st102⟩ := putF X101 hx hZ hown (host := "") (Or.inl (hwk hw 24 rfl)) Via.refl e101 D0 E1 (Or.inr ⟨(hwk hw 20 rfl), rfl, hnm⟩) (hwk hw 5 rfl) (ty := (.array .byte)) (by decide) rfl rfl (g := (mkF m 6 #[.val (.ref a1), .val (.ref t1), .val (.int (0 : Int32))] [(.ref t1), (.ref a1)])) rfl rfl (hb hby d41_6)
  have F102 : Fld Z h102 a1 "java/lang/String" "value" "[B" (.ref t1) := Fld.same W102 D0
  have N102 := Fr.snoc X102 N0 g1
  have c103 : Exa Z h102 a1 "java/lang/String" := (Exa.wr W102 E1)
  have c104 : Fld Z h102 a1 "java/lang/String" "coder" "B" (.int (0 : Int32)) := (Fld.other W102 D1 (Or.inr (slot_ne (Or.inr (hwk hw 21 rfl)) (Or.inr (hwk hw 20 rfl)) (by decide) (t := .byte) (t' := (.array .byte)) (by decide) (by decide))))
  obtain ⟨T105, h105, X105, e105, W105, st105⟩ := putF X102 hx hZ hown (host := "") (Or.inl (hwk hw 25 rfl)) Via.refl e102 c104 c103 (Or.inr ⟨(hwk hw 21 rfl), rfl, hnm⟩) (hwk hw 5 rfl) (ty := .byte) (by decide) rfl rfl (g := (mkF m 11 #[.val (.ref a1), .val (.ref t1), .val (.int (0 : Int32))] [(.int (0 : Int32)), (.ref a1)])) rfl rfl (hb hby d41_11)
  have F105 : Fld Z h105 a1 "java/lang/String" "coder" "B" (.int (0 : Int32)) := Fld.same W105 c104
  have N105 := Fr.snoc X105 N102 g1
  have K106 : Keep h0 h102 [a1] := Keep.wr (Keep.refl h0 [a1]) W102 (Or.inl (List.mem_of_getElem? (i := 0) rfl))
  have K107 : Keep h0 h105 [a1] := Keep.wr K106 W105 (Or.inl (List.mem_of_getElem? (i := 0) rfl))
  have c108 : Exa Z h105 a1 "java/lang/String" := (Exa.wr W105 c103)
  have c109 : Fld Z h105 a1 "java/lang/String" "value" "[B" (.ref t1) := (Fld.other W105 F102 (Or.inr (slot_ne (Or.inr (hwk hw 20 rfl)) (Or.inr (hwk hw 21 rfl)) (by decide) (t := (.array .byte)) (t' := .byte) (by decide) (by decide))))
  obtain ⟨fs, hr, hrun, hended, hW, hsame⟩ := X105.leave (v := none) (fun _ => rfl)
  refine ⟨_, _, pre0 _ ?_, hrun, hended, _, _, rfl, ?_, ⟨_, rfl⟩, hW, hsame.mono (by decide) (by decide)⟩
  · show Steps p.tables e below (s₁.setTop (mkF m 0 #[.val (.ref a1), .val (.ref t1), .val (.int (0 : Int32))] [])) _
    refine XS.aloadN X0.here hx rfl (hb hby d41_0) rfl rfl ?_
    show Steps p.tables e below (s₁.setTop (mkF m 1 #[.val (.ref a1), .val (.ref t1), .val (.int (0 : Int32))] [(.ref a1)])) _
    refine st101 _ ?_
    show Steps p.tables e below (T101.setTop (mkF m 4 #[.val (.ref a1), .val (.ref t1), .val (.int (0 : Int32))] [])) _
    refine XS.aloadN X101.here hx rfl (hb hby d41_4) rfl rfl ?_
    refine XS.aloadN X101.here hx rfl (hb hby d41_5) rfl rfl ?_
    show Steps p.tables e below (T101.setTop (mkF m 6 #[.val (.ref a1), .val (.ref t1), .val (.int (0 : Int32))] [(.ref t1), (.ref a1)])) _
    refine st102 _ ?_
    show Steps p.tables e below (T102.setTop (mkF m 9 #[.val (.ref a1), .val (.ref t1), .val (.int (0 : Int32))] [])) _
    refine XS.aloadN X102.here hx rfl (hb hby d41_9) rfl rfl ?_
    refine XS.iloadN X102.here hx rfl (hb hby d41_10) rfl ?_
    show Steps p.tables e below (T102.setTop (mkF m 11 #[.val (.ref a1), .val (.ref t1), .val (.int (0 : Int32))] [(.int (0 : Int32)), (.ref a1)])) _
    refine st105 _ ?_
    show Steps p.tables e below (T105.setTop (mkF m 14 #[.val (.ref a1), .val (.ref t1), .val (.int (0 : Int32))] [])) _
    exact X105.returnOut hx Bd.returns (hb hby d41_14) hr
  · show Q_rm41 Z a1 t1 h0 n0 _ T105.heap _
    rw [e105]
    unfold Q_rm41
    exact ⟨rfl, N105, K107, c108, c109, F105⟩
theorem ef_rm38 (m : MethodId) (x0 : Int32) : entryFrame m #[(.int x0)] 1 = mkF m 0 #[.val (.int x0)] [] := by first | (simp [entryFrame, mkF, argsToLocals, Value.category]; done) | rfl
def Q_rm38 (Z : State) (p1 : Int32) (zc : Int32) (h0 : Heap) (n0 : Nat) (v : Option Value) (h : Heap) (L : List Loc) : Prop := ∃ b : Addr, ∃ t : Addr, ∃ k : ClassId, (v = some (.ref b)) ∧ (Fr n0 L) ∧ (Keep h0 h []) ∧ (h0.size ≤ b) ∧ (h0.size ≤ t) ∧ (Exa Z h b "java/lang/String") ∧ (Fld Z h b "java/lang/String" "value" "[B" (.ref t)) ∧ (Fld Z h b "java/lang/String" "coder" "B" (.int (0 : Int32))) ∧ (Arv Z h t k .byte (1 : Int32) [(.int (nar .byte (p1.toInt8.toInt32)))] (.int (0 : Int32))) ∧ (¬ t = b)
theorem d38_0 : decode jdk_42_method_139_code 0 = .ok (.getstatic 38, 3) := by decide +kernel
theorem d38_3 : decode jdk_42_method_139_code 3 = .ok (.ifCond .eq 23, 3) := by decide +kernel
theorem d38_6 : decode jdk_42_method_139_code 6 = .ok (.iload_n 0, 1) := by decide +kernel
theorem d38_7 : decode jdk_42_method_139_code 7 = .ok (.invokestatic 1015, 3) := by decide +kernel
theorem pd_1 : parseMethodDescriptor "(C)Z" = some ⟨[.char], some .boolean⟩ := by decide +kernel
theorem d38_10 : decode jdk_42_method_139_code 10 = .ok (.ifCond .eq 16, 3) := by decide +kernel
theorem d38_13 : decode jdk_42_method_139_code 13 = .ok (.new 10, 3) := by decide +kernel
theorem d38_16 : decode jdk_42_method_139_code 16 = .ok (.dup, 1) := by decide +kernel
theorem d38_17 : decode jdk_42_method_139_code 17 = .ok (.iload_n 0, 1) := by decide +kernel
theorem d38_18 : decode jdk_42_method_139_code 18 = .ok (.invokestatic 1018, 3) := by decide +kernel
theorem pd_2 : parseMethodDescriptor "(C)[B" = some ⟨[.char], some (.array .byte)⟩ := by decide +kernel
theorem d38_21 : decode jdk_42_method_139_code 21 = .ok (.iconst 0, 1) := by decide +kernel
theorem d38_22 : decode jdk_42_method_139_code 22 = .ok (.invokespecial 209, 3) := by decide +kernel
theorem pd_3 : parseMethodDescriptor "([BB)V" = some ⟨[(.array .byte), .byte], none⟩ := by decide +kernel
theorem d38_25 : decode jdk_42_method_139_code 25 = .ok (.areturn, 1) := by decide +kernel
set_option maxRecDepth 65536 in
set_option maxHeartbeats 40000000 in
theorem rm38 (l : Launch) (Z : State) (a0 : Array Value) (hw : ∀ d ∈ tables_1, d.before a0 Z = true) (ws : List Jvm.Cond) (p1 : Int32) (zc : Int32) (h0 : Heap) (n0 : Nat) (O0 : Old Z n0 h0) (SZ : Sta Z Z.heap "java/lang/String" "COMPACT_STRINGS" "Z" (.int zc)) (PZ : ¬ (zc = (0 : Int32))) (hp1 : ¬ ((255 : Int32) < p1)) :
    MetFree l (⟨"java/lang/String", "valueOf", "(C)Ljava/lang/String;"⟩ : MethodName) (head1 (Jvm.Cond.code (⟨"java/lang/String", "valueOf", "(C)Ljava/lang/String;"⟩ : MethodName) jdk_42_method_139_code 1 (some (.object "java/lang/String")) :: ws) ({ frames := 2, cells := 2, slots := 5, locals := 27 } : Room)) (fun a U => a = #[(.int p1)] ∧ Z.Warmed39 U.vm ∧ U.heap = h0) (fun _ _ _ _ _ => True) (fun _ U o U' => ∃ v L, o = .returned v ∧ Q_rm38 Z p1 zc h0 n0 v U'.heap L ∧ FrameEnd U o U' L ({ frames := 2, cells := 2, slots := 5, locals := 27 } : Room).cells ({ frames := 2, cells := 2, slots := 5, locals := 27 } : Room).slots) := by
  refine MetFree.of_bodySF (plainFor_of_name pn_0) hisR ?_
  intro p e s m args below meth c s₁ Bd hml0 hP hK
  obtain ⟨rfl, hZ, hh⟩ := hP
  have hx := Bd.exec
  have hby := Bd.bytes
  have hml : c.maxLocals = 1 := hml0
  have hown : s.vm.findClass "java/lang/String" = some m.cls := findClass_of_methodNamed Bd.named
  have hnm := (name_of_methodNamed Bd.named Bd.method).1
  have X0 : Stand p l e ({ frames := 2, cells := 2, slots := 5, locals := 27 } : Room) s m #[(.int p1)] below meth c s₁ [] 0 0 := Stand.of_body Bd
  have e0 : s₁.heap = h0 := by rw [← hh, Bd.state]; rfl
  have N0 := Fr.nil n0
  have Z0 : n0 ≤ h0.size := old_le O0
  have pre0 : ∀ t, Steps p.tables e below (s₁.setTop (mkF m 0 #[.val (.int p1)] [])) t → Steps p.tables e below (s₁.setTop (entryFrame m #[(.int p1)] 1)) t := fun t k => castTop (ef_rm38 m p1) k
  have c101 : Sta Z h0 "java/lang/String" "COMPACT_STRINGS" "Z" (.int zc) := Sta.ext (O0).2 SZ
  obtain ⟨T102, X102, e102, st102⟩ := getS2 X0 hx hZ hown (host := "") (Or.inl (hwk hw 45 rfl)) Via.refl e0 c101 (g := (mkF m 0 #[.val (.int p1)] [])) rfl (hb hby d38_0)
  obtain ⟨_, _, ⟨T103, L103, k103, n103⟩, -, X103, ⟨Lc103, hQ103, l103, y103, z103⟩, st103⟩ := Jvm.LawKit.callS X102 hx (y := (⟨"java/lang/StringLatin1", "canEncode", "(C)Z"⟩ : MethodName)) hown (mvT hZ (hwk hw 191 rfl)) (mvT hZ (hwk hw 192 rfl)) (mvT hZ (hwk hw 175 rfl)) (mvT hZ (hwk hw 193 rfl)) (by decide) (backOf (W := 0) (rm39 l Z a0 hw [] p1 h0 n0 O0 ) hZ (hwk hw 193 rfl) (hwk hw 175 rfl) (by decide) (by decide)) (g := (mkF m 7 #[.val (.int p1)] [(.int p1)])) rfl (by rw [hml]; rfl) (argsL := [(.int p1)]) (rest := []) (lenOf pd_1 rfl) rfl (by show 2 * 0 + _ ≤ _; exact Nat.le_of_eq rfl) (hb hby d38_7) (fun _ _ => ⟨rfl, e102, (by decide : 0 + 0 ≤ _), (by decide : 0 + 0 ≤ _)⟩)
  dsimp only [Pt.U, Pt.locs, Pt.cells, Pt.slots] at X103 l103 y103 z103 st103 hQ103
  subst l103 y103 z103
  unfold Q_rm39 at hQ103
  obtain ⟨rfl, N103q, e103⟩ := hQ103
  have N103 := Fr.app N0 N103q
  obtain ⟨T104, h104, X104, e104, E104, A104, D104, -, st104⟩ := newO X103 hx hZ hown (hwk hw 194 rfl) (hwk hw 5 rfl) (hwk hw 6 rfl) e103 (g := (mkF m 13 #[.val (.int p1)] [])) rfl (hb hby d38_13) (by decide) (by decide)
  obtain ⟨b104, g104⟩ : ∃ z, z = h0.size := ⟨_, rfl⟩
  rw [← g104] at A104 D104 st104
  have g_b104 : n0 ≤ b104 := Nat.le_trans (old_le O0) (Nat.le_of_eq g104.symm)
  have O105 : Old Z n0 h104 := Old.ext O0 E104
  obtain ⟨_, _, ⟨T106, L106, k106, n106⟩, -, X106, ⟨Lc106, hQ106, l106, y106, z106⟩, st106⟩ := Jvm.LawKit.callS X104 hx (y := (⟨"java/lang/StringLatin1", "toBytes", "(C)[B"⟩ : MethodName)) hown (mvT hZ (hwk hw 195 rfl)) (mvT hZ (hwk hw 196 rfl)) (mvT hZ (hwk hw 175 rfl)) (mvT hZ (hwk hw 197 rfl)) (by decide) (backOf (W := 2) (rm40 l Z a0 hw [] p1 h104 n0 O105 ) hZ (hwk hw 197 rfl) (hwk hw 175 rfl) (by decide) (by decide)) (g := (mkF m 18 #[.val (.int p1)] [(.int p1), (.ref b104), (.ref b104)])) rfl (by rw [hml]; rfl) (argsL := [(.int p1)]) (rest := [(.ref b104), (.ref b104)]) (lenOf pd_2 rfl) rfl (by show 2 * 0 + _ ≤ _; exact Nat.le_of_eq rfl) (hb hby d38_18) (fun _ _ => ⟨rfl, e104, (by decide : 1 + 1 ≤ _), (by decide : 4 + 1 ≤ _)⟩)
  dsimp only [Pt.U, Pt.locs, Pt.cells, Pt.slots] at X106 l106 y106 z106 st106 hQ106
  subst l106 y106 z106
  unfold Q_rm40 at hQ106
  obtain ⟨t_106, k_106, rfl, N106q, K106, ge_t_106, f106_0⟩ := hQ106
  have N106 := Fr.app N103 N106q
  have g_t_106 : n0 ≤ t_106 := Nat.le_trans (old_le O105) ge_t_106
  have c107 : Exa Z T106.heap b104 "java/lang/String" := (Exa.keep A104 K106)
  have c108 : Fld Z T106.heap b104 "java/lang/String" "value" "[B" .null := (Fld.keep (show Fld Z h104 b104 "java/lang/String" "value" "[B" .null from D104 (Or.inr (hwk hw 20 rfl)) (ty := (.array .byte)) (by decide)) K106 nin0)
  have c109 : Fld Z T106.heap b104 "java/lang/String" "coder" "B" (.int (0 : Int32)) := (Fld.keep (show Fld Z h104 b104 "java/lang/String" "coder" "B" (.int (0 : Int32)) from D104 (Or.inr (hwk hw 21 rfl)) (ty := .byte) (by decide)) K106 nin0)
  have O110 : Old Z n0 T106.heap := Old.keep O105 K106 all0
  obtain ⟨_, _, ⟨T111, L111, k111, n111⟩, -, X111, ⟨Lc111, hQ111, l111, y111, z111⟩, st111⟩ := X106.specialBack hx (y := (⟨"java/lang/String", "<init>", "([BB)V"⟩ : MethodName)) rfl hown (mvT hZ (hwk hw 198 rfl)) (mvT hZ (hwk hw 199 rfl)) (mvT hZ (hwk hw 200 rfl)) (by decide) (backOf (W := 1) (rm41 l Z a0 hw [] b104 t_106 T106.heap n0 O110 c107 g_b104 c108 c109) hZ (hwk hw 200 rfl) (hwk hw 6 rfl) (by decide) (by decide)) (g := (mkF m 22 #[.val (.int p1)] [(.int (0 : Int32)), (.ref t_106), (.ref b104), (.ref b104)])) rfl (by rw [hml]; rfl) (Steps.refl _) (a := b104) (argsL := [(.ref t_106), (.int (0 : Int32))]) (rest := [(.ref b104)]) (lenOf pd_3 rfl) rfl (by show 2 * 0 + _ ≤ _; exact Nat.le_of_eq rfl) (hb hby d38_22) (fun _ _ => ⟨rfl, (rfl : T106.heap = T106.heap), (by decide : 2 + 0 ≤ _), (by decide : 5 + 0 ≤ _)⟩)
  dsimp only [Pt.U, Pt.locs, Pt.cells, Pt.slots] at X111 l111 y111 z111 st111 hQ111
  subst l111 y111 z111
  unfold Q_rm41 at hQ111
  obtain ⟨rfl, N111q, K111, f111_0, f111_1, f111_2⟩ := hQ111
  have N111 := Fr.app N106 N111q
  have K112 : Keep h0 h104 [] := Keep.ext (Keep.refl h0 []) E104
  have K113 : Keep h0 T106.heap [] := Keep.trans K112 K106 all0
  have K114 : Keep h0 T111.heap [] := Keep.trans K113 K111 (allS (Or.inr (Nat.le_trans (Nat.le_refl _) (Nat.le_of_eq g104.symm))) all0)
  have c115 : Arv Z T111.heap t_106 k_106 .byte (1 : Int32) [(.int (nar .byte (p1.toInt8.toInt32)))] (.int (0 : Int32)) := (Arv.keep f106_0 K111 (ninS (Ne.symm (Exa.neArv c107 f106_0 (hwk hw 5 rfl))) nin0))
  obtain ⟨fs, hr, hrun, hended, hW, hsame⟩ := X111.leave (v := some (.ref b104)) (fun h => by rw [Bd.returns] at h; cases h)
  refine ⟨_, _, pre0 _ ?_, hrun, hended, _, _, rfl, ?_, ⟨_, rfl⟩, hW, hsame.mono (by decide) (by decide)⟩
  · show Steps p.tables e below (s₁.setTop (mkF m 0 #[.val (.int p1)] [])) _
    refine st102 _ ?_
    show Steps p.tables e below (T102.setTop (mkF m 3 #[.val (.int p1)] [(.int zc)])) _
    refine XS.ifNo X102.here hx rfl (hb hby d38_3) rfl ((if0 _ _).trans (feq (PZ : ¬ (zc = (0 : Int32)))).1) ?_
    show Steps p.tables e below (T102.setTop (mkF m 6 #[.val (.int p1)] [])) _
    refine XS.iloadN X102.here hx rfl (hb hby d38_6) rfl ?_
    show Steps p.tables e below (T102.setTop (mkF m 7 #[.val (.int p1)] [(.int p1)])) _
    refine st103 _ ?_
    show Steps p.tables e below (T103.setTop (mkF m 10 #[.val (.int p1)] [(.int (VCan p1))])) _
    refine XS.ifNo X103.here hx rfl (hb hby d38_10) rfl ((if0 _ _).trans (feq (by simp [VCan, hp1] : ¬ ((VCan p1) = (0 : Int32)))).1) ?_
    show Steps p.tables e below (T103.setTop (mkF m 13 #[.val (.int p1)] [])) _
    refine st104 _ ?_
    show Steps p.tables e below (T104.setTop (mkF m 16 #[.val (.int p1)] [(.ref b104)])) _
    refine XS.dup X104.here hx rfl (hb hby d38_16) rfl rfl ?_
    show Steps p.tables e below (T104.setTop (mkF m 17 #[.val (.int p1)] [(.ref b104), (.ref b104)])) _
    refine XS.iloadN X104.here hx rfl (hb hby d38_17) rfl ?_
    show Steps p.tables e below (T104.setTop (mkF m 18 #[.val (.int p1)] [(.int p1), (.ref b104), (.ref b104)])) _
    refine st106 _ ?_
    show Steps p.tables e below (T106.setTop (mkF m 21 #[.val (.int p1)] [(.ref t_106), (.ref b104), (.ref b104)])) _
    refine XS.iconst X106.here hx rfl (hb hby d38_21) ?_
    show Steps p.tables e below (T106.setTop (mkF m 22 #[.val (.int p1)] [(.int (0 : Int32)), (.ref t_106), (.ref b104), (.ref b104)])) _
    refine st111.trans ?_
    show Steps p.tables e below (T111.setTop (mkF m 25 #[.val (.int p1)] [(.ref b104)])) _
    exact Jvm.RoadKit.retOut X111 hx Bd.returns rfl (Or.inr (Or.inr (Or.inr (Or.inr ⟨rfl, rfl, rfl⟩)))) (hb hby d38_25) hr
  · show Q_rm38 Z p1 zc h0 n0 _ T111.heap _
    unfold Q_rm38
    exact ⟨b104, t_106, k_106, rfl, N111, K114, (Nat.le_trans (Nat.le_refl _) (Nat.le_of_eq g104.symm)), (Nat.le_trans (Nat.le_trans (Nat.le_refl _) E104.1) ge_t_106), f111_0, f111_1, f111_2, c115, (Ne.symm (Exa.neArv c107 f106_0 (hwk hw 5 rfl)))⟩
theorem ef_mk0 (m : MethodId) (x0 : Int32) (x1 : Int32) (x2 : Int32) : entryFrame m #[(.int x0), (.int x1), (.int x2)] 3 = mkF m 0 #[.val (.int x0), .val (.int x1), .val (.int x2)] [] := by first | (simp [entryFrame, mkF, argsToLocals, Value.category]; done) | rfl
def Q_mk0 (Z : State) (p2 : Int32) (p3 : Int32) (zc : Int32) (h0 : Heap) (n0 : Nat) (v : Option Value) (h : Heap) (L : List Loc) : Prop := ∃ o : Addr, ∃ t : Addr, ∃ kb : ClassId, (v = some (.ref o)) ∧ (Fr n0 L) ∧ (Keep h0 h []) ∧ (h0.size ≤ o) ∧ (Exa Z h o "java/lang/String") ∧ (Fld Z h o "java/lang/String" "value" "[B" (.ref t)) ∧ (Fld Z h o "java/lang/String" "coder" "B" (.int (0 : Int32))) ∧ (Arv Z h t kb .byte (0 : Int32) [] (.int (0 : Int32)))
theorem pn_2 : plainName "com/example/syndex/syndex/SectionKeyPathPinLaw" = true := by first | (simp [plainName, overriddenIn]; done) | decide +kernel
theorem d1_0 : decode method_2_code 0 = .ok (.iload_n 0, 1) := by decide +kernel
theorem d1_1 : decode method_2_code 1 = .ok (.ifCond .ne 14, 3) := by decide +kernel
theorem d1_4 : decode method_2_code 4 = .ok (.new 7, 3) := by decide +kernel
theorem d1_7 : decode method_2_code 7 = .ok (.dup, 1) := by decide +kernel
theorem d1_8 : decode method_2_code 8 = .ok (.iconst 0, 1) := by decide +kernel
theorem d1_9 : decode method_2_code 9 = .ok (.newarray .char, 2) := by decide +kernel
theorem d1_11 : decode method_2_code 11 = .ok (.invokespecial 9, 3) := by decide +kernel
theorem pd_4 : parseMethodDescriptor "([C)V" = some ⟨[(.array .char)], none⟩ := by decide +kernel
theorem d1_14 : decode method_2_code 14 = .ok (.areturn, 1) := by decide +kernel
set_option maxRecDepth 65536 in
set_option maxHeartbeats 40000000 in
theorem mk0 (l : Launch) (Z : State) (a0 : Array Value) (hw : ∀ d ∈ tables_1, d.before a0 Z = true) (ws : List Jvm.Cond) (p2 : Int32) (p3 : Int32) (zc : Int32) (h0 : Heap) (n0 : Nat) (O0 : Old Z n0 h0) (h2 : C8 p2) (h3 : C8 p3) (SZ : Sta Z Z.heap "java/lang/String" "COMPACT_STRINGS" "Z" (.int zc)) (PZ : ¬ (zc = (0 : Int32))) :
    MetFree l (⟨"com/example/syndex/syndex/SectionKeyPathPinLaw", "mk", "(ICC)Ljava/lang/String;"⟩ : MethodName) (head1 (Jvm.Cond.code (⟨"com/example/syndex/syndex/SectionKeyPathPinLaw", "mk", "(ICC)Ljava/lang/String;"⟩ : MethodName) method_2_code 3 (some (.object "java/lang/String")) :: ws) ({ frames := 3, cells := 6, slots := 12, locals := 43 } : Room)) (fun a U => a = #[(.int (0 : Int32)), (.int p2), (.int p3)] ∧ Z.Warmed39 U.vm ∧ U.heap = h0 ∧ CHv Z consts_1 U.vm h0 ∧ ∀ x ∈ ([] : List Addr), Safe Z consts_1 U.vm h0 x) (fun _ _ _ _ _ => True) (fun _ U o U' => ∃ v L, o = .returned v ∧ Q_mk0 Z p2 p3 zc h0 n0 v U'.heap L ∧ CHr Z consts_1 U.vm U.heap U'.vm U'.heap ∧ ReturnedEndW U o U' L ({ frames := 3, cells := 6, slots := 12, locals := 43 } : Room).cells ({ frames := 3, cells := 6, slots := 12, locals := 43 } : Room).slots) := by
  refine MetFree.of_bodySF (plainFor_of_name pn_2) hisR ?_
  intro p e s m args below meth c s₁ Bd hml0 hP hK
  obtain ⟨rfl, hZ, hh, hH0, hSf⟩ := hP
  have hx := Bd.exec
  have hby := Bd.bytes
  have hml : c.maxLocals = 3 := hml0
  have hEL : EW Z a0 consts_1 := own_EW hw
  have CR0 : CHr Z consts_1 s.vm h0 s.vm h0 := CHr.refl hH0
  have hown : s.vm.findClass "com/example/syndex/syndex/SectionKeyPathPinLaw" = some m.cls := findClass_of_methodNamed Bd.named
  have hnm := (name_of_methodNamed Bd.named Bd.method).1
  have hS0 : s.Since s.vm h0.size := (State.WarmedH.refl s).since _
  have hstr : ∀ a ∈ Bundle.stringAtoms, a.before a0 Z = true := own_str hw
  have X0 : Stand p l e ({ frames := 3, cells := 6, slots := 12, locals := 43 } : Room) (s.setVm s.vm) m #[(.int (0 : Int32)), (.int p2), (.int p3)] below meth c s₁ [] 0 0 := Stand.of_body Bd
  have e0 : s₁.heap = h0 := by rw [← hh, Bd.state]; rfl
  have N0 := Fr.nil n0
  have Z0 : n0 ≤ h0.size := old_le O0
  have pre0 : ∀ t, Steps p.tables e below (s₁.setTop (mkF m 0 #[.val (.int (0 : Int32)), .val (.int p2), .val (.int p3)] [])) t → Steps p.tables e below (s₁.setTop (entryFrame m #[(.int (0 : Int32)), (.int p2), (.int p3)] 3)) t := fun t k => castTop (ef_mk0 m (0 : Int32) p2 p3) k
  obtain ⟨T101, h101, X101, e101, E101, A101, D101, -, st101⟩ := newO X0 hx hZ hown (hwk hw 4 rfl) (hwk hw 5 rfl) (hwk hw 6 rfl) e0 (g := (mkF m 4 #[.val (.int (0 : Int32)), .val (.int p2), .val (.int p3)] [])) rfl (hb hby d1_4) (by decide) (by decide)
  obtain ⟨b101, g101⟩ : ∃ z, z = h0.size := ⟨_, rfl⟩
  rw [← g101] at A101 D101 st101
  have g_b101 : n0 ≤ b101 := Nat.le_trans (old_le O0) (Nat.le_of_eq g101.symm)
  have O102 : Old Z n0 h101 := Old.ext O0 E101
  obtain ⟨T103, h103, k103, X103, e103, E103, A103, st103⟩ := newP X101 hx hZ (hwk hw 7 rfl) e101 (g := (mkF m 9 #[.val (.int (0 : Int32)), .val (.int p2), .val (.int p3)] [(.int (0 : Int32)), (.ref b101), (.ref b101)])) rfl (hb hby d1_9) rfl (by decide) (cap := 0) (by decide) (by decide) (by decide) (by decide)
  obtain ⟨b103, g103⟩ : ∃ z, z = h101.size := ⟨_, rfl⟩
  rw [← g103] at A103 st103
  have g_b103 : n0 ≤ b103 := Nat.le_trans (old_le O102) (Nat.le_of_eq g103.symm)
  have V103 : Arv Z h103 b103 k103 .char (0 : Int32) [] (.int (0 : Int32)) := (Arv.new A103 (by decide)).pad (pad_rep [] (.int (0 : Int32)) 0)
  have c104 : Exa Z h103 b101 "java/lang/String" := (Exa.ext E103 A101)
  have c105 : Fld Z h103 b101 "java/lang/String" "value" "[B" .null := (Fld.ext E103 (show Fld Z h101 b101 "java/lang/String" "value" "[B" .null from D101 (Or.inr (hwk hw 20 rfl)) (ty := (.array .byte)) (by decide)))
  have c106 : Fld Z h103 b101 "java/lang/String" "coder" "B" (.int (0 : Int32)) := (Fld.ext E103 (show Fld Z h101 b101 "java/lang/String" "coder" "B" (.int (0 : Int32)) from D101 (Or.inr (hwk hw 21 rfl)) (ty := .byte) (by decide)))
  have O107 : Old Z n0 h103 := Old.ext O102 E103
  have Sf109 : Safe Z consts_1 s.vm h0 b101 := Safe.new (Nat.le_of_eq g101.symm)
  have CR110 : CHr Z consts_1 s.vm h0 s.vm h101 := CHr.trans CR0 (CHr.ext E101 CR0.1)
  have Sf111 : Safe Z consts_1 s.vm h103 b101 := (Safe.ext E103 CR110.1 (Safe.ext E101 CR0.1 Sf109))
  have CR112 : CHr Z consts_1 s.vm h0 s.vm h103 := CHr.trans CR110 (CHr.ext E103 CR110.1)
  obtain ⟨_, _, ⟨T108, L108, k108, n108⟩, -, X108, hs108', hg108', ⟨Lc108, hQ108, l108, y108, z108, CX108⟩, st108⟩ := X103.specialBackS hx (y := (⟨"java/lang/String", "<init>", "([C)V"⟩ : MethodName)) rfl hown (mvT hZ (hwk hw 8 rfl)) (mvT hZ (hwk hw 9 rfl)) (mvT hZ (hwk hw 10 rfl)) (by decide) (own_backSH (W := 1) (rm2 l Z a0 hw [] b101 b103 k103 (.int (0 : Int32)) h103 n0 O107 c104 g_b101 c105 c106 V103) hZ (hwk hw 10 rfl) (hwk hw 6 rfl) (by decide) (by decide) hEL CR112.1 (own_sf ⟨(c104).lt, Sf111⟩ (fun _ q => nomatch q))) (g := (mkF m 11 #[.val (.int (0 : Int32)), .val (.int p2), .val (.int p3)] [(.ref b103), (.ref b101), (.ref b101)])) rfl (by rw [hml]; rfl) (Steps.refl _) (a := b101) (argsL := [(.ref b103)]) (rest := [(.ref b101)]) (lenOf pd_4 rfl) rfl (by show 2 * 0 + _ ≤ _; exact Nat.le_of_eq rfl) (hb hby d1_11) (fun _ _ => ⟨rfl, e103, (by decide : 2 + 4 ≤ _), (by decide : 4 + 8 ≤ _)⟩)
  dsimp only [Pt.U, Pt.locs, Pt.cells, Pt.slots] at X108 l108 y108 z108 st108 hQ108 hs108' hg108' CX108
  subst l108 y108 z108
  obtain ⟨X108b, hS108, hZ108, hown108⟩ := rebS hS0 (show _ ≤ T103.heap.size from by rw [e103]; exact (Nat.le_trans (Nat.le_refl _) (Nat.le_trans (Nat.le_trans (Nat.le_refl _) E101.1) E103.1))) X108 hs108' hg108' hZ hown
  unfold Q_rm2 at hQ108
  obtain ⟨t_108, kb_108, rfl, N108q, K108, f108_0, f108_1, f108_2, f108_3⟩ := hQ108
  have N108 := Fr.app N0 N108q
  have K113 : Keep h0 h101 [] := Keep.ext (Keep.refl h0 []) E101
  have K114 : Keep h0 h103 [] := Keep.ext K113 E103
  have K115 : Keep h0 T108.heap [] := Keep.trans K114 K108 (allS (Or.inr (Nat.le_trans (Nat.le_refl _) (Nat.le_of_eq g101.symm))) all0)
  have CR116 : CHr Z consts_1 s.vm h0 T108.vm T108.heap := CHr.trans CR112 CX108
  obtain ⟨fs, hr, hrun, hended, hRE⟩ := X108b.leaveW hS108 (show _ ≤ T108.heap.size from by rw [(rfl : T108.heap = T108.heap)]; exact (Nat.le_refl _)) (v := some (.ref b101)) (fun h => by rw [Bd.returns] at h; cases h)
  have CRl : CHr Z consts_1 s.vm s.heap (T108.setFrames fs).vm (T108.setFrames fs).heap := by
    have q := CHr.trans CR116 (CHv.at X108b hZ108 hEL CR116.1)
    rw [← hh, ← (rfl : T108.heap = T108.heap)] at q
    exact q
  refine ⟨_, _, pre0 _ ?_, hrun, hended, _, _, rfl, ?_, CRl, hRE.1, hRE.2.1, hRE.2.2.1, hRE.2.2.2.mono (by decide) (by decide)⟩
  · show Steps p.tables e below (s₁.setTop (mkF m 0 #[.val (.int (0 : Int32)), .val (.int p2), .val (.int p3)] [])) _
    refine XS.iloadN X0.here hx rfl (hb hby d1_0) rfl ?_
    refine XS.ifNo X0.here hx rfl (hb hby d1_1) rfl ((if0 _ _).trans (teq (by decide : (0 : Int32) = (0 : Int32))).2) ?_
    show Steps p.tables e below (s₁.setTop (mkF m 4 #[.val (.int (0 : Int32)), .val (.int p2), .val (.int p3)] [])) _
    refine st101 _ ?_
    show Steps p.tables e below (T101.setTop (mkF m 7 #[.val (.int (0 : Int32)), .val (.int p2), .val (.int p3)] [(.ref b101)])) _
    refine XS.dup X101.here hx rfl (hb hby d1_7) rfl rfl ?_
    show Steps p.tables e below (T101.setTop (mkF m 8 #[.val (.int (0 : Int32)), .val (.int p2), .val (.int p3)] [(.ref b101), (.ref b101)])) _
    refine XS.iconst X101.here hx rfl (hb hby d1_8) ?_
    show Steps p.tables e below (T101.setTop (mkF m 9 #[.val (.int (0 : Int32)), .val (.int p2), .val (.int p3)] [(.int (0 : Int32)), (.ref b101), (.ref b101)])) _
    refine st103 _ ?_
    show Steps p.tables e below (T103.setTop (mkF m 11 #[.val (.int (0 : Int32)), .val (.int p2), .val (.int p3)] [(.ref b103), (.ref b101), (.ref b101)])) _
    refine st108.trans ?_
    show Steps p.tables e below (T108.setTop (mkF m 14 #[.val (.int (0 : Int32)), .val (.int p2), .val (.int p3)] [(.ref b101)])) _
    exact Jvm.RoadKit.retOut X108b hx Bd.returns rfl (Or.inr (Or.inr (Or.inr (Or.inr ⟨rfl, rfl, rfl⟩)))) (hb hby d1_14) hr
  · show Q_mk0 Z p2 p3 zc h0 n0 _ T108.heap _
    unfold Q_mk0
    exact ⟨b101, t_108, kb_108, rfl, N108, K115, (Nat.le_trans (Nat.le_refl _) (Nat.le_of_eq g101.symm)), f108_0, f108_2, f108_1, f108_3⟩
theorem ef_mk1 (m : MethodId) (x0 : Int32) (x1 : Int32) (x2 : Int32) : entryFrame m #[(.int x0), (.int x1), (.int x2)] 3 = mkF m 0 #[.val (.int x0), .val (.int x1), .val (.int x2)] [] := by first | (simp [entryFrame, mkF, argsToLocals, Value.category]; done) | rfl
def Q_mk1 (Z : State) (p2 : Int32) (p3 : Int32) (zc : Int32) (h0 : Heap) (n0 : Nat) (v : Option Value) (h : Heap) (L : List Loc) : Prop := ∃ o : Addr, ∃ t : Addr, ∃ kb : ClassId, (v = some (.ref o)) ∧ (Fr n0 L) ∧ (Keep h0 h []) ∧ (h0.size ≤ o) ∧ (Exa Z h o "java/lang/String") ∧ (Fld Z h o "java/lang/String" "value" "[B" (.ref t)) ∧ (Fld Z h o "java/lang/String" "coder" "B" (.int (0 : Int32))) ∧ (Arv Z h t kb .byte (1 : Int32) [(.int (BY p2))] (.int (0 : Int32)))
theorem d1_15 : decode method_2_code 15 = .ok (.iload_n 0, 1) := by decide +kernel
theorem d1_16 : decode method_2_code 16 = .ok (.iconst 1, 1) := by decide +kernel
theorem d1_17 : decode method_2_code 17 = .ok (.if_icmp .ne 8, 3) := by decide +kernel
theorem d1_20 : decode method_2_code 20 = .ok (.iload_n 1, 1) := by decide +kernel
theorem d1_21 : decode method_2_code 21 = .ok (.invokestatic 12, 3) := by decide +kernel
theorem pd_5 : parseMethodDescriptor "(C)Ljava/lang/String;" = some ⟨[.char], some (.object "java/lang/String")⟩ := by decide +kernel
theorem d1_24 : decode method_2_code 24 = .ok (.areturn, 1) := by decide +kernel
set_option maxRecDepth 65536 in
set_option maxHeartbeats 40000000 in
theorem mk1 (l : Launch) (Z : State) (a0 : Array Value) (hw : ∀ d ∈ tables_1, d.before a0 Z = true) (ws : List Jvm.Cond) (p2 : Int32) (p3 : Int32) (zc : Int32) (h0 : Heap) (n0 : Nat) (O0 : Old Z n0 h0) (h2 : C8 p2) (h3 : C8 p3) (SZ : Sta Z Z.heap "java/lang/String" "COMPACT_STRINGS" "Z" (.int zc)) (PZ : ¬ (zc = (0 : Int32))) :
    MetFree l (⟨"com/example/syndex/syndex/SectionKeyPathPinLaw", "mk", "(ICC)Ljava/lang/String;"⟩ : MethodName) (head1 (Jvm.Cond.code (⟨"com/example/syndex/syndex/SectionKeyPathPinLaw", "mk", "(ICC)Ljava/lang/String;"⟩ : MethodName) method_2_code 3 (some (.object "java/lang/String")) :: ws) ({ frames := 3, cells := 2, slots := 5, locals := 39 } : Room)) (fun a U => a = #[(.int (1 : Int32)), (.int p2), (.int p3)] ∧ Z.Warmed39 U.vm ∧ U.heap = h0) (fun _ _ _ _ _ => True) (fun _ U o U' => ∃ v L, o = .returned v ∧ Q_mk1 Z p2 p3 zc h0 n0 v U'.heap L ∧ FrameEnd U o U' L ({ frames := 3, cells := 2, slots := 5, locals := 39 } : Room).cells ({ frames := 3, cells := 2, slots := 5, locals := 39 } : Room).slots) := by
  refine MetFree.of_bodySF (plainFor_of_name pn_2) hisR ?_
  intro p e s m args below meth c s₁ Bd hml0 hP hK
  obtain ⟨rfl, hZ, hh⟩ := hP
  have hx := Bd.exec
  have hby := Bd.bytes
  have hml : c.maxLocals = 3 := hml0
  have hown : s.vm.findClass "com/example/syndex/syndex/SectionKeyPathPinLaw" = some m.cls := findClass_of_methodNamed Bd.named
  have hnm := (name_of_methodNamed Bd.named Bd.method).1
  have X0 : Stand p l e ({ frames := 3, cells := 2, slots := 5, locals := 39 } : Room) s m #[(.int (1 : Int32)), (.int p2), (.int p3)] below meth c s₁ [] 0 0 := Stand.of_body Bd
  have e0 : s₁.heap = h0 := by rw [← hh, Bd.state]; rfl
  have N0 := Fr.nil n0
  have Z0 : n0 ≤ h0.size := old_le O0
  have pre0 : ∀ t, Steps p.tables e below (s₁.setTop (mkF m 0 #[.val (.int (1 : Int32)), .val (.int p2), .val (.int p3)] [])) t → Steps p.tables e below (s₁.setTop (entryFrame m #[(.int (1 : Int32)), (.int p2), (.int p3)] 3)) t := fun t k => castTop (ef_mk1 m (1 : Int32) p2 p3) k
  obtain ⟨_, _, ⟨T101, L101, k101, n101⟩, -, X101, ⟨Lc101, hQ101, l101, y101, z101⟩, st101⟩ := Jvm.LawKit.callS X0 hx (y := (⟨"java/lang/String", "valueOf", "(C)Ljava/lang/String;"⟩ : MethodName)) hown (mvT hZ (hwk hw 188 rfl)) (mvT hZ (hwk hw 189 rfl)) (mvT hZ (hwk hw 6 rfl)) (mvT hZ (hwk hw 190 rfl)) (by decide) (backOf (W := 0) (rm38 l Z a0 hw [] p2 zc h0 n0 O0 SZ PZ h2.2) hZ (hwk hw 190 rfl) (hwk hw 6 rfl) (by decide) (by decide)) (g := (mkF m 21 #[.val (.int (1 : Int32)), .val (.int p2), .val (.int p3)] [(.int p2)])) rfl (by rw [hml]; rfl) (argsL := [(.int p2)]) (rest := []) (lenOf pd_5 rfl) rfl (by show 2 * 0 + _ ≤ _; exact Nat.le_of_eq rfl) (hb hby d1_21) (fun _ _ => ⟨rfl, e0, (by decide : 0 + 2 ≤ _), (by decide : 0 + 5 ≤ _)⟩)
  dsimp only [Pt.U, Pt.locs, Pt.cells, Pt.slots] at X101 l101 y101 z101 st101 hQ101
  subst l101 y101 z101
  unfold Q_rm38 at hQ101
  obtain ⟨b_101, t_101, k_101, rfl, N101q, K101, ge_b_101, ge_t_101, f101_0, f101_1, f101_2, f101_3, f101_4⟩ := hQ101
  have N101 := Fr.app N0 N101q
  have g_b_101 : n0 ≤ b_101 := Nat.le_trans (old_le O0) ge_b_101
  have g_t_101 : n0 ≤ t_101 := Nat.le_trans (old_le O0) ge_t_101
  have K102 : Keep h0 T101.heap [] := Keep.trans (Keep.refl h0 []) K101 all0
  obtain ⟨fs, hr, hrun, hended, hW, hsame⟩ := X101.leave (v := some (.ref b_101)) (fun h => by rw [Bd.returns] at h; cases h)
  refine ⟨_, _, pre0 _ ?_, hrun, hended, _, _, rfl, ?_, ⟨_, rfl⟩, hW, hsame.mono (by decide) (by decide)⟩
  · show Steps p.tables e below (s₁.setTop (mkF m 0 #[.val (.int (1 : Int32)), .val (.int p2), .val (.int p3)] [])) _
    refine XS.iloadN X0.here hx rfl (hb hby d1_0) rfl ?_
    refine XS.ifYes X0.here hx rfl (pc0 := 1) (pc' := 15) rfl (hb hby d1_1) rfl ((if0 _ _).trans (feq (by decide : ¬ ((1 : Int32) = (0 : Int32)))).2) (by decide) (by decide) ?_
    show Steps p.tables e below (s₁.setTop (mkF m 15 #[.val (.int (1 : Int32)), .val (.int p2), .val (.int p3)] [])) _
    refine XS.iloadN X0.here hx rfl (hb hby d1_15) rfl ?_
    refine XS.iconst X0.here hx rfl (hb hby d1_16) ?_
    refine XS.icmpNo X0.here hx rfl (hb hby d1_17) rfl (teq (by decide : (1 : Int32) = (1 : Int32))).2 ?_
    show Steps p.tables e below (s₁.setTop (mkF m 20 #[.val (.int (1 : Int32)), .val (.int p2), .val (.int p3)] [])) _
    refine XS.iloadN X0.here hx rfl (hb hby d1_20) rfl ?_
    show Steps p.tables e below (s₁.setTop (mkF m 21 #[.val (.int (1 : Int32)), .val (.int p2), .val (.int p3)] [(.int p2)])) _
    refine st101 _ ?_
    show Steps p.tables e below (T101.setTop (mkF m 24 #[.val (.int (1 : Int32)), .val (.int p2), .val (.int p3)] [(.ref b_101)])) _
    exact Jvm.RoadKit.retOut X101 hx Bd.returns rfl (Or.inr (Or.inr (Or.inr (Or.inr ⟨rfl, rfl, rfl⟩)))) (hb hby d1_24) hr
  · show Q_mk1 Z p2 p3 zc h0 n0 _ T101.heap _
    unfold Q_mk1
    exact ⟨b_101, t_101, k_101, rfl, N101, K102, (Nat.le_trans (Nat.le_refl _) ge_b_101), f101_0, f101_1, f101_2, (own_arv f101_3 (by rw [own_narb h2]))⟩
theorem ef_mk2 (m : MethodId) (x0 : Int32) (x1 : Int32) (x2 : Int32) : entryFrame m #[(.int x0), (.int x1), (.int x2)] 3 = mkF m 0 #[.val (.int x0), .val (.int x1), .val (.int x2)] [] := by first | (simp [entryFrame, mkF, argsToLocals, Value.category]; done) | rfl
def Q_mk2 (Z : State) (p2 : Int32) (p3 : Int32) (zc : Int32) (h0 : Heap) (n0 : Nat) (v : Option Value) (h : Heap) (L : List Loc) : Prop := ∃ o : Addr, ∃ t : Addr, ∃ kb : ClassId, (v = some (.ref o)) ∧ (Fr n0 L) ∧ (Keep h0 h []) ∧ (h0.size ≤ o) ∧ (Exa Z h o "java/lang/String") ∧ (Fld Z h o "java/lang/String" "value" "[B" (.ref t)) ∧ (Fld Z h o "java/lang/String" "coder" "B" (.int (0 : Int32))) ∧ (Arv Z h t kb .byte (2 : Int32) [(.int (BY p2)), (.int (BY p3))] (.int (0 : Int32)))
theorem d1_25 : decode method_2_code 25 = .ok (.new 7, 3) := by decide +kernel
theorem d1_28 : decode method_2_code 28 = .ok (.dup, 1) := by decide +kernel
theorem d1_29 : decode method_2_code 29 = .ok (.iconst 2, 1) := by decide +kernel
theorem d1_30 : decode method_2_code 30 = .ok (.newarray .char, 2) := by decide +kernel
theorem d1_32 : decode method_2_code 32 = .ok (.dup, 1) := by decide +kernel
theorem d1_33 : decode method_2_code 33 = .ok (.iconst 0, 1) := by decide +kernel
theorem d1_34 : decode method_2_code 34 = .ok (.iload_n 1, 1) := by decide +kernel
theorem d1_35 : decode method_2_code 35 = .ok (.castore, 1) := by decide +kernel
theorem d1_36 : decode method_2_code 36 = .ok (.dup, 1) := by decide +kernel
theorem d1_37 : decode method_2_code 37 = .ok (.iconst 1, 1) := by decide +kernel
theorem d1_38 : decode method_2_code 38 = .ok (.iload_n 2, 1) := by decide +kernel
theorem d1_39 : decode method_2_code 39 = .ok (.castore, 1) := by decide +kernel
theorem d1_40 : decode method_2_code 40 = .ok (.invokespecial 9, 3) := by decide +kernel
theorem d1_43 : decode method_2_code 43 = .ok (.areturn, 1) := by decide +kernel
set_option maxRecDepth 65536 in
set_option maxHeartbeats 40000000 in
theorem mk2 (l : Launch) (Z : State) (a0 : Array Value) (hw : ∀ d ∈ tables_1, d.before a0 Z = true) (ws : List Jvm.Cond) (p2 : Int32) (p3 : Int32) (zc : Int32) (h0 : Heap) (n0 : Nat) (O0 : Old Z n0 h0) (h2 : C8 p2) (h3 : C8 p3) (SZ : Sta Z Z.heap "java/lang/String" "COMPACT_STRINGS" "Z" (.int zc)) (PZ : ¬ (zc = (0 : Int32))) :
    MetFree l (⟨"com/example/syndex/syndex/SectionKeyPathPinLaw", "mk", "(ICC)Ljava/lang/String;"⟩ : MethodName) (head1 (Jvm.Cond.code (⟨"com/example/syndex/syndex/SectionKeyPathPinLaw", "mk", "(ICC)Ljava/lang/String;"⟩ : MethodName) method_2_code 3 (some (.object "java/lang/String")) :: ws) ({ frames := 4, cells := 3, slots := 8, locals := 66 } : Room)) (fun a U => a = #[(.int (2 : Int32)), (.int p2), (.int p3)] ∧ Z.Warmed39 U.vm ∧ U.heap = h0) (fun _ _ _ _ _ => True) (fun _ U o U' => ∃ v L, o = .returned v ∧ Q_mk2 Z p2 p3 zc h0 n0 v U'.heap L ∧ FrameEnd U o U' L ({ frames := 4, cells := 3, slots := 8, locals := 66 } : Room).cells ({ frames := 4, cells := 3, slots := 8, locals := 66 } : Room).slots) := by
  refine MetFree.of_bodySF (plainFor_of_name pn_2) hisR ?_
  intro p e s m args below meth c s₁ Bd hml0 hP hK
  obtain ⟨rfl, hZ, hh⟩ := hP
  have hx := Bd.exec
  have hby := Bd.bytes
  have hml : c.maxLocals = 3 := hml0
  have hown : s.vm.findClass "com/example/syndex/syndex/SectionKeyPathPinLaw" = some m.cls := findClass_of_methodNamed Bd.named
  have hnm := (name_of_methodNamed Bd.named Bd.method).1
  have X0 : Stand p l e ({ frames := 4, cells := 3, slots := 8, locals := 66 } : Room) s m #[(.int (2 : Int32)), (.int p2), (.int p3)] below meth c s₁ [] 0 0 := Stand.of_body Bd
  have e0 : s₁.heap = h0 := by rw [← hh, Bd.state]; rfl
  have N0 := Fr.nil n0
  have Z0 : n0 ≤ h0.size := old_le O0
  have pre0 : ∀ t, Steps p.tables e below (s₁.setTop (mkF m 0 #[.val (.int (2 : Int32)), .val (.int p2), .val (.int p3)] [])) t → Steps p.tables e below (s₁.setTop (entryFrame m #[(.int (2 : Int32)), (.int p2), (.int p3)] 3)) t := fun t k => castTop (ef_mk2 m (2 : Int32) p2 p3) k
  obtain ⟨T101, h101, X101, e101, E101, A101, D101, -, st101⟩ := newO X0 hx hZ hown (hwk hw 4 rfl) (hwk hw 5 rfl) (hwk hw 6 rfl) e0 (g := (mkF m 25 #[.val (.int (2 : Int32)), .val (.int p2), .val (.int p3)] [])) rfl (hb hby d1_25) (by decide) (by decide)
  obtain ⟨b101, g101⟩ : ∃ z, z = h0.size := ⟨_, rfl⟩
  rw [← g101] at A101 D101 st101
  have g_b101 : n0 ≤ b101 := Nat.le_trans (old_le O0) (Nat.le_of_eq g101.symm)
  have O102 : Old Z n0 h101 := Old.ext O0 E101
  obtain ⟨T103, h103, k103, X103, e103, E103, A103, st103⟩ := newP X101 hx hZ (hwk hw 7 rfl) e101 (g := (mkF m 30 #[.val (.int (2 : Int32)), .val (.int p2), .val (.int p3)] [(.int (2 : Int32)), (.ref b101), (.ref b101)])) rfl (hb hby d1_30) rfl (by decide) (cap := 2) (by decide) (by decide) (by decide) (by decide)
  obtain ⟨b103, g103⟩ : ∃ z, z = h101.size := ⟨_, rfl⟩
  rw [← g103] at A103 st103
  have g_b103 : n0 ≤ b103 := Nat.le_trans (old_le O102) (Nat.le_of_eq g103.symm)
  have V103 : Arv Z h103 b103 k103 .char (2 : Int32) [(.int (0 : Int32)), (.int (0 : Int32))] (.int (0 : Int32)) := (Arv.new A103 (by decide)).pad (pad_rep [] (.int (0 : Int32)) 2)
  obtain ⟨clq104, Arq104, kqq104, Szq104, Nnq104, Hsq104, Gsq104⟩ := id V103
  have hinq104 : ¬ ((0 : Int32) < 0 ∨ clq104.slots.size ≤ ((0 : Int32)).toNatClampNeg) := inb_of Szq104 ⟨by decide, by decide⟩
  obtain ⟨T105, h105, X105, e105, W105, st105⟩ := stC X103 hx hZ e103 Arq104 (j := (0 : Int32)) hinq104 (g := (mkF m 35 #[.val (.int (2 : Int32)), .val (.int p2), .val (.int p3)] [(.int p2), (.int (0 : Int32)), (.ref b103), (.ref b103), (.ref b101), (.ref b101)])) rfl rfl (hb hby d1_35)
  have V105 : Arv Z h105 b103 k103 .char (2 : Int32) [(.int (nar .char p2)), (.int (0 : Int32))] (.int (0 : Int32)) := Arv.set Arq104 kqq104 Szq104 Nnq104 Hsq104 Gsq104 (fits_nar_char _) W105 0 rfl (Nat.le_of_ble_eq_true rfl)
  have N105 := Fr.snoc X105 N0 g_b103
  obtain ⟨clq106, Arq106, kqq106, Szq106, Nnq106, Hsq106, Gsq106⟩ := id V105
  have hinq106 : ¬ ((1 : Int32) < 0 ∨ clq106.slots.size ≤ ((1 : Int32)).toNatClampNeg) := inb_of Szq106 ⟨by decide, by decide⟩
  obtain ⟨T107, h107, X107, e107, W107, st107⟩ := stC X105 hx hZ e105 Arq106 (j := (1 : Int32)) hinq106 (g := (mkF m 39 #[.val (.int (2 : Int32)), .val (.int p2), .val (.int p3)] [(.int p3), (.int (1 : Int32)), (.ref b103), (.ref b103), (.ref b101), (.ref b101)])) rfl rfl (hb hby d1_39)
  have V107 : Arv Z h107 b103 k103 .char (2 : Int32) [(.int (nar .char p2)), (.int (nar .char p3))] (.int (0 : Int32)) := Arv.set Arq106 kqq106 Szq106 Nnq106 Hsq106 Gsq106 (fits_nar_char _) W107 1 rfl (Nat.le_of_ble_eq_true rfl)
  have N107 := Fr.snoc X107 N105 g_b103
  have hp108 : ∀ c ∈ ([(nar .char p2), (nar .char p3)] : List Int32), ¬ c < 0 ∧ ¬ (255 : Int32) < c := by
    intro c hc
    simp only [List.mem_cons, List.not_mem_nil, or_false] at hc
    rcases hc with rfl | rfl
    · rw [own_narc h2]; exact h2
    · rw [own_narc h3]; exact h3
  have hws109 : ∀ d ∈ StrChars.Road.words, d.before a0 Z = true := fun d hd => hw d ((by decide +kernel : ∀ d ∈ StrChars.Road.words, d ∈ tables_1) d hd)
  have O110 : Old Z n0 h103 := Old.ext O102 E103
  have O111 : Old Z n0 h105 := Old.wr O110 W105 g_b103
  have O112 : Old Z n0 h107 := Old.wr O111 W107 g_b103
  have c113 : Exa Z h107 b101 "java/lang/String" := (Exa.wr W107 (Exa.wr W105 (Exa.ext E103 A101)))
  have c114 : Fld Z h107 b101 "java/lang/String" "value" "[B" .null := (Fld.other W107 (Fld.other W105 (Fld.ext E103 (show Fld Z h101 b101 "java/lang/String" "value" "[B" .null from D101 (Or.inr (hwk hw 20 rfl)) (ty := (.array .byte)) (by decide))) (Or.inl (Exa.neArv c113 V107 (hwk hw 5 rfl)))) (Or.inl (Exa.neArv c113 V107 (hwk hw 5 rfl))))
  have c115 : Fld Z h107 b101 "java/lang/String" "coder" "B" (.int (0 : Int32)) := (Fld.other W107 (Fld.other W105 (Fld.ext E103 (show Fld Z h101 b101 "java/lang/String" "coder" "B" (.int (0 : Int32)) from D101 (Or.inr (hwk hw 21 rfl)) (ty := .byte) (by decide))) (Or.inl (Exa.neArv c113 V107 (hwk hw 5 rfl)))) (Or.inl (Exa.neArv c113 V107 (hwk hw 5 rfl))))
  have c116 : Sta Z h107 "java/lang/String" "COMPACT_STRINGS" "Z" (.int zc) := Sta.ext (O112).2 SZ
  obtain ⟨_, _, ⟨T117, L117, k117, n117⟩, -, X117, ⟨Lc117, hQ117, l117, y117, z117⟩, st117⟩ := X107.specialBack hx (y := (⟨"java/lang/String", "<init>", "([C)V"⟩ : MethodName)) rfl hown (mvT hZ (hwk hw 8 rfl)) (mvT hZ (hwk hw 9 rfl)) (mvT hZ (hwk hw 10 rfl)) (by decide) (StrChars.Road.backV (W := 1) hZ hws109 (kI := 4) (hwk hw 5 rfl) (cs := ([(nar .char p2), (nar .char p3)] : List Int32)) (bs := (([(nar .char p2), (nar .char p3)] : List Int32)).map (fun c => c.toInt8.toInt32)) (n := 2) g_b101 (old_le O112) c113 c114 c115 V107 c116 PZ rfl rfl (by decide) (by decide) hp108 rfl (by decide) (by decide)) (g := (mkF m 40 #[.val (.int (2 : Int32)), .val (.int p2), .val (.int p3)] [(.ref b103), (.ref b101), (.ref b101)])) rfl (by rw [hml]; rfl) (Steps.refl _) (a := b101) (argsL := [(.ref b103)]) (rest := [(.ref b101)]) (lenOf pd_4 rfl) rfl (by show 2 * 0 + _ ≤ _; exact Nat.le_of_eq rfl) (hb hby d1_40) (fun _ _ => ⟨rfl, e107, (by decide : 2 + 1 ≤ _), (by decide : 6 + 2 ≤ _)⟩)
  dsimp only [Pt.U, Pt.locs, Pt.cells, Pt.slots] at X117 l117 y117 z117 st117 hQ117
  subst l117 y117 z117
  unfold StrChars.Road.QV at hQ117
  obtain ⟨rfl, N117q, K117, E117x, C117, t117, kb117, g_t117, ge_t117, ne117, V117, A117⟩ := hQ117
  have N117 := Fr.app N107 N117q
  have K118 : Keep h0 h101 [] := Keep.ext (Keep.refl h0 []) E101
  have K119 : Keep h0 h103 [] := Keep.ext K118 E103
  have K120 : Keep h0 h105 [] := Keep.wr K119 W105 (Or.inr (Nat.le_trans (Nat.le_trans (Nat.le_refl _) E101.1) (Nat.le_of_eq g103.symm)))
  have K121 : Keep h0 h107 [] := Keep.wr K120 W107 (Or.inr (Nat.le_trans (Nat.le_trans (Nat.le_refl _) E101.1) (Nat.le_of_eq g103.symm)))
  have K122 : Keep h0 T117.heap [] := Keep.trans K121 K117 (allS (Or.inr (Nat.le_trans (Nat.le_refl _) (Nat.le_of_eq g101.symm))) all0)
  obtain ⟨fs, hr, hrun, hended, hW, hsame⟩ := X117.leave (v := some (.ref b101)) (fun h => by rw [Bd.returns] at h; cases h)
  refine ⟨_, _, pre0 _ ?_, hrun, hended, _, _, rfl, ?_, ⟨_, rfl⟩, hW, hsame.mono (by decide) (by decide)⟩
  · show Steps p.tables e below (s₁.setTop (mkF m 0 #[.val (.int (2 : Int32)), .val (.int p2), .val (.int p3)] [])) _
    refine XS.iloadN X0.here hx rfl (hb hby d1_0) rfl ?_
    refine XS.ifYes X0.here hx rfl (pc0 := 1) (pc' := 15) rfl (hb hby d1_1) rfl ((if0 _ _).trans (feq (by decide : ¬ ((2 : Int32) = (0 : Int32)))).2) (by decide) (by decide) ?_
    show Steps p.tables e below (s₁.setTop (mkF m 15 #[.val (.int (2 : Int32)), .val (.int p2), .val (.int p3)] [])) _
    refine XS.iloadN X0.here hx rfl (hb hby d1_15) rfl ?_
    refine XS.iconst X0.here hx rfl (hb hby d1_16) ?_
    refine XS.icmpYes X0.here hx rfl (pc0 := 17) (pc' := 25) rfl (hb hby d1_17) rfl (feq (by decide : ¬ ((2 : Int32) = (1 : Int32)))).2 (by decide) (by decide) ?_
    show Steps p.tables e below (s₁.setTop (mkF m 25 #[.val (.int (2 : Int32)), .val (.int p2), .val (.int p3)] [])) _
    refine st101 _ ?_
    show Steps p.tables e below (T101.setTop (mkF m 28 #[.val (.int (2 : Int32)), .val (.int p2), .val (.int p3)] [(.ref b101)])) _
    refine XS.dup X101.here hx rfl (hb hby d1_28) rfl rfl ?_
    show Steps p.tables e below (T101.setTop (mkF m 29 #[.val (.int (2 : Int32)), .val (.int p2), .val (.int p3)] [(.ref b101), (.ref b101)])) _
    refine XS.iconst X101.here hx rfl (hb hby d1_29) ?_
    show Steps p.tables e below (T101.setTop (mkF m 30 #[.val (.int (2 : Int32)), .val (.int p2), .val (.int p3)] [(.int (2 : Int32)), (.ref b101), (.ref b101)])) _
    refine st103 _ ?_
    show Steps p.tables e below (T103.setTop (mkF m 32 #[.val (.int (2 : Int32)), .val (.int p2), .val (.int p3)] [(.ref b103), (.ref b101), (.ref b101)])) _
    refine XS.dup X103.here hx rfl (hb hby d1_32) rfl rfl ?_
    show Steps p.tables e below (T103.setTop (mkF m 33 #[.val (.int (2 : Int32)), .val (.int p2), .val (.int p3)] [(.ref b103), (.ref b103), (.ref b101), (.ref b101)])) _
    refine XS.iconst X103.here hx rfl (hb hby d1_33) ?_
    refine XS.iloadN X103.here hx rfl (hb hby d1_34) rfl ?_
    show Steps p.tables e below (T103.setTop (mkF m 35 #[.val (.int (2 : Int32)), .val (.int p2), .val (.int p3)] [(.int p2), (.int (0 : Int32)), (.ref b103), (.ref b103), (.ref b101), (.ref b101)])) _
    refine st105 _ ?_
    show Steps p.tables e below (T105.setTop (mkF m 36 #[.val (.int (2 : Int32)), .val (.int p2), .val (.int p3)] [(.ref b103), (.ref b101), (.ref b101)])) _
    refine XS.dup X105.here hx rfl (hb hby d1_36) rfl rfl ?_
    show Steps p.tables e below (T105.setTop (mkF m 37 #[.val (.int (2 : Int32)), .val (.int p2), .val (.int p3)] [(.ref b103), (.ref b103), (.ref b101), (.ref b101)])) _
    refine XS.iconst X105.here hx rfl (hb hby d1_37) ?_
    refine XS.iloadN X105.here hx rfl (hb hby d1_38) rfl ?_
    show Steps p.tables e below (T105.setTop (mkF m 39 #[.val (.int (2 : Int32)), .val (.int p2), .val (.int p3)] [(.int p3), (.int (1 : Int32)), (.ref b103), (.ref b103), (.ref b101), (.ref b101)])) _
    refine st107 _ ?_
    show Steps p.tables e below (T107.setTop (mkF m 40 #[.val (.int (2 : Int32)), .val (.int p2), .val (.int p3)] [(.ref b103), (.ref b101), (.ref b101)])) _
    refine st117.trans ?_
    show Steps p.tables e below (T117.setTop (mkF m 43 #[.val (.int (2 : Int32)), .val (.int p2), .val (.int p3)] [(.ref b101)])) _
    exact Jvm.RoadKit.retOut X117 hx Bd.returns rfl (Or.inr (Or.inr (Or.inr (Or.inr ⟨rfl, rfl, rfl⟩)))) (hb hby d1_43) hr
  · show Q_mk2 Z p2 p3 zc h0 n0 _ T117.heap _
    unfold Q_mk2
    exact ⟨b101, t117, kb117, rfl, N117, K122, (Nat.le_trans (Nat.le_refl _) (Nat.le_of_eq g101.symm)), E117x, V117, C117, (own_arv A117 (by rw [own_narc h2, own_narc h3]; rfl))⟩
theorem ef_rm8 (m : MethodId) (x0 : Addr) : entryFrame m #[(.ref x0)] 1 = mkF m 0 #[.val (.ref x0)] [] := by first | (simp [entryFrame, mkF, argsToLocals, Value.category]; done) | rfl
def Q_rm8 (Z : State) (a1 : Addr) (zc : Int32) (h0 : Heap) (n0 : Nat) (v : Option Value) (h : Heap) (L : List Loc) : Prop := (v = some (.int (0 : Int32))) ∧ (Fr n0 L) ∧ (h = h0)
theorem d8_0 : decode jdk_42_method_152_code 0 = .ok (.getstatic 38, 3) := by decide +kernel
theorem d8_3 : decode jdk_42_method_152_code 3 = .ok (.ifCond .eq 10, 3) := by decide +kernel
theorem d8_6 : decode jdk_42_method_152_code 6 = .ok (.aload_n 0, 1) := by decide +kernel
theorem d8_7 : decode jdk_42_method_152_code 7 = .ok (.getfield 15, 3) := by decide +kernel
theorem d8_10 : decode jdk_42_method_152_code 10 = .ok (.goto 4, 3) := by decide +kernel
theorem d8_14 : decode jdk_42_method_152_code 14 = .ok (.ireturn, 1) := by decide +kernel
set_option maxRecDepth 65536 in
set_option maxHeartbeats 40000000 in
theorem rm8 (l : Launch) (Z : State) (a0 : Array Value) (hw : ∀ d ∈ tables_1, d.before a0 Z = true) (ws : List Jvm.Cond) (a1 : Addr) (zc : Int32) (h0 : Heap) (n0 : Nat) (O0 : Old Z n0 h0) (C1 : Fld Z h0 a1 "java/lang/String" "coder" "B" (.int (0 : Int32))) (SZ : Sta Z Z.heap "java/lang/String" "COMPACT_STRINGS" "Z" (.int zc)) (PZ : ¬ (zc = (0 : Int32))) :
    MetFree l (⟨"java/lang/String", "coder", "()B"⟩ : MethodName) (head1 (Jvm.Cond.code (⟨"java/lang/String", "coder", "()B"⟩ : MethodName) jdk_42_method_152_code 1 (some .byte) :: ws) ({ frames := 0, cells := 0, slots := 0, locals := 0 } : Room)) (fun a U => a = #[(.ref a1)] ∧ Z.Warmed39 U.vm ∧ U.heap = h0) (fun _ _ _ _ _ => True) (fun _ U o U' => ∃ v L, o = .returned v ∧ Q_rm8 Z a1 zc h0 n0 v U'.heap L ∧ FrameEnd U o U' L ({ frames := 0, cells := 0, slots := 0, locals := 0 } : Room).cells ({ frames := 0, cells := 0, slots := 0, locals := 0 } : Room).slots) := by
  refine MetFree.of_bodySF (plainFor_of_name pn_0) hisR ?_
  intro p e s m args below meth c s₁ Bd hml0 hP hK
  obtain ⟨rfl, hZ, hh⟩ := hP
  have hx := Bd.exec
  have hby := Bd.bytes
  have hml : c.maxLocals = 1 := hml0
  have hown : s.vm.findClass "java/lang/String" = some m.cls := findClass_of_methodNamed Bd.named
  have hnm := (name_of_methodNamed Bd.named Bd.method).1
  have X0 : Stand p l e ({ frames := 0, cells := 0, slots := 0, locals := 0 } : Room) s m #[(.ref a1)] below meth c s₁ [] 0 0 := Stand.of_body Bd
  have e0 : s₁.heap = h0 := by rw [← hh, Bd.state]; rfl
  have N0 := Fr.nil n0
  have Z0 : n0 ≤ h0.size := old_le O0
  have pre0 : ∀ t, Steps p.tables e below (s₁.setTop (mkF m 0 #[.val (.ref a1)] [])) t → Steps p.tables e below (s₁.setTop (entryFrame m #[(.ref a1)] 1)) t := fun t k => castTop (ef_rm8 m a1) k
  have c101 : Sta Z h0 "java/lang/String" "COMPACT_STRINGS" "Z" (.int zc) := Sta.ext (O0).2 SZ
  obtain ⟨T102, X102, e102, st102⟩ := getS2 X0 hx hZ hown (host := "") (Or.inl (hwk hw 45 rfl)) Via.refl e0 c101 (g := (mkF m 0 #[.val (.ref a1)] [])) rfl (hb hby d8_0)
  obtain ⟨T103, X103, e103, st103⟩ := getF X102 hx hZ hown (host := "") (Or.inl (hwk hw 25 rfl)) Via.refl e102 C1 (g := (mkF m 7 #[.val (.ref a1)] [(.ref a1)])) rfl rfl (hb hby d8_7)
  obtain ⟨fs, hr, hrun, hended, hW, hsame⟩ := X103.leave (v := some (.int (0 : Int32))) (fun h => by rw [Bd.returns] at h; cases h)
  refine ⟨_, _, pre0 _ ?_, hrun, hended, _, _, rfl, ?_, ⟨_, rfl⟩, hW, hsame.mono (by decide) (by decide)⟩
  · show Steps p.tables e below (s₁.setTop (mkF m 0 #[.val (.ref a1)] [])) _
    refine st102 _ ?_
    show Steps p.tables e below (T102.setTop (mkF m 3 #[.val (.ref a1)] [(.int zc)])) _
    refine XS.ifNo X102.here hx rfl (hb hby d8_3) rfl ((if0 _ _).trans (feq (PZ : ¬ (zc = (0 : Int32)))).1) ?_
    show Steps p.tables e below (T102.setTop (mkF m 6 #[.val (.ref a1)] [])) _
    refine XS.aloadN X102.here hx rfl (hb hby d8_6) rfl rfl ?_
    show Steps p.tables e below (T102.setTop (mkF m 7 #[.val (.ref a1)] [(.ref a1)])) _
    refine st103 _ ?_
    show Steps p.tables e below (T103.setTop (mkF m 10 #[.val (.ref a1)] [(.int (0 : Int32))])) _
    refine XS.goto X103.here hx rfl (pc0 := 10) (pc' := 14) rfl (hb hby d8_10) (by decide) (by decide) ?_
    show Steps p.tables e below (T103.setTop (mkF m 14 #[.val (.ref a1)] [(.int (0 : Int32))])) _
    exact Jvm.RoadKit.retOut X103 hx Bd.returns rfl (Or.inl ⟨rfl, by simp, _, rfl⟩) (hb hby d8_14) hr
  · show Q_rm8 Z a1 zc h0 n0 _ T103.heap _
    rw [e103]
    unfold Q_rm8
    exact ⟨rfl, N0, rfl⟩
theorem ef_rm7 (m : MethodId) (x0 : Addr) : entryFrame m #[(.ref x0)] 1 = mkF m 0 #[.val (.ref x0)] [] := by first | (simp [entryFrame, mkF, argsToLocals, Value.category]; done) | rfl
def Q_rm7 (Z : State) (s1 : Addr) (t1 : Addr) (k1 : ClassId) (m1 : Int32) (X1 : List Value) (zc : Int32) (h0 : Heap) (n0 : Nat) (v : Option Value) (h : Heap) (L : List Loc) : Prop := (v = some (.int m1)) ∧ (Fr n0 L) ∧ (h = h0)
theorem d7_0 : decode jdk_42_method_54_code 0 = .ok (.aload_n 0, 1) := by decide +kernel
theorem d7_1 : decode jdk_42_method_54_code 1 = .ok (.getfield 9, 3) := by decide +kernel
theorem d7_4 : decode jdk_42_method_54_code 4 = .ok (.arraylength, 1) := by decide +kernel
theorem d7_5 : decode jdk_42_method_54_code 5 = .ok (.aload_n 0, 1) := by decide +kernel
theorem d7_6 : decode jdk_42_method_54_code 6 = .ok (.invokevirtual 335, 3) := by decide +kernel
theorem pd_6 : parseMethodDescriptor "()B" = some ⟨[], some .byte⟩ := by decide +kernel
theorem d7_9 : decode jdk_42_method_54_code 9 = .ok (.ishr, 1) := by decide +kernel
theorem d7_10 : decode jdk_42_method_54_code 10 = .ok (.ireturn, 1) := by decide +kernel
set_option maxRecDepth 65536 in
set_option maxHeartbeats 40000000 in
theorem rm7 (l : Launch) (Z : State) (a0 : Array Value) (hw : ∀ d ∈ tables_1, d.before a0 Z = true) (ws : List Jvm.Cond) (s1 : Addr) (t1 : Addr) (k1 : ClassId) (m1 : Int32) (X1 : List Value) (zc : Int32) (h0 : Heap) (n0 : Nat) (O0 : Old Z n0 h0) (E1 : Exa Z h0 s1 "java/lang/String") (V1 : Fld Z h0 s1 "java/lang/String" "value" "[B" (.ref t1)) (C1 : Fld Z h0 s1 "java/lang/String" "coder" "B" (.int (0 : Int32))) (A1 : Arv Z h0 t1 k1 .byte m1 X1 (.int (0 : Int32))) (SZ : Sta Z Z.heap "java/lang/String" "COMPACT_STRINGS" "Z" (.int zc)) (PZ : ¬ (zc = (0 : Int32))) :
    MetFree l (⟨"java/lang/String", "length", "()I"⟩ : MethodName) (head1 (Jvm.Cond.code (⟨"java/lang/String", "length", "()I"⟩ : MethodName) jdk_42_method_54_code 1 (some .int) :: ws) ({ frames := 1, cells := 0, slots := 0, locals := 13 } : Room)) (fun a U => a = #[(.ref s1)] ∧ Z.Warmed39 U.vm ∧ U.heap = h0) (fun _ _ _ _ _ => True) (fun _ U o U' => ∃ v L, o = .returned v ∧ Q_rm7 Z s1 t1 k1 m1 X1 zc h0 n0 v U'.heap L ∧ FrameEnd U o U' L ({ frames := 1, cells := 0, slots := 0, locals := 13 } : Room).cells ({ frames := 1, cells := 0, slots := 0, locals := 13 } : Room).slots) := by
  refine MetFree.of_bodySF (plainFor_of_name pn_0) hisR ?_
  intro p e s m args below meth c s₁ Bd hml0 hP hK
  obtain ⟨rfl, hZ, hh⟩ := hP
  have hx := Bd.exec
  have hby := Bd.bytes
  have hml : c.maxLocals = 1 := hml0
  have hown : s.vm.findClass "java/lang/String" = some m.cls := findClass_of_methodNamed Bd.named
  have hnm := (name_of_methodNamed Bd.named Bd.method).1
  have X0 : Stand p l e ({ frames := 1, cells := 0, slots := 0, locals := 13 } : Room) s m #[(.ref s1)] below meth c s₁ [] 0 0 := Stand.of_body Bd
  have e0 : s₁.heap = h0 := by rw [← hh, Bd.state]; rfl
  have N0 := Fr.nil n0
  have Z0 : n0 ≤ h0.size := old_le O0
  have pre0 : ∀ t, Steps p.tables e below (s₁.setTop (mkF m 0 #[.val (.ref s1)] [])) t → Steps p.tables e below (s₁.setTop (entryFrame m #[(.ref s1)] 1)) t := fun t k => castTop (ef_rm7 m s1) k
  obtain ⟨T101, X101, e101, st101⟩ := getF X0 hx hZ hown (host := "") (Or.inl (hwk hw 24 rfl)) Via.refl e0 V1 (g := (mkF m 1 #[.val (.ref s1)] [(.ref s1)])) rfl rfl (hb hby d7_1)
  obtain ⟨cl102, Ar102, -, Sz102, Nn102, -, -⟩ := id A1
  obtain ⟨cq103, kq103, q103a, q103b, q103c⟩ := isOf hZ e101 E1
  obtain ⟨_, _, ⟨T103, L103, k103, n103⟩, -, X103, ⟨Lc103, hQ103, l103, y103, z103⟩, st103⟩ := X101.virtualBack hx (y := (⟨"java/lang/String", "coder", "()B"⟩ : MethodName)) (z := (⟨"java/lang/String", "coder", "()B"⟩ : MethodName)) hown (mvT hZ (hwk hw 40 rfl)) (mvT hZ (hwk hw 41 rfl)) (notFace_of_selects (args := #[]) (mvT hZ (hwk hw 43 rfl))) (mvT hZ (hwk hw 43 rfl)) (mvT hZ (hwk hw 42 rfl)) (by decide) (backOf (W := 1) (rm8 l Z a0 hw [] s1 zc h0 n0 O0 C1 SZ PZ) hZ (hwk hw 44 rfl) (hwk hw 6 rfl) (by decide) (by decide)) q103a q103c (g := (mkF m 6 #[.val (.ref s1)] [(.ref s1), (.int m1)])) rfl (by rw [hml]; rfl) (Steps.refl _) (argsL := []) (rest := [(.int m1)]) (lenOf pd_6 rfl) rfl (by show 2 * 0 + _ ≤ _; exact Nat.le_of_eq rfl) (hb hby d7_6) (fun _ _ => ⟨rfl, e101, (by decide : 0 + 0 ≤ _), (by decide : 0 + 0 ≤ _)⟩)
  dsimp only [Pt.U, Pt.locs, Pt.cells, Pt.slots] at X103 l103 y103 z103 st103 hQ103
  subst l103 y103 z103
  unfold Q_rm8 at hQ103
  obtain ⟨rfl, N103q, e103⟩ := hQ103
  have N103 := Fr.app N0 N103q
  obtain ⟨fs, hr, hrun, hended, hW, hsame⟩ := X103.leave (v := some (.int m1)) (fun h => by rw [Bd.returns] at h; cases h)
  refine ⟨_, _, pre0 _ ?_, hrun, hended, _, _, rfl, ?_, ⟨_, rfl⟩, hW, hsame.mono (by decide) (by decide)⟩
  · show Steps p.tables e below (s₁.setTop (mkF m 0 #[.val (.ref s1)] [])) _
    refine XS.aloadN X0.here hx rfl (hb hby d7_0) rfl rfl ?_
    show Steps p.tables e below (s₁.setTop (mkF m 1 #[.val (.ref s1)] [(.ref s1)])) _
    refine st101 _ ?_
    show Steps p.tables e below (T101.setTop (mkF m 4 #[.val (.ref s1)] [(.ref t1)])) _
    refine X101.arraylength hx (by rw [e101]; exact Ar102.1) (State.isArrayOf_alike hZ.alike Ar102.2.1) (g := (mkF m 4 #[.val (.ref s1)] [(.ref t1)])) rfl rfl (hb hby d7_4) _ ?_
    rw [len_of Sz102 Nn102]
    show Steps p.tables e below (T101.setTop (mkF m 5 #[.val (.ref s1)] [(.int m1)])) _
    refine XS.aloadN X101.here hx rfl (hb hby d7_5) rfl rfl ?_
    show Steps p.tables e below (T101.setTop (mkF m 6 #[.val (.ref s1)] [(.ref s1), (.int m1)])) _
    refine st103.trans ?_
    show Steps p.tables e below (T103.setTop (mkF m 9 #[.val (.ref s1)] [(.int (0 : Int32)), (.int m1)])) _
    refine XS.ishr X103.here hx rfl (hb hby d7_9) rfl ?_
    show Steps p.tables e below (T103.setTop (mkF m 10 #[.val (.ref s1)] [(.int (m1 >>> ((0 : Int32) &&& 31)))])) _
    rw [own_shr0 m1]
    show Steps p.tables e below (T103.setTop (mkF m 10 #[.val (.ref s1)] [(.int m1)])) _
    exact Jvm.RoadKit.retOut X103 hx Bd.returns rfl (Or.inl ⟨rfl, by simp, _, rfl⟩) (hb hby d7_10) hr
  · show Q_rm7 Z s1 t1 k1 m1 X1 zc h0 n0 _ T103.heap _
    rw [e103]
    unfold Q_rm7
    exact ⟨rfl, N103, rfl⟩
theorem ef_emp0 (m : MethodId) (x0 : Addr) : entryFrame m #[(.ref x0)] 1 = mkF m 0 #[.val (.ref x0)] [] := by first | (simp [entryFrame, mkF, argsToLocals, Value.category]; done) | rfl
def Q_emp0 (Z : State) (s1 : Addr) (t1 : Addr) (k1 : ClassId) (m1 : Int32) (X1 : List Value) (h0 : Heap) (n0 : Nat) (v : Option Value) (h : Heap) (L : List Loc) : Prop := (v = some (.int (1 : Int32))) ∧ (Fr n0 L) ∧ (h = h0)
theorem d6_0 : decode jdk_42_method_55_code 0 = .ok (.aload_n 0, 1) := by decide +kernel
theorem d6_1 : decode jdk_42_method_55_code 1 = .ok (.getfield 9, 3) := by decide +kernel
theorem d6_4 : decode jdk_42_method_55_code 4 = .ok (.arraylength, 1) := by decide +kernel
theorem d6_5 : decode jdk_42_method_55_code 5 = .ok (.ifCond .ne 7, 3) := by decide +kernel
theorem d6_8 : decode jdk_42_method_55_code 8 = .ok (.iconst 1, 1) := by decide +kernel
theorem d6_9 : decode jdk_42_method_55_code 9 = .ok (.goto 4, 3) := by decide +kernel
theorem d6_13 : decode jdk_42_method_55_code 13 = .ok (.ireturn, 1) := by decide +kernel
set_option maxRecDepth 65536 in
set_option maxHeartbeats 40000000 in
theorem emp0 (l : Launch) (Z : State) (a0 : Array Value) (hw : ∀ d ∈ tables_1, d.before a0 Z = true) (ws : List Jvm.Cond) (s1 : Addr) (t1 : Addr) (k1 : ClassId) (m1 : Int32) (X1 : List Value) (h0 : Heap) (n0 : Nat) (O0 : Old Z n0 h0) (E1 : Exa Z h0 s1 "java/lang/String") (V1 : Fld Z h0 s1 "java/lang/String" "value" "[B" (.ref t1)) (C1 : Fld Z h0 s1 "java/lang/String" "coder" "B" (.int (0 : Int32))) (A1 : Arv Z h0 t1 k1 .byte m1 X1 (.int (0 : Int32))) (hz : m1 = (0 : Int32)) :
    MetFree l (⟨"java/lang/String", "isEmpty", "()Z"⟩ : MethodName) (head1 (Jvm.Cond.code (⟨"java/lang/String", "isEmpty", "()Z"⟩ : MethodName) jdk_42_method_55_code 1 (some .boolean) :: ws) ({ frames := 0, cells := 0, slots := 0, locals := 0 } : Room)) (fun a U => a = #[(.ref s1)] ∧ Z.Warmed39 U.vm ∧ U.heap = h0) (fun _ _ _ _ _ => True) (fun _ U o U' => ∃ v L, o = .returned v ∧ Q_emp0 Z s1 t1 k1 m1 X1 h0 n0 v U'.heap L ∧ FrameEnd U o U' L ({ frames := 0, cells := 0, slots := 0, locals := 0 } : Room).cells ({ frames := 0, cells := 0, slots := 0, locals := 0 } : Room).slots) := by
  refine MetFree.of_bodySF (plainFor_of_name pn_0) hisR ?_
  intro p e s m args below meth c s₁ Bd hml0 hP hK
  obtain ⟨rfl, hZ, hh⟩ := hP
  have hx := Bd.exec
  have hby := Bd.bytes
  have hml : c.maxLocals = 1 := hml0
  have hown : s.vm.findClass "java/lang/String" = some m.cls := findClass_of_methodNamed Bd.named
  have hnm := (name_of_methodNamed Bd.named Bd.method).1
  have X0 : Stand p l e ({ frames := 0, cells := 0, slots := 0, locals := 0 } : Room) s m #[(.ref s1)] below meth c s₁ [] 0 0 := Stand.of_body Bd
  have e0 : s₁.heap = h0 := by rw [← hh, Bd.state]; rfl
  have N0 := Fr.nil n0
  have Z0 : n0 ≤ h0.size := old_le O0
  have pre0 : ∀ t, Steps p.tables e below (s₁.setTop (mkF m 0 #[.val (.ref s1)] [])) t → Steps p.tables e below (s₁.setTop (entryFrame m #[(.ref s1)] 1)) t := fun t k => castTop (ef_emp0 m s1) k
  obtain ⟨T101, X101, e101, st101⟩ := getF X0 hx hZ hown (host := "") (Or.inl (hwk hw 24 rfl)) Via.refl e0 V1 (g := (mkF m 1 #[.val (.ref s1)] [(.ref s1)])) rfl rfl (hb hby d6_1)
  obtain ⟨cl102, Ar102, -, Sz102, Nn102, -, -⟩ := id A1
  obtain ⟨fs, hr, hrun, hended, hW, hsame⟩ := X101.leave (v := some (.int (1 : Int32))) (fun h => by rw [Bd.returns] at h; cases h)
  refine ⟨_, _, pre0 _ ?_, hrun, hended, _, _, rfl, ?_, ⟨_, rfl⟩, hW, hsame.mono (by decide) (by decide)⟩
  · show Steps p.tables e below (s₁.setTop (mkF m 0 #[.val (.ref s1)] [])) _
    refine XS.aloadN X0.here hx rfl (hb hby d6_0) rfl rfl ?_
    show Steps p.tables e below (s₁.setTop (mkF m 1 #[.val (.ref s1)] [(.ref s1)])) _
    refine st101 _ ?_
    show Steps p.tables e below (T101.setTop (mkF m 4 #[.val (.ref s1)] [(.ref t1)])) _
    refine X101.arraylength hx (by rw [e101]; exact Ar102.1) (State.isArrayOf_alike hZ.alike Ar102.2.1) (g := (mkF m 4 #[.val (.ref s1)] [(.ref t1)])) rfl rfl (hb hby d6_4) _ ?_
    rw [len_of Sz102 Nn102]
    show Steps p.tables e below (T101.setTop (mkF m 5 #[.val (.ref s1)] [(.int m1)])) _
    refine XS.ifNo X101.here hx rfl (hb hby d6_5) rfl ((if0 _ _).trans (teq (hz : m1 = (0 : Int32))).2) ?_
    show Steps p.tables e below (T101.setTop (mkF m 8 #[.val (.ref s1)] [])) _
    refine XS.iconst X101.here hx rfl (hb hby d6_8) ?_
    refine XS.goto X101.here hx rfl (pc0 := 9) (pc' := 13) rfl (hb hby d6_9) (by decide) (by decide) ?_
    show Steps p.tables e below (T101.setTop (mkF m 13 #[.val (.ref s1)] [(.int (1 : Int32))])) _
    exact Jvm.RoadKit.retOut X101 hx Bd.returns rfl (Or.inl ⟨rfl, by simp, _, rfl⟩) (hb hby d6_13) hr
  · show Q_emp0 Z s1 t1 k1 m1 X1 h0 n0 _ T101.heap _
    rw [e101]
    unfold Q_emp0
    exact ⟨rfl, N0, rfl⟩
theorem ef_emp1 (m : MethodId) (x0 : Addr) : entryFrame m #[(.ref x0)] 1 = mkF m 0 #[.val (.ref x0)] [] := by first | (simp [entryFrame, mkF, argsToLocals, Value.category]; done) | rfl
def Q_emp1 (Z : State) (s1 : Addr) (t1 : Addr) (k1 : ClassId) (m1 : Int32) (X1 : List Value) (h0 : Heap) (n0 : Nat) (v : Option Value) (h : Heap) (L : List Loc) : Prop := (v = some (.int (0 : Int32))) ∧ (Fr n0 L) ∧ (h = h0)
theorem d6_12 : decode jdk_42_method_55_code 12 = .ok (.iconst 0, 1) := by decide +kernel
set_option maxRecDepth 65536 in
set_option maxHeartbeats 40000000 in
theorem emp1 (l : Launch) (Z : State) (a0 : Array Value) (hw : ∀ d ∈ tables_1, d.before a0 Z = true) (ws : List Jvm.Cond) (s1 : Addr) (t1 : Addr) (k1 : ClassId) (m1 : Int32) (X1 : List Value) (h0 : Heap) (n0 : Nat) (O0 : Old Z n0 h0) (E1 : Exa Z h0 s1 "java/lang/String") (V1 : Fld Z h0 s1 "java/lang/String" "value" "[B" (.ref t1)) (C1 : Fld Z h0 s1 "java/lang/String" "coder" "B" (.int (0 : Int32))) (A1 : Arv Z h0 t1 k1 .byte m1 X1 (.int (0 : Int32))) (hz : ¬ (m1 = (0 : Int32))) :
    MetFree l (⟨"java/lang/String", "isEmpty", "()Z"⟩ : MethodName) (head1 (Jvm.Cond.code (⟨"java/lang/String", "isEmpty", "()Z"⟩ : MethodName) jdk_42_method_55_code 1 (some .boolean) :: ws) ({ frames := 0, cells := 0, slots := 0, locals := 0 } : Room)) (fun a U => a = #[(.ref s1)] ∧ Z.Warmed39 U.vm ∧ U.heap = h0) (fun _ _ _ _ _ => True) (fun _ U o U' => ∃ v L, o = .returned v ∧ Q_emp1 Z s1 t1 k1 m1 X1 h0 n0 v U'.heap L ∧ FrameEnd U o U' L ({ frames := 0, cells := 0, slots := 0, locals := 0 } : Room).cells ({ frames := 0, cells := 0, slots := 0, locals := 0 } : Room).slots) := by
  refine MetFree.of_bodySF (plainFor_of_name pn_0) hisR ?_
  intro p e s m args below meth c s₁ Bd hml0 hP hK
  obtain ⟨rfl, hZ, hh⟩ := hP
  have hx := Bd.exec
  have hby := Bd.bytes
  have hml : c.maxLocals = 1 := hml0
  have hown : s.vm.findClass "java/lang/String" = some m.cls := findClass_of_methodNamed Bd.named
  have hnm := (name_of_methodNamed Bd.named Bd.method).1
  have X0 : Stand p l e ({ frames := 0, cells := 0, slots := 0, locals := 0 } : Room) s m #[(.ref s1)] below meth c s₁ [] 0 0 := Stand.of_body Bd
  have e0 : s₁.heap = h0 := by rw [← hh, Bd.state]; rfl
  have N0 := Fr.nil n0
  have Z0 : n0 ≤ h0.size := old_le O0
  have pre0 : ∀ t, Steps p.tables e below (s₁.setTop (mkF m 0 #[.val (.ref s1)] [])) t → Steps p.tables e below (s₁.setTop (entryFrame m #[(.ref s1)] 1)) t := fun t k => castTop (ef_emp1 m s1) k
  obtain ⟨T101, X101, e101, st101⟩ := getF X0 hx hZ hown (host := "") (Or.inl (hwk hw 24 rfl)) Via.refl e0 V1 (g := (mkF m 1 #[.val (.ref s1)] [(.ref s1)])) rfl rfl (hb hby d6_1)
  obtain ⟨cl102, Ar102, -, Sz102, Nn102, -, -⟩ := id A1
  obtain ⟨fs, hr, hrun, hended, hW, hsame⟩ := X101.leave (v := some (.int (0 : Int32))) (fun h => by rw [Bd.returns] at h; cases h)
  refine ⟨_, _, pre0 _ ?_, hrun, hended, _, _, rfl, ?_, ⟨_, rfl⟩, hW, hsame.mono (by decide) (by decide)⟩
  · show Steps p.tables e below (s₁.setTop (mkF m 0 #[.val (.ref s1)] [])) _
    refine XS.aloadN X0.here hx rfl (hb hby d6_0) rfl rfl ?_
    show Steps p.tables e below (s₁.setTop (mkF m 1 #[.val (.ref s1)] [(.ref s1)])) _
    refine st101 _ ?_
    show Steps p.tables e below (T101.setTop (mkF m 4 #[.val (.ref s1)] [(.ref t1)])) _
    refine X101.arraylength hx (by rw [e101]; exact Ar102.1) (State.isArrayOf_alike hZ.alike Ar102.2.1) (g := (mkF m 4 #[.val (.ref s1)] [(.ref t1)])) rfl rfl (hb hby d6_4) _ ?_
    rw [len_of Sz102 Nn102]
    show Steps p.tables e below (T101.setTop (mkF m 5 #[.val (.ref s1)] [(.int m1)])) _
    refine XS.ifYes X101.here hx rfl (pc0 := 5) (pc' := 12) rfl (hb hby d6_5) rfl ((if0 _ _).trans (feq (hz : ¬ (m1 = (0 : Int32)))).2) (by decide) (by decide) ?_
    show Steps p.tables e below (T101.setTop (mkF m 12 #[.val (.ref s1)] [])) _
    refine XS.iconst X101.here hx rfl (hb hby d6_12) ?_
    show Steps p.tables e below (T101.setTop (mkF m 13 #[.val (.ref s1)] [(.int (0 : Int32))])) _
    exact Jvm.RoadKit.retOut X101 hx Bd.returns rfl (Or.inl ⟨rfl, by simp, _, rfl⟩) (hb hby d6_13) hr
  · show Q_emp1 Z s1 t1 k1 m1 X1 h0 n0 _ T101.heap _
    rw [e101]
    unfold Q_emp1
    exact ⟨rfl, N0, rfl⟩
theorem ef_rm9 (m : MethodId) (x0 : Addr) (x1 : Addr) : entryFrame m #[(.ref x0), (.ref x1)] 3 = mkF m 0 #[.val (.ref x0), .val (.ref x1), .unset] [] := by first | (simp [entryFrame, mkF, argsToLocals, Value.category]; done) | rfl
def Q_rm9 (Z : State) (a1 : Addr) (h0 : Heap) (n0 : Nat) (v : Option Value) (h : Heap) (L : List Loc) : Prop := (v = some (.int (1 : Int32))) ∧ (Fr n0 L) ∧ (h = h0)
theorem d9_0 : decode jdk_42_method_66_code 0 = .ok (.aload_n 0, 1) := by decide +kernel
theorem d9_1 : decode jdk_42_method_66_code 1 = .ok (.aload_n 1, 1) := by decide +kernel
theorem d9_2 : decode jdk_42_method_66_code 2 = .ok (.if_acmp .ne 5, 3) := by decide +kernel
theorem d9_5 : decode jdk_42_method_66_code 5 = .ok (.iconst 1, 1) := by decide +kernel
theorem d9_6 : decode jdk_42_method_66_code 6 = .ok (.ireturn, 1) := by decide +kernel
set_option maxRecDepth 65536 in
set_option maxHeartbeats 40000000 in
theorem rm9 (l : Launch) (Z : State) (a0 : Array Value) (hw : ∀ d ∈ tables_1, d.before a0 Z = true) (ws : List Jvm.Cond) (a1 : Addr) (h0 : Heap) (n0 : Nat) (O0 : Old Z n0 h0)  :
    MetFree l (⟨"java/lang/String", "equals", "(Ljava/lang/Object;)Z"⟩ : MethodName) (head1 (Jvm.Cond.code (⟨"java/lang/String", "equals", "(Ljava/lang/Object;)Z"⟩ : MethodName) jdk_42_method_66_code 3 (some .boolean) :: ws) ({ frames := 0, cells := 0, slots := 0, locals := 0 } : Room)) (fun a U => a = #[(.ref a1), (.ref a1)] ∧ Z.Warmed39 U.vm ∧ U.heap = h0) (fun _ _ _ _ _ => True) (fun _ U o U' => ∃ v L, o = .returned v ∧ Q_rm9 Z a1 h0 n0 v U'.heap L ∧ FrameEnd U o U' L ({ frames := 0, cells := 0, slots := 0, locals := 0 } : Room).cells ({ frames := 0, cells := 0, slots := 0, locals := 0 } : Room).slots) := by
  refine MetFree.of_bodySF (plainFor_of_name pn_0) hisR ?_
  intro p e s m args below meth c s₁ Bd hml0 hP hK
  obtain ⟨rfl, hZ, hh⟩ := hP
  have hx := Bd.exec
  have hby := Bd.bytes
  have hml : c.maxLocals = 3 := hml0
  have hown : s.vm.findClass "java/lang/String" = some m.cls := findClass_of_methodNamed Bd.named
  have hnm := (name_of_methodNamed Bd.named Bd.method).1
  have X0 : Stand p l e ({ frames := 0, cells := 0, slots := 0, locals := 0 } : Room) s m #[(.ref a1), (.ref a1)] below meth c s₁ [] 0 0 := Stand.of_body Bd
  have e0 : s₁.heap = h0 := by rw [← hh, Bd.state]; rfl
  have N0 := Fr.nil n0
  have Z0 : n0 ≤ h0.size := old_le O0
  have pre0 : ∀ t, Steps p.tables e below (s₁.setTop (mkF m 0 #[.val (.ref a1), .val (.ref a1), .unset] [])) t → Steps p.tables e below (s₁.setTop (entryFrame m #[(.ref a1), (.ref a1)] 3)) t := fun t k => castTop (ef_rm9 m a1 a1) k
  obtain ⟨fs, hr, hrun, hended, hW, hsame⟩ := X0.leave (v := some (.int (1 : Int32))) (fun h => by rw [Bd.returns] at h; cases h)
  refine ⟨_, _, pre0 _ ?_, hrun, hended, _, _, rfl, ?_, ⟨_, rfl⟩, hW, hsame.mono (by decide) (by decide)⟩
  · show Steps p.tables e below (s₁.setTop (mkF m 0 #[.val (.ref a1), .val (.ref a1), .unset] [])) _
    refine XS.aloadN X0.here hx rfl (hb hby d9_0) rfl rfl ?_
    refine XS.aloadN X0.here hx rfl (hb hby d9_1) rfl rfl ?_
    show Steps p.tables e below (s₁.setTop (mkF m 2 #[.val (.ref a1), .val (.ref a1), .unset] [(.ref a1), (.ref a1)])) _
    refine Jvm.RoadKit.acmp (g := (mkF m 2 #[.val (.ref a1), .val (.ref a1), .unset] [(.ref a1), (.ref a1)])) X0 hx rfl rfl rfl (pc0 := 2) (pc' := 5) (same := true) rfl (hb hby d9_2) rfl (decide_eq_true rfl) (by decide) (by decide) ?_
    show Steps p.tables e below (s₁.setTop (mkF m 5 #[.val (.ref a1), .val (.ref a1), .unset] [])) _
    refine XS.iconst X0.here hx rfl (hb hby d9_5) ?_
    show Steps p.tables e below (s₁.setTop (mkF m 6 #[.val (.ref a1), .val (.ref a1), .unset] [(.int (1 : Int32))])) _
    exact Jvm.RoadKit.retOut X0 hx Bd.returns rfl (Or.inl ⟨rfl, by simp, _, rfl⟩) (hb hby d9_6) hr
  · show Q_rm9 Z a1 h0 n0 _ s₁.heap _
    rw [e0]
    unfold Q_rm9
    exact ⟨rfl, N0, rfl⟩
theorem ef_rm14 (m : MethodId) (x0 : Addr) (x1 : Int32) : entryFrame m #[(.ref x0), (.int x1)] 2 = mkF m 0 #[.val (.ref x0), .val (.int x1)] [] := by first | (simp [entryFrame, mkF, argsToLocals, Value.category]; done) | rfl
def Q_rm14 (Z : State) (a1 : Addr) (zc : Int32) (h0 : Heap) (n0 : Nat) (v : Option Value) (h : Heap) (L : List Loc) : Prop := ∃ tb : Addr, ∃ kt : ClassId, (v = none) ∧ (Fr n0 L) ∧ (Keep h0 h [a1]) ∧ (h0.size ≤ tb) ∧ (Fld Z h a1 "java/lang/AbstractStringBuilder" "value" "[B" (.ref tb)) ∧ (Fld Z h a1 "java/lang/AbstractStringBuilder" "coder" "B" (.int (0 : Int32))) ∧ (Fld Z h a1 "java/lang/AbstractStringBuilder" "count" "I" (.int (0 : Int32))) ∧ (Arv Z h tb kt .byte (16 : Int32) [(.int (0 : Int32)), (.int (0 : Int32)), (.int (0 : Int32)), (.int (0 : Int32)), (.int (0 : Int32)), (.int (0 : Int32)), (.int (0 : Int32)), (.int (0 : Int32)), (.int (0 : Int32)), (.int (0 : Int32)), (.int (0 : Int32)), (.int (0 : Int32)), (.int (0 : Int32)), (.int (0 : Int32)), (.int (0 : Int32)), (.int (0 : Int32))] (.int (0 : Int32)))
theorem pn_3 : plainName "java/lang/AbstractStringBuilder" = true := by first | (simp [plainName, overriddenIn]; done) | decide +kernel
theorem d14_0 : decode jdk_68_method_2_code 0 = .ok (.aload_n 0, 1) := by decide +kernel
theorem d14_1 : decode jdk_68_method_2_code 1 = .ok (.invokespecial 3, 3) := by decide +kernel
theorem d14_4 : decode jdk_68_method_2_code 4 = .ok (.getstatic 18, 3) := by decide +kernel
theorem d14_7 : decode jdk_68_method_2_code 7 = .ok (.ifCond .eq 18, 3) := by decide +kernel
theorem d14_10 : decode jdk_68_method_2_code 10 = .ok (.aload_n 0, 1) := by decide +kernel
theorem d14_11 : decode jdk_68_method_2_code 11 = .ok (.iload_n 1, 1) := by decide +kernel
theorem d14_12 : decode jdk_68_method_2_code 12 = .ok (.newarray .byte, 2) := by decide +kernel
theorem d14_14 : decode jdk_68_method_2_code 14 = .ok (.putfield 15, 3) := by decide +kernel
theorem d14_17 : decode jdk_68_method_2_code 17 = .ok (.aload_n 0, 1) := by decide +kernel
theorem d14_18 : decode jdk_68_method_2_code 18 = .ok (.iconst 0, 1) := by decide +kernel
theorem d14_19 : decode jdk_68_method_2_code 19 = .ok (.putfield 22, 3) := by decide +kernel
theorem d14_22 : decode jdk_68_method_2_code 22 = .ok (.goto 16, 3) := by decide +kernel
theorem d14_38 : decode jdk_68_method_2_code 38 = .ok (.return_, 1) := by decide +kernel
set_option maxRecDepth 65536 in
set_option maxHeartbeats 40000000 in
theorem rm14 (l : Launch) (Z : State) (a0 : Array Value) (hw : ∀ d ∈ tables_1, d.before a0 Z = true) (ws : List Jvm.Cond) (a1 : Addr) (zc : Int32) (h0 : Heap) (n0 : Nat) (O0 : Old Z n0 h0) (ES : Exa Z h0 a1 "java/lang/StringBuilder") (ga : n0 ≤ a1) (F1 : Fld Z h0 a1 "java/lang/AbstractStringBuilder" "value" "[B" .null) (F2 : Fld Z h0 a1 "java/lang/AbstractStringBuilder" "coder" "B" (.int (0 : Int32))) (F3 : Fld Z h0 a1 "java/lang/AbstractStringBuilder" "count" "I" (.int (0 : Int32))) (SZ : Sta Z Z.heap "java/lang/String" "COMPACT_STRINGS" "Z" (.int zc)) (PZ : ¬ (zc = (0 : Int32))) :
    MetFree l (⟨"java/lang/AbstractStringBuilder", "<init>", "(I)V"⟩ : MethodName) (head1 (Jvm.Cond.code (⟨"java/lang/AbstractStringBuilder", "<init>", "(I)V"⟩ : MethodName) jdk_68_method_2_code 2 none :: ws) ({ frames := 1, cells := 1, slots := 16, locals := 12 } : Room)) (fun a U => a = #[(.ref a1), (.int (16 : Int32))] ∧ Z.Warmed39 U.vm ∧ U.heap = h0) (fun _ _ _ _ _ => True) (fun _ U o U' => ∃ v L, o = .returned v ∧ Q_rm14 Z a1 zc h0 n0 v U'.heap L ∧ FrameEnd U o U' L ({ frames := 1, cells := 1, slots := 16, locals := 12 } : Room).cells ({ frames := 1, cells := 1, slots := 16, locals := 12 } : Room).slots) := by
  refine MetFree.of_bodySF (plainFor_of_name pn_3) hisR ?_
  intro p e s m args below meth c s₁ Bd hml0 hP hK
  obtain ⟨rfl, hZ, hh⟩ := hP
  have hx := Bd.exec
  have hby := Bd.bytes
  have hml : c.maxLocals = 2 := hml0
  have hown : s.vm.findClass "java/lang/AbstractStringBuilder" = some m.cls := findClass_of_methodNamed Bd.named
  have hnm := (name_of_methodNamed Bd.named Bd.method).1
  have X0 : Stand p l e ({ frames := 1, cells := 1, slots := 16, locals := 12 } : Room) s m #[(.ref a1), (.int (16 : Int32))] below meth c s₁ [] 0 0 := Stand.of_body Bd
  have e0 : s₁.heap = h0 := by rw [← hh, Bd.state]; rfl
  have N0 := Fr.nil n0
  have Z0 : n0 ≤ h0.size := old_le O0
  have pre0 : ∀ t, Steps p.tables e below (s₁.setTop (mkF m 0 #[.val (.ref a1), .val (.int (16 : Int32))] [])) t → Steps p.tables e below (s₁.setTop (entryFrame m #[(.ref a1), (.int (16 : Int32))] 2)) t := fun t k => castTop (ef_rm14 m a1 (16 : Int32)) k
  obtain ⟨T101, X101, e101, st101⟩ := initO X0 hx hZ hown (hwk hw 73 rfl) (hwk hw 16 rfl) (hwk hw 17 rfl) e0 (g := (mkF m 1 #[.val (.ref a1), .val (.int (16 : Int32))] [(.ref a1)])) rfl (by rw [hml]; rfl) rfl (hb hby d14_1) (by decide) (W := 0) (by show 2 * 0 + _ ≤ _; exact Nat.le_of_eq rfl) (by decide)
  have c102 : Sta Z h0 "java/lang/String" "COMPACT_STRINGS" "Z" (.int zc) := Sta.ext (O0).2 SZ
  obtain ⟨T103, X103, e103, st103⟩ := getS2 X101 hx hZ hown (host := "") (Or.inl (hwk hw 74 rfl)) Via.refl e101 c102 (g := (mkF m 4 #[.val (.ref a1), .val (.int (16 : Int32))] [])) rfl (hb hby d14_4)
  obtain ⟨T104, h104, k104, X104, e104, E104, A104, st104⟩ := newP X103 hx hZ (hwk hw 19 rfl) e103 (g := (mkF m 12 #[.val (.ref a1), .val (.int (16 : Int32))] [(.int (16 : Int32)), (.ref a1)])) rfl (hb hby d14_12) rfl (by decide) (cap := 16) (by decide) (by decide) (by decide) (by decide)
  obtain ⟨b104, g104⟩ : ∃ z, z = h0.size := ⟨_, rfl⟩
  rw [← g104] at A104 st104
  have g_b104 : n0 ≤ b104 := Nat.le_trans (old_le O0) (Nat.le_of_eq g104.symm)
  have V104 : Arv Z h104 b104 k104 .byte (16 : Int32) [(.int (0 : Int32)), (.int (0 : Int32)), (.int (0 : Int32)), (.int (0 : Int32)), (.int (0 : Int32)), (.int (0 : Int32)), (.int (0 : Int32)), (.int (0 : Int32)), (.int (0 : Int32)), (.int (0 : Int32)), (.int (0 : Int32)), (.int (0 : Int32)), (.int (0 : Int32)), (.int (0 : Int32)), (.int (0 : Int32)), (.int (0 : Int32))] (.int (0 : Int32)) := (Arv.new A104 (by decide)).pad (pad_rep [] (.int (0 : Int32)) 16)
  have c105 : Exa Z h104 a1 "java/lang/StringBuilder" := (Exa.ext E104 ES)
  have c106 : Fld Z h104 a1 "java/lang/AbstractStringBuilder" "value" "[B" .null := (Fld.ext E104 F1)
  obtain ⟨T107, h107, X107, e107, W107, st107⟩ := putF X104 hx hZ hown (host := "") (Or.inl (hwk hw 75 rfl)) Via.refl e104 c106 c105 (Or.inl (hwk hw 76 rfl)) (hwk hw 62 rfl) (ty := (.array .byte)) (by decide) rfl rfl (g := (mkF m 14 #[.val (.ref a1), .val (.int (16 : Int32))] [(.ref b104), (.ref a1)])) rfl rfl (hb hby d14_14)
  have F107 : Fld Z h107 a1 "java/lang/AbstractStringBuilder" "value" "[B" (.ref b104) := Fld.same W107 c106
  have N107 := Fr.snoc X107 N0 ga
  have c108 : Exa Z h107 a1 "java/lang/StringBuilder" := (Exa.wr W107 c105)
  have c109 : Fld Z h107 a1 "java/lang/AbstractStringBuilder" "coder" "B" (.int (0 : Int32)) := (Fld.other W107 (Fld.ext E104 F2) (Or.inr (slot_ne (Or.inl (hwk hw 78 rfl)) (Or.inl (hwk hw 76 rfl)) (by decide) (t := .byte) (t' := (.array .byte)) (by decide) (by decide))))
  obtain ⟨T110, h110, X110, e110, W110, st110⟩ := putF X107 hx hZ hown (host := "") (Or.inl (hwk hw 77 rfl)) Via.refl e107 c109 c108 (Or.inl (hwk hw 78 rfl)) (hwk hw 62 rfl) (ty := .byte) (by decide) rfl rfl (g := (mkF m 19 #[.val (.ref a1), .val (.int (16 : Int32))] [(.int (0 : Int32)), (.ref a1)])) rfl rfl (hb hby d14_19)
  have F110 : Fld Z h110 a1 "java/lang/AbstractStringBuilder" "coder" "B" (.int (0 : Int32)) := Fld.same W110 c109
  have N110 := Fr.snoc X110 N107 ga
  have K111 : Keep h0 h104 [a1] := Keep.ext (Keep.refl h0 [a1]) E104
  have K112 : Keep h0 h107 [a1] := Keep.wr K111 W107 (Or.inl (List.mem_of_getElem? (i := 0) rfl))
  have K113 : Keep h0 h110 [a1] := Keep.wr K112 W110 (Or.inl (List.mem_of_getElem? (i := 0) rfl))
  have c114 : Fld Z h110 a1 "java/lang/AbstractStringBuilder" "value" "[B" (.ref b104) := (Fld.other W110 F107 (Or.inr (slot_ne (Or.inl (hwk hw 76 rfl)) (Or.inl (hwk hw 78 rfl)) (by decide) (t := (.array .byte)) (t' := .byte) (by decide) (by decide))))
  have c115 : Fld Z h110 a1 "java/lang/AbstractStringBuilder" "count" "I" (.int (0 : Int32)) := (Fld.other W110 (Fld.other W107 (Fld.ext E104 F3) (Or.inr (slot_ne (Or.inl (hwk hw 91 rfl)) (Or.inl (hwk hw 76 rfl)) (by decide) (t := .int) (t' := (.array .byte)) (by decide) (by decide)))) (Or.inr (slot_ne (Or.inl (hwk hw 91 rfl)) (Or.inl (hwk hw 78 rfl)) (by decide) (t := .int) (t' := .byte) (by decide) (by decide))))
  have c116 : Arv Z h110 b104 k104 .byte (16 : Int32) [(.int (0 : Int32)), (.int (0 : Int32)), (.int (0 : Int32)), (.int (0 : Int32)), (.int (0 : Int32)), (.int (0 : Int32)), (.int (0 : Int32)), (.int (0 : Int32)), (.int (0 : Int32)), (.int (0 : Int32)), (.int (0 : Int32)), (.int (0 : Int32)), (.int (0 : Int32)), (.int (0 : Int32)), (.int (0 : Int32)), (.int (0 : Int32))] (.int (0 : Int32)) := (Arv.other (Arv.other V104 W107 (Ne.symm (Exa.neArv c105 V104 (hwk hw 62 rfl)))) W110 (Ne.symm (Exa.neArv c105 V104 (hwk hw 62 rfl))))
  obtain ⟨fs, hr, hrun, hended, hW, hsame⟩ := X110.leave (v := none) (fun _ => rfl)
  refine ⟨_, _, pre0 _ ?_, hrun, hended, _, _, rfl, ?_, ⟨_, rfl⟩, hW, hsame.mono (by decide) (by decide)⟩
  · show Steps p.tables e below (s₁.setTop (mkF m 0 #[.val (.ref a1), .val (.int (16 : Int32))] [])) _
    refine XS.aloadN X0.here hx rfl (hb hby d14_0) rfl rfl ?_
    show Steps p.tables e below (s₁.setTop (mkF m 1 #[.val (.ref a1), .val (.int (16 : Int32))] [(.ref a1)])) _
    refine st101 _ ?_
    show Steps p.tables e below (T101.setTop (mkF m 4 #[.val (.ref a1), .val (.int (16 : Int32))] [])) _
    refine st103 _ ?_
    show Steps p.tables e below (T103.setTop (mkF m 7 #[.val (.ref a1), .val (.int (16 : Int32))] [(.int zc)])) _
    refine XS.ifNo X103.here hx rfl (hb hby d14_7) rfl ((if0 _ _).trans (feq (PZ : ¬ (zc = (0 : Int32)))).1) ?_
    show Steps p.tables e below (T103.setTop (mkF m 10 #[.val (.ref a1), .val (.int (16 : Int32))] [])) _
    refine XS.aloadN X103.here hx rfl (hb hby d14_10) rfl rfl ?_
    refine XS.iloadN X103.here hx rfl (hb hby d14_11) rfl ?_
    show Steps p.tables e below (T103.setTop (mkF m 12 #[.val (.ref a1), .val (.int (16 : Int32))] [(.int (16 : Int32)), (.ref a1)])) _
    refine st104 _ ?_
    show Steps p.tables e below (T104.setTop (mkF m 14 #[.val (.ref a1), .val (.int (16 : Int32))] [(.ref b104), (.ref a1)])) _
    refine st107 _ ?_
    show Steps p.tables e below (T107.setTop (mkF m 17 #[.val (.ref a1), .val (.int (16 : Int32))] [])) _
    refine XS.aloadN X107.here hx rfl (hb hby d14_17) rfl rfl ?_
    refine XS.iconst X107.here hx rfl (hb hby d14_18) ?_
    show Steps p.tables e below (T107.setTop (mkF m 19 #[.val (.ref a1), .val (.int (16 : Int32))] [(.int (0 : Int32)), (.ref a1)])) _
    refine st110 _ ?_
    show Steps p.tables e below (T110.setTop (mkF m 22 #[.val (.ref a1), .val (.int (16 : Int32))] [])) _
    refine XS.goto X110.here hx rfl (pc0 := 22) (pc' := 38) rfl (hb hby d14_22) (by decide) (by decide) ?_
    show Steps p.tables e below (T110.setTop (mkF m 38 #[.val (.ref a1), .val (.int (16 : Int32))] [])) _
    exact X110.returnOut hx Bd.returns (hb hby d14_38) hr
  · show Q_rm14 Z a1 zc h0 n0 _ T110.heap _
    rw [e110]
    unfold Q_rm14
    exact ⟨b104, k104, rfl, N110, K113, (Nat.le_trans (Nat.le_refl _) (Nat.le_of_eq g104.symm)), c114, F110, c115, c116⟩
theorem ef_rm13 (m : MethodId) (x0 : Addr) : entryFrame m #[(.ref x0)] 1 = mkF m 0 #[.val (.ref x0)] [] := by first | (simp [entryFrame, mkF, argsToLocals, Value.category]; done) | rfl
def Q_rm13 (Z : State) (a1 : Addr) (zc : Int32) (h0 : Heap) (n0 : Nat) (v : Option Value) (h : Heap) (L : List Loc) : Prop := ∃ tb : Addr, ∃ kt : ClassId, (v = none) ∧ (Fr n0 L) ∧ (Keep h0 h [a1]) ∧ (h0.size ≤ tb) ∧ (Fld Z h a1 "java/lang/AbstractStringBuilder" "value" "[B" (.ref tb)) ∧ (Fld Z h a1 "java/lang/AbstractStringBuilder" "coder" "B" (.int (0 : Int32))) ∧ (Fld Z h a1 "java/lang/AbstractStringBuilder" "count" "I" (.int (0 : Int32))) ∧ (Arv Z h tb kt .byte (16 : Int32) [(.int (0 : Int32)), (.int (0 : Int32)), (.int (0 : Int32)), (.int (0 : Int32)), (.int (0 : Int32)), (.int (0 : Int32)), (.int (0 : Int32)), (.int (0 : Int32)), (.int (0 : Int32)), (.int (0 : Int32)), (.int (0 : Int32)), (.int (0 : Int32)), (.int (0 : Int32)), (.int (0 : Int32)), (.int (0 : Int32)), (.int (0 : Int32))] (.int (0 : Int32)))
theorem pn_4 : plainName "java/lang/StringBuilder" = true := by first | (simp [plainName, overriddenIn]; done) | decide +kernel
theorem d13_0 : decode jdk_67_method_1_code 0 = .ok (.aload_n 0, 1) := by decide +kernel
theorem d13_1 : decode jdk_67_method_1_code 1 = .ok (.bipush 16, 2) := by decide +kernel
theorem d13_3 : decode jdk_67_method_1_code 3 = .ok (.invokespecial 1, 3) := by decide +kernel
theorem pd_7 : parseMethodDescriptor "(I)V" = some ⟨[.int], none⟩ := by decide +kernel
theorem d13_6 : decode jdk_67_method_1_code 6 = .ok (.return_, 1) := by decide +kernel
set_option maxRecDepth 65536 in
set_option maxHeartbeats 40000000 in
theorem rm13 (l : Launch) (Z : State) (a0 : Array Value) (hw : ∀ d ∈ tables_1, d.before a0 Z = true) (ws : List Jvm.Cond) (a1 : Addr) (zc : Int32) (h0 : Heap) (n0 : Nat) (O0 : Old Z n0 h0) (ES : Exa Z h0 a1 "java/lang/StringBuilder") (ga : n0 ≤ a1) (F1 : Fld Z h0 a1 "java/lang/AbstractStringBuilder" "value" "[B" .null) (F2 : Fld Z h0 a1 "java/lang/AbstractStringBuilder" "coder" "B" (.int (0 : Int32))) (F3 : Fld Z h0 a1 "java/lang/AbstractStringBuilder" "count" "I" (.int (0 : Int32))) (SZ : Sta Z Z.heap "java/lang/String" "COMPACT_STRINGS" "Z" (.int zc)) (PZ : ¬ (zc = (0 : Int32))) :
    MetFree l (⟨"java/lang/StringBuilder", "<init>", "()V"⟩ : MethodName) (head1 (Jvm.Cond.code (⟨"java/lang/StringBuilder", "<init>", "()V"⟩ : MethodName) jdk_67_method_1_code 1 none :: ws) ({ frames := 2, cells := 1, slots := 16, locals := 25 } : Room)) (fun a U => a = #[(.ref a1)] ∧ Z.Warmed39 U.vm ∧ U.heap = h0) (fun _ _ _ _ _ => True) (fun _ U o U' => ∃ v L, o = .returned v ∧ Q_rm13 Z a1 zc h0 n0 v U'.heap L ∧ FrameEnd U o U' L ({ frames := 2, cells := 1, slots := 16, locals := 25 } : Room).cells ({ frames := 2, cells := 1, slots := 16, locals := 25 } : Room).slots) := by
  refine MetFree.of_bodySF (plainFor_of_name pn_4) hisR ?_
  intro p e s m args below meth c s₁ Bd hml0 hP hK
  obtain ⟨rfl, hZ, hh⟩ := hP
  have hx := Bd.exec
  have hby := Bd.bytes
  have hml : c.maxLocals = 1 := hml0
  have hown : s.vm.findClass "java/lang/StringBuilder" = some m.cls := findClass_of_methodNamed Bd.named
  have hnm := (name_of_methodNamed Bd.named Bd.method).1
  have X0 : Stand p l e ({ frames := 2, cells := 1, slots := 16, locals := 25 } : Room) s m #[(.ref a1)] below meth c s₁ [] 0 0 := Stand.of_body Bd
  have e0 : s₁.heap = h0 := by rw [← hh, Bd.state]; rfl
  have N0 := Fr.nil n0
  have Z0 : n0 ≤ h0.size := old_le O0
  have pre0 : ∀ t, Steps p.tables e below (s₁.setTop (mkF m 0 #[.val (.ref a1)] [])) t → Steps p.tables e below (s₁.setTop (entryFrame m #[(.ref a1)] 1)) t := fun t k => castTop (ef_rm13 m a1) k
  obtain ⟨_, _, ⟨T101, L101, k101, n101⟩, -, X101, ⟨Lc101, hQ101, l101, y101, z101⟩, st101⟩ := X0.specialBack hx (y := (⟨"java/lang/AbstractStringBuilder", "<init>", "(I)V"⟩ : MethodName)) rfl hown (mvT hZ (hwk hw 67 rfl)) (mvT hZ (hwk hw 68 rfl)) (mvT hZ (hwk hw 72 rfl)) (by decide) (backOf (W := 0) (rm14 l Z a0 hw [] a1 zc h0 n0 O0 ES ga F1 F2 F3 SZ PZ) hZ (hwk hw 72 rfl) (hwk hw 71 rfl) (by decide) (by decide)) (g := (mkF m 3 #[.val (.ref a1)] [(.int (16 : Int32)), (.ref a1)])) rfl (by rw [hml]; rfl) (Steps.refl _) (a := a1) (argsL := [(.int (16 : Int32))]) (rest := []) (lenOf pd_7 rfl) rfl (by show 2 * 0 + _ ≤ _; exact Nat.le_of_eq rfl) (hb hby d13_3) (fun _ _ => ⟨rfl, e0, (by decide : 0 + 1 ≤ _), (by decide : 0 + 16 ≤ _)⟩)
  dsimp only [Pt.U, Pt.locs, Pt.cells, Pt.slots] at X101 l101 y101 z101 st101 hQ101
  subst l101 y101 z101
  unfold Q_rm14 at hQ101
  obtain ⟨tb_101, kt_101, rfl, N101q, K101, ge_tb_101, f101_0, f101_1, f101_2, f101_3⟩ := hQ101
  have N101 := Fr.app N0 N101q
  have g_tb_101 : n0 ≤ tb_101 := Nat.le_trans (old_le O0) ge_tb_101
  have K102 : Keep h0 T101.heap [a1] := Keep.trans (Keep.refl h0 [a1]) K101 (allS (Or.inl (List.mem_of_getElem? (i := 0) rfl)) all0)
  obtain ⟨fs, hr, hrun, hended, hW, hsame⟩ := X101.leave (v := none) (fun _ => rfl)
  refine ⟨_, _, pre0 _ ?_, hrun, hended, _, _, rfl, ?_, ⟨_, rfl⟩, hW, hsame.mono (by decide) (by decide)⟩
  · show Steps p.tables e below (s₁.setTop (mkF m 0 #[.val (.ref a1)] [])) _
    refine XS.aloadN X0.here hx rfl (hb hby d13_0) rfl rfl ?_
    refine XS.bipush X0.here hx rfl (hb hby d13_1) ?_
    show Steps p.tables e below (s₁.setTop (mkF m 3 #[.val (.ref a1)] [(.int (16 : Int32)), (.ref a1)])) _
    refine st101.trans ?_
    show Steps p.tables e below (T101.setTop (mkF m 6 #[.val (.ref a1)] [])) _
    exact X101.returnOut hx Bd.returns (hb hby d13_6) hr
  · show Q_rm13 Z a1 zc h0 n0 _ T101.heap _
    unfold Q_rm13
    exact ⟨tb_101, kt_101, rfl, N101, K102, (Nat.le_trans (Nat.le_refl _) ge_tb_101), f101_0, f101_1, f101_2, f101_3⟩
theorem ef_rm19 (m : MethodId) (x0 : Addr) (x1 : Addr) : entryFrame m #[(.ref x0), (.ref x1)] 2 = mkF m 0 #[.val (.ref x0), .val (.ref x1)] [] := by first | (simp [entryFrame, mkF, argsToLocals, Value.category]; done) | rfl
def Q_rm19 (Z : State) (a1 : Addr) (s1 : Addr) (zc : Int32) (h0 : Heap) (n0 : Nat) (v : Option Value) (h : Heap) (L : List Loc) : Prop := (v = none) ∧ (Fr n0 L) ∧ (h = h0)
theorem d19_0 : decode jdk_68_method_71_code 0 = .ok (.getstatic 18, 3) := by decide +kernel
theorem d19_3 : decode jdk_68_method_71_code 3 = .ok (.ifCond .eq 18, 3) := by decide +kernel
theorem d19_6 : decode jdk_68_method_71_code 6 = .ok (.aload_n 0, 1) := by decide +kernel
theorem d19_7 : decode jdk_68_method_71_code 7 = .ok (.getfield 22, 3) := by decide +kernel
theorem d19_10 : decode jdk_68_method_71_code 10 = .ok (.aload_n 1, 1) := by decide +kernel
theorem d19_11 : decode jdk_68_method_71_code 11 = .ok (.invokevirtual 40, 3) := by decide +kernel
theorem d19_14 : decode jdk_68_method_71_code 14 = .ok (.if_icmp .eq 7, 3) := by decide +kernel
theorem d19_21 : decode jdk_68_method_71_code 21 = .ok (.return_, 1) := by decide +kernel
set_option maxRecDepth 65536 in
set_option maxHeartbeats 40000000 in
theorem rm19 (l : Launch) (Z : State) (a0 : Array Value) (hw : ∀ d ∈ tables_1, d.before a0 Z = true) (ws : List Jvm.Cond) (a1 : Addr) (s1 : Addr) (zc : Int32) (h0 : Heap) (n0 : Nat) (O0 : Old Z n0 h0) (ES : Exa Z h0 a1 "java/lang/StringBuilder") (FC : Fld Z h0 a1 "java/lang/AbstractStringBuilder" "coder" "B" (.int (0 : Int32))) (E1 : Exa Z h0 s1 "java/lang/String") (C1 : Fld Z h0 s1 "java/lang/String" "coder" "B" (.int (0 : Int32))) (SZ : Sta Z Z.heap "java/lang/String" "COMPACT_STRINGS" "Z" (.int zc)) (PZ : ¬ (zc = (0 : Int32))) :
    MetFree l (⟨"java/lang/AbstractStringBuilder", "inflateIfNeededFor", "(Ljava/lang/String;)V"⟩ : MethodName) (head1 (Jvm.Cond.code (⟨"java/lang/AbstractStringBuilder", "inflateIfNeededFor", "(Ljava/lang/String;)V"⟩ : MethodName) jdk_68_method_71_code 2 none :: ws) ({ frames := 1, cells := 0, slots := 0, locals := 13 } : Room)) (fun a U => a = #[(.ref a1), (.ref s1)] ∧ Z.Warmed39 U.vm ∧ U.heap = h0) (fun _ _ _ _ _ => True) (fun _ U o U' => ∃ v L, o = .returned v ∧ Q_rm19 Z a1 s1 zc h0 n0 v U'.heap L ∧ FrameEnd U o U' L ({ frames := 1, cells := 0, slots := 0, locals := 13 } : Room).cells ({ frames := 1, cells := 0, slots := 0, locals := 13 } : Room).slots) := by
  refine MetFree.of_bodySF (plainFor_of_name pn_3) hisR ?_
  intro p e s m args below meth c s₁ Bd hml0 hP hK
  obtain ⟨rfl, hZ, hh⟩ := hP
  have hx := Bd.exec
  have hby := Bd.bytes
  have hml : c.maxLocals = 2 := hml0
  have hown : s.vm.findClass "java/lang/AbstractStringBuilder" = some m.cls := findClass_of_methodNamed Bd.named
  have hnm := (name_of_methodNamed Bd.named Bd.method).1
  have X0 : Stand p l e ({ frames := 1, cells := 0, slots := 0, locals := 13 } : Room) s m #[(.ref a1), (.ref s1)] below meth c s₁ [] 0 0 := Stand.of_body Bd
  have e0 : s₁.heap = h0 := by rw [← hh, Bd.state]; rfl
  have N0 := Fr.nil n0
  have Z0 : n0 ≤ h0.size := old_le O0
  have pre0 : ∀ t, Steps p.tables e below (s₁.setTop (mkF m 0 #[.val (.ref a1), .val (.ref s1)] [])) t → Steps p.tables e below (s₁.setTop (entryFrame m #[(.ref a1), (.ref s1)] 2)) t := fun t k => castTop (ef_rm19 m a1 s1) k
  have c101 : Sta Z h0 "java/lang/String" "COMPACT_STRINGS" "Z" (.int zc) := Sta.ext (O0).2 SZ
  obtain ⟨T102, X102, e102, st102⟩ := getS2 X0 hx hZ hown (host := "") (Or.inl (hwk hw 74 rfl)) Via.refl e0 c101 (g := (mkF m 0 #[.val (.ref a1), .val (.ref s1)] [])) rfl (hb hby d19_0)
  obtain ⟨T103, X103, e103, st103⟩ := getF X102 hx hZ hown (host := "") (Or.inl (hwk hw 77 rfl)) Via.refl e102 FC (g := (mkF m 7 #[.val (.ref a1), .val (.ref s1)] [(.ref a1)])) rfl rfl (hb hby d19_7)
  obtain ⟨cq104, kq104, q104a, q104b, q104c⟩ := isOf hZ e103 E1
  obtain ⟨_, _, ⟨T104, L104, k104, n104⟩, -, X104, ⟨Lc104, hQ104, l104, y104, z104⟩, st104⟩ := X103.virtualBack hx (y := (⟨"java/lang/String", "coder", "()B"⟩ : MethodName)) (z := (⟨"java/lang/String", "coder", "()B"⟩ : MethodName)) hown (mvT hZ (hwk hw 107 rfl)) (mvT hZ (hwk hw 41 rfl)) (notFace_of_selects (args := #[]) (mvT hZ (hwk hw 43 rfl))) (mvT hZ (hwk hw 43 rfl)) (mvT hZ (hwk hw 42 rfl)) (by decide) (backOf (W := 1) (rm8 l Z a0 hw [] s1 zc h0 n0 O0 C1 SZ PZ) hZ (hwk hw 44 rfl) (hwk hw 6 rfl) (by decide) (by decide)) q104a q104c (g := (mkF m 11 #[.val (.ref a1), .val (.ref s1)] [(.ref s1), (.int (0 : Int32))])) rfl (by rw [hml]; rfl) (Steps.refl _) (argsL := []) (rest := [(.int (0 : Int32))]) (lenOf pd_6 rfl) rfl (by show 2 * 0 + _ ≤ _; exact Nat.le_of_eq rfl) (hb hby d19_11) (fun _ _ => ⟨rfl, e103, (by decide : 0 + 0 ≤ _), (by decide : 0 + 0 ≤ _)⟩)
  dsimp only [Pt.U, Pt.locs, Pt.cells, Pt.slots] at X104 l104 y104 z104 st104 hQ104
  subst l104 y104 z104
  unfold Q_rm8 at hQ104
  obtain ⟨rfl, N104q, e104⟩ := hQ104
  have N104 := Fr.app N0 N104q
  obtain ⟨fs, hr, hrun, hended, hW, hsame⟩ := X104.leave (v := none) (fun _ => rfl)
  refine ⟨_, _, pre0 _ ?_, hrun, hended, _, _, rfl, ?_, ⟨_, rfl⟩, hW, hsame.mono (by decide) (by decide)⟩
  · show Steps p.tables e below (s₁.setTop (mkF m 0 #[.val (.ref a1), .val (.ref s1)] [])) _
    refine st102 _ ?_
    show Steps p.tables e below (T102.setTop (mkF m 3 #[.val (.ref a1), .val (.ref s1)] [(.int zc)])) _
    refine XS.ifNo X102.here hx rfl (hb hby d19_3) rfl ((if0 _ _).trans (feq (PZ : ¬ (zc = (0 : Int32)))).1) ?_
    show Steps p.tables e below (T102.setTop (mkF m 6 #[.val (.ref a1), .val (.ref s1)] [])) _
    refine XS.aloadN X102.here hx rfl (hb hby d19_6) rfl rfl ?_
    show Steps p.tables e below (T102.setTop (mkF m 7 #[.val (.ref a1), .val (.ref s1)] [(.ref a1)])) _
    refine st103 _ ?_
    show Steps p.tables e below (T103.setTop (mkF m 10 #[.val (.ref a1), .val (.ref s1)] [(.int (0 : Int32))])) _
    refine XS.aloadN X103.here hx rfl (hb hby d19_10) rfl rfl ?_
    show Steps p.tables e below (T103.setTop (mkF m 11 #[.val (.ref a1), .val (.ref s1)] [(.ref s1), (.int (0 : Int32))])) _
    refine st104.trans ?_
    show Steps p.tables e below (T104.setTop (mkF m 14 #[.val (.ref a1), .val (.ref s1)] [(.int (0 : Int32)), (.int (0 : Int32))])) _
    refine XS.icmpYes X104.here hx rfl (pc0 := 14) (pc' := 21) rfl (hb hby d19_14) rfl (teq (by decide : (0 : Int32) = (0 : Int32))).1 (by decide) (by decide) ?_
    show Steps p.tables e below (T104.setTop (mkF m 21 #[.val (.ref a1), .val (.ref s1)] [])) _
    exact X104.returnOut hx Bd.returns (hb hby d19_21) hr
  · show Q_rm19 Z a1 s1 zc h0 n0 _ T104.heap _
    rw [e104]
    unfold Q_rm19
    exact ⟨rfl, N104, rfl⟩
theorem ef_rm17 (m : MethodId) (x0 : Addr) (x1 : Int32) : entryFrame m #[(.ref x0), (.int x1)] 3 = mkF m 0 #[.val (.ref x0), .val (.int x1), .unset] [] := by first | (simp [entryFrame, mkF, argsToLocals, Value.category]; done) | rfl
def Q_rm17 (Z : State) (a1 : Addr) (tb : Addr) (kt : ClassId) (Y1 : List Value) (c1 : Int32) (h0 : Heap) (n0 : Nat) (v : Option Value) (h : Heap) (L : List Loc) : Prop := (v = none) ∧ (Fr n0 L) ∧ (h = h0)
theorem d17_0 : decode jdk_68_method_9_code 0 = .ok (.aload_n 0, 1) := by decide +kernel
theorem d17_1 : decode jdk_68_method_9_code 1 = .ok (.getfield 15, 3) := by decide +kernel
theorem d17_4 : decode jdk_68_method_9_code 4 = .ok (.arraylength, 1) := by decide +kernel
theorem d17_5 : decode jdk_68_method_9_code 5 = .ok (.aload_n 0, 1) := by decide +kernel
theorem d17_6 : decode jdk_68_method_9_code 6 = .ok (.getfield 22, 3) := by decide +kernel
theorem d17_9 : decode jdk_68_method_9_code 9 = .ok (.ishr, 1) := by decide +kernel
theorem d17_10 : decode jdk_68_method_9_code 10 = .ok (.istore_n 2, 1) := by decide +kernel
theorem d17_11 : decode jdk_68_method_9_code 11 = .ok (.iload_n 1, 1) := by decide +kernel
theorem d17_12 : decode jdk_68_method_9_code 12 = .ok (.iload_n 2, 1) := by decide +kernel
theorem d17_13 : decode jdk_68_method_9_code 13 = .ok (.isub, 1) := by decide +kernel
theorem d17_14 : decode jdk_68_method_9_code 14 = .ok (.ifCond .le 24, 3) := by decide +kernel
theorem d17_38 : decode jdk_68_method_9_code 38 = .ok (.return_, 1) := by decide +kernel
set_option maxRecDepth 65536 in
set_option maxHeartbeats 40000000 in
theorem rm17 (l : Launch) (Z : State) (a0 : Array Value) (hw : ∀ d ∈ tables_1, d.before a0 Z = true) (ws : List Jvm.Cond) (a1 : Addr) (tb : Addr) (kt : ClassId) (Y1 : List Value) (c1 : Int32) (h0 : Heap) (n0 : Nat) (O0 : Old Z n0 h0) (FV : Fld Z h0 a1 "java/lang/AbstractStringBuilder" "value" "[B" (.ref tb)) (FC : Fld Z h0 a1 "java/lang/AbstractStringBuilder" "coder" "B" (.int (0 : Int32))) (AB : Arv Z h0 tb kt .byte (16 : Int32) Y1 (.int (0 : Int32))) (hc : ¬ (0 : Int32) < (c1 - (16 : Int32))) :
    MetFree l (⟨"java/lang/AbstractStringBuilder", "ensureCapacityInternal", "(I)V"⟩ : MethodName) (head1 (Jvm.Cond.code (⟨"java/lang/AbstractStringBuilder", "ensureCapacityInternal", "(I)V"⟩ : MethodName) jdk_68_method_9_code 3 none :: ws) ({ frames := 0, cells := 0, slots := 0, locals := 0 } : Room)) (fun a U => a = #[(.ref a1), (.int c1)] ∧ Z.Warmed39 U.vm ∧ U.heap = h0) (fun _ _ _ _ _ => True) (fun _ U o U' => ∃ v L, o = .returned v ∧ Q_rm17 Z a1 tb kt Y1 c1 h0 n0 v U'.heap L ∧ FrameEnd U o U' L ({ frames := 0, cells := 0, slots := 0, locals := 0 } : Room).cells ({ frames := 0, cells := 0, slots := 0, locals := 0 } : Room).slots) := by
  refine MetFree.of_bodySF (plainFor_of_name pn_3) hisR ?_
  intro p e s m args below meth c s₁ Bd hml0 hP hK
  obtain ⟨rfl, hZ, hh⟩ := hP
  have hx := Bd.exec
  have hby := Bd.bytes
  have hml : c.maxLocals = 3 := hml0
  have hown : s.vm.findClass "java/lang/AbstractStringBuilder" = some m.cls := findClass_of_methodNamed Bd.named
  have hnm := (name_of_methodNamed Bd.named Bd.method).1
  have X0 : Stand p l e ({ frames := 0, cells := 0, slots := 0, locals := 0 } : Room) s m #[(.ref a1), (.int c1)] below meth c s₁ [] 0 0 := Stand.of_body Bd
  have e0 : s₁.heap = h0 := by rw [← hh, Bd.state]; rfl
  have N0 := Fr.nil n0
  have Z0 : n0 ≤ h0.size := old_le O0
  have pre0 : ∀ t, Steps p.tables e below (s₁.setTop (mkF m 0 #[.val (.ref a1), .val (.int c1), .unset] [])) t → Steps p.tables e below (s₁.setTop (entryFrame m #[(.ref a1), (.int c1)] 3)) t := fun t k => castTop (ef_rm17 m a1 c1) k
  obtain ⟨T101, X101, e101, st101⟩ := getF X0 hx hZ hown (host := "") (Or.inl (hwk hw 75 rfl)) Via.refl e0 FV (g := (mkF m 1 #[.val (.ref a1), .val (.int c1), .unset] [(.ref a1)])) rfl rfl (hb hby d17_1)
  obtain ⟨cl102, Ar102, -, Sz102, Nn102, -, -⟩ := id AB
  obtain ⟨T103, X103, e103, st103⟩ := getF X101 hx hZ hown (host := "") (Or.inl (hwk hw 77 rfl)) Via.refl e101 FC (g := (mkF m 6 #[.val (.ref a1), .val (.int c1), .unset] [(.ref a1), (.int (16 : Int32))])) rfl rfl (hb hby d17_6)
  obtain ⟨fs, hr, hrun, hended, hW, hsame⟩ := X103.leave (v := none) (fun _ => rfl)
  refine ⟨_, _, pre0 _ ?_, hrun, hended, _, _, rfl, ?_, ⟨_, rfl⟩, hW, hsame.mono (by decide) (by decide)⟩
  · show Steps p.tables e below (s₁.setTop (mkF m 0 #[.val (.ref a1), .val (.int c1), .unset] [])) _
    refine XS.aloadN X0.here hx rfl (hb hby d17_0) rfl rfl ?_
    show Steps p.tables e below (s₁.setTop (mkF m 1 #[.val (.ref a1), .val (.int c1), .unset] [(.ref a1)])) _
    refine st101 _ ?_
    show Steps p.tables e below (T101.setTop (mkF m 4 #[.val (.ref a1), .val (.int c1), .unset] [(.ref tb)])) _
    refine X101.arraylength hx (by rw [e101]; exact Ar102.1) (State.isArrayOf_alike hZ.alike Ar102.2.1) (g := (mkF m 4 #[.val (.ref a1), .val (.int c1), .unset] [(.ref tb)])) rfl rfl (hb hby d17_4) _ ?_
    rw [len_of Sz102 Nn102]
    show Steps p.tables e below (T101.setTop (mkF m 5 #[.val (.ref a1), .val (.int c1), .unset] [(.int (16 : Int32))])) _
    refine XS.aloadN X101.here hx rfl (hb hby d17_5) rfl rfl ?_
    show Steps p.tables e below (T101.setTop (mkF m 6 #[.val (.ref a1), .val (.int c1), .unset] [(.ref a1), (.int (16 : Int32))])) _
    refine st103 _ ?_
    show Steps p.tables e below (T103.setTop (mkF m 9 #[.val (.ref a1), .val (.int c1), .unset] [(.int (0 : Int32)), (.int (16 : Int32))])) _
    refine XS.ishr X103.here hx rfl (hb hby d17_9) rfl ?_
    show Steps p.tables e below (T103.setTop (mkF m 10 #[.val (.ref a1), .val (.int c1), .unset] [(.int ((16 : Int32) >>> ((0 : Int32) &&& 31)))])) _
    rw [show ((16 : Int32) >>> ((0 : Int32) &&& 31)) = (16 : Int32) from by decide]
    show Steps p.tables e below (T103.setTop (mkF m 10 #[.val (.ref a1), .val (.int c1), .unset] [(.int (16 : Int32))])) _
    refine XS.istoreN X103.here hx rfl (hb hby d17_10) rfl (l' := #[.val (.ref a1), .val (.int c1), .val (.int (16 : Int32))]) rfl ?_
    show Steps p.tables e below (T103.setTop (mkF m 11 #[.val (.ref a1), .val (.int c1), .val (.int (16 : Int32))] [])) _
    refine XS.iloadN X103.here hx rfl (hb hby d17_11) rfl ?_
    refine XS.iloadN X103.here hx rfl (hb hby d17_12) rfl ?_
    refine XS.isub X103.here hx rfl (hb hby d17_13) rfl ?_
    show Steps p.tables e below (T103.setTop (mkF m 14 #[.val (.ref a1), .val (.int c1), .val (.int (16 : Int32))] [(.int (c1 - (16 : Int32)))])) _
    refine XS.ifYes X103.here hx rfl (pc0 := 14) (pc' := 38) rfl (hb hby d17_14) rfl ((if0 _ _).trans (flt (hc : ¬ ((0 : Int32) < (c1 - (16 : Int32))))).2.2.2) (by decide) (by decide) ?_
    show Steps p.tables e below (T103.setTop (mkF m 38 #[.val (.ref a1), .val (.int c1), .val (.int (16 : Int32))] [])) _
    exact X103.returnOut hx Bd.returns (hb hby d17_38) hr
  · show Q_rm17 Z a1 tb kt Y1 c1 h0 n0 _ T103.heap _
    rw [e103]
    unfold Q_rm17
    exact ⟨rfl, N0, rfl⟩
theorem ef_rm20 (m : MethodId) (x0 : Addr) (x1 : Addr) (x2 : Int32) (x3 : Int32) : entryFrame m #[(.ref x0), (.ref x1), (.int x2), (.int x3)] 4 = mkF m 0 #[.val (.ref x0), .val (.ref x1), .val (.int x2), .val (.int x3)] [] := by first | (simp [entryFrame, mkF, argsToLocals, Value.category]; done) | rfl
def Q_rm20 (Z : State) (s1 : Addr) (t1 : Addr) (k1 : ClassId) (m1 : Int32) (X1 : List Value) (tb : Addr) (kt : ClassId) (n1 : Int32) (Y1 : List Value) (zc : Int32) (h0 : Heap) (n0 : Nat) (v : Option Value) (h : Heap) (L : List Loc) : Prop := (v = none) ∧ (Fr n0 L) ∧ (Keep h0 h [tb]) ∧ (Arv Z h tb kt .byte (16 : Int32) (APP n1 Y1 m1 X1) (.int (0 : Int32)))
theorem d20_0 : decode jdk_42_method_147_code 0 = .ok (.aload_n 0, 1) := by decide +kernel
theorem d20_1 : decode jdk_42_method_147_code 1 = .ok (.invokevirtual 335, 3) := by decide +kernel
theorem d20_4 : decode jdk_42_method_147_code 4 = .ok (.iload_n 3, 1) := by decide +kernel
theorem d20_5 : decode jdk_42_method_147_code 5 = .ok (.if_icmp .ne 23, 3) := by decide +kernel
theorem d20_8 : decode jdk_42_method_147_code 8 = .ok (.aload_n 0, 1) := by decide +kernel
theorem d20_9 : decode jdk_42_method_147_code 9 = .ok (.getfield 9, 3) := by decide +kernel
theorem d20_12 : decode jdk_42_method_147_code 12 = .ok (.iconst 0, 1) := by decide +kernel
theorem d20_13 : decode jdk_42_method_147_code 13 = .ok (.aload_n 1, 1) := by decide +kernel
theorem d20_14 : decode jdk_42_method_147_code 14 = .ok (.iload_n 2, 1) := by decide +kernel
theorem d20_15 : decode jdk_42_method_147_code 15 = .ok (.iload_n 3, 1) := by decide +kernel
theorem d20_16 : decode jdk_42_method_147_code 16 = .ok (.ishl, 1) := by decide +kernel
theorem d20_17 : decode jdk_42_method_147_code 17 = .ok (.aload_n 0, 1) := by decide +kernel
theorem d20_18 : decode jdk_42_method_147_code 18 = .ok (.getfield 9, 3) := by decide +kernel
theorem d20_21 : decode jdk_42_method_147_code 21 = .ok (.arraylength, 1) := by decide +kernel
theorem d20_22 : decode jdk_42_method_147_code 22 = .ok (.invokestatic 212, 3) := by decide +kernel
theorem d20_25 : decode jdk_42_method_147_code 25 = .ok (.goto 18, 3) := by decide +kernel
theorem d20_43 : decode jdk_42_method_147_code 43 = .ok (.return_, 1) := by decide +kernel
set_option maxRecDepth 65536 in
set_option maxHeartbeats 40000000 in
theorem rm20 (l : Launch) (Z : State) (a0 : Array Value) (hw : ∀ d ∈ tables_1, d.before a0 Z = true) (ws : List Jvm.Cond) (s1 : Addr) (t1 : Addr) (k1 : ClassId) (m1 : Int32) (X1 : List Value) (tb : Addr) (kt : ClassId) (n1 : Int32) (Y1 : List Value) (zc : Int32) (h0 : Heap) (n0 : Nat) (O0 : Old Z n0 h0) (E1 : Exa Z h0 s1 "java/lang/String") (V1 : Fld Z h0 s1 "java/lang/String" "value" "[B" (.ref t1)) (C1 : Fld Z h0 s1 "java/lang/String" "coder" "B" (.int (0 : Int32))) (A1 : Arv Z h0 t1 k1 .byte m1 X1 (.int (0 : Int32))) (gt : n0 ≤ tb) (AB : Arv Z h0 tb kt .byte (16 : Int32) Y1 (.int (0 : Int32))) (ko : KO n1 m1) (hm : m1.toNatClampNeg = X1.length) (hV : Y1.length = (16 : Nat)) (SZ : Sta Z Z.heap "java/lang/String" "COMPACT_STRINGS" "Z" (.int zc)) (PZ : ¬ (zc = (0 : Int32))) :
    MetFree l (⟨"java/lang/String", "getBytes", "([BIB)V"⟩ : MethodName) (head1 (Jvm.Cond.code (⟨"java/lang/String", "getBytes", "([BIB)V"⟩ : MethodName) jdk_42_method_147_code 4 none :: ws) ({ frames := 1, cells := 0, slots := 0, locals := 18 } : Room)) (fun a U => a = #[(.ref s1), (.ref tb), (.int n1), (.int (0 : Int32))] ∧ Z.Warmed39 U.vm ∧ U.heap = h0) (fun _ _ _ _ _ => True) (fun _ U o U' => ∃ v L, o = .returned v ∧ Q_rm20 Z s1 t1 k1 m1 X1 tb kt n1 Y1 zc h0 n0 v U'.heap L ∧ FrameEnd U o U' L ({ frames := 1, cells := 0, slots := 0, locals := 18 } : Room).cells ({ frames := 1, cells := 0, slots := 0, locals := 18 } : Room).slots) := by
  refine MetFree.of_bodySF (plainFor_of_name pn_0) hisR ?_
  intro p e s m args below meth c s₁ Bd hml0 hP hK
  obtain ⟨rfl, hZ, hh⟩ := hP
  have hx := Bd.exec
  have hby := Bd.bytes
  have hml : c.maxLocals = 4 := hml0
  have hown : s.vm.findClass "java/lang/String" = some m.cls := findClass_of_methodNamed Bd.named
  have hnm := (name_of_methodNamed Bd.named Bd.method).1
  have X0 : Stand p l e ({ frames := 1, cells := 0, slots := 0, locals := 18 } : Room) s m #[(.ref s1), (.ref tb), (.int n1), (.int (0 : Int32))] below meth c s₁ [] 0 0 := Stand.of_body Bd
  have e0 : s₁.heap = h0 := by rw [← hh, Bd.state]; rfl
  have N0 := Fr.nil n0
  have Z0 : n0 ≤ h0.size := old_le O0
  have pre0 : ∀ t, Steps p.tables e below (s₁.setTop (mkF m 0 #[.val (.ref s1), .val (.ref tb), .val (.int n1), .val (.int (0 : Int32))] [])) t → Steps p.tables e below (s₁.setTop (entryFrame m #[(.ref s1), (.ref tb), (.int n1), (.int (0 : Int32))] 4)) t := fun t k => castTop (ef_rm20 m s1 tb n1 (0 : Int32)) k
  obtain ⟨cq101, kq101, q101a, q101b, q101c⟩ := isOf hZ e0 E1
  obtain ⟨_, _, ⟨T101, L101, k101, n101⟩, -, X101, ⟨Lc101, hQ101, l101, y101, z101⟩, st101⟩ := X0.virtualBack hx (y := (⟨"java/lang/String", "coder", "()B"⟩ : MethodName)) (z := (⟨"java/lang/String", "coder", "()B"⟩ : MethodName)) hown (mvT hZ (hwk hw 40 rfl)) (mvT hZ (hwk hw 41 rfl)) (notFace_of_selects (args := #[]) (mvT hZ (hwk hw 43 rfl))) (mvT hZ (hwk hw 43 rfl)) (mvT hZ (hwk hw 42 rfl)) (by decide) (backOf (W := 0) (rm8 l Z a0 hw [] s1 zc h0 n0 O0 C1 SZ PZ) hZ (hwk hw 44 rfl) (hwk hw 6 rfl) (by decide) (by decide)) q101a q101c (g := (mkF m 1 #[.val (.ref s1), .val (.ref tb), .val (.int n1), .val (.int (0 : Int32))] [(.ref s1)])) rfl (by rw [hml]; rfl) (Steps.refl _) (argsL := []) (rest := []) (lenOf pd_6 rfl) rfl (by show 2 * 0 + _ ≤ _; exact Nat.le_of_eq rfl) (hb hby d20_1) (fun _ _ => ⟨rfl, e0, (by decide : 0 + 0 ≤ _), (by decide : 0 + 0 ≤ _)⟩)
  dsimp only [Pt.U, Pt.locs, Pt.cells, Pt.slots] at X101 l101 y101 z101 st101 hQ101
  subst l101 y101 z101
  unfold Q_rm8 at hQ101
  obtain ⟨rfl, N101q, e101⟩ := hQ101
  have N101 := Fr.app N0 N101q
  obtain ⟨T102, X102, e102, st102⟩ := getF X101 hx hZ hown (host := "") (Or.inl (hwk hw 24 rfl)) Via.refl e101 V1 (g := (mkF m 9 #[.val (.ref s1), .val (.ref tb), .val (.int n1), .val (.int (0 : Int32))] [(.ref s1)])) rfl rfl (hb hby d20_9)
  obtain ⟨T103, X103, e103, st103⟩ := getF X102 hx hZ hown (host := "") (Or.inl (hwk hw 24 rfl)) Via.refl e102 V1 (g := (mkF m 18 #[.val (.ref s1), .val (.ref tb), .val (.int n1), .val (.int (0 : Int32))] [(.ref s1), (.int n1), (.ref tb), (.int (0 : Int32)), (.ref t1)])) rfl rfl (hb hby d20_18)
  obtain ⟨cl104, Ar104, -, Sz104, Nn104, -, -⟩ := id A1
  obtain ⟨T105, h105, L105, X105, e105, N105, K105, V105, st105⟩ := cpA X103 hx hZ hown (hwk hw 113 rfl) (hwk hw 116 rfl) (hwk hw 114 rfl) (hwk hw 115 rfl) e103 A1 AB (Or.inl ⟨rfl, rfl⟩) (by decide) ko.1 ko.2.1 (by rw [show (0 : Int32).toNatClampNeg = 0 from by decide]; omega) ko.2.2.1 (us := X1) (own_us hm) (by have := ko.2.2.1; omega) N101 gt (g := (mkF m 22 #[.val (.ref s1), .val (.ref tb), .val (.int n1), .val (.int (0 : Int32))] [(.int m1), (.int n1), (.ref tb), (.int (0 : Int32)), (.ref t1)])) rfl (by rw [hml]; rfl) rfl (hb hby d20_22) (by decide) (W := 0) (by show 2 * 0 + _ ≤ _; exact Nat.le_of_eq rfl) (by decide)
  have W105 : Arv Z h105 tb kt .byte (16 : Int32) (APP n1 Y1 m1 X1) (.int (0 : Int32)) := own_arv V105 rfl
  have K106 : Keep h0 h105 [tb] := Keep.trans (Keep.refl h0 [tb]) K105 (allS (Or.inl (List.mem_of_getElem? (i := 0) rfl)) all0)
  obtain ⟨fs, hr, hrun, hended, hW, hsame⟩ := X105.leave (v := none) (fun _ => rfl)
  refine ⟨_, _, pre0 _ ?_, hrun, hended, _, _, rfl, ?_, ⟨_, rfl⟩, hW, hsame.mono (by decide) (by decide)⟩
  · show Steps p.tables e below (s₁.setTop (mkF m 0 #[.val (.ref s1), .val (.ref tb), .val (.int n1), .val (.int (0 : Int32))] [])) _
    refine XS.aloadN X0.here hx rfl (hb hby d20_0) rfl rfl ?_
    show Steps p.tables e below (s₁.setTop (mkF m 1 #[.val (.ref s1), .val (.ref tb), .val (.int n1), .val (.int (0 : Int32))] [(.ref s1)])) _
    refine st101.trans ?_
    show Steps p.tables e below (T101.setTop (mkF m 4 #[.val (.ref s1), .val (.ref tb), .val (.int n1), .val (.int (0 : Int32))] [(.int (0 : Int32))])) _
    refine XS.iloadN X101.here hx rfl (hb hby d20_4) rfl ?_
    refine XS.icmpNo X101.here hx rfl (hb hby d20_5) rfl (teq (by decide : (0 : Int32) = (0 : Int32))).2 ?_
    show Steps p.tables e below (T101.setTop (mkF m 8 #[.val (.ref s1), .val (.ref tb), .val (.int n1), .val (.int (0 : Int32))] [])) _
    refine XS.aloadN X101.here hx rfl (hb hby d20_8) rfl rfl ?_
    show Steps p.tables e below (T101.setTop (mkF m 9 #[.val (.ref s1), .val (.ref tb), .val (.int n1), .val (.int (0 : Int32))] [(.ref s1)])) _
    refine st102 _ ?_
    show Steps p.tables e below (T102.setTop (mkF m 12 #[.val (.ref s1), .val (.ref tb), .val (.int n1), .val (.int (0 : Int32))] [(.ref t1)])) _
    refine XS.iconst X102.here hx rfl (hb hby d20_12) ?_
    refine XS.aloadN X102.here hx rfl (hb hby d20_13) rfl rfl ?_
    refine XS.iloadN X102.here hx rfl (hb hby d20_14) rfl ?_
    refine XS.iloadN X102.here hx rfl (hb hby d20_15) rfl ?_
    show Steps p.tables e below (T102.setTop (mkF m 16 #[.val (.ref s1), .val (.ref tb), .val (.int n1), .val (.int (0 : Int32))] [(.int (0 : Int32)), (.int n1), (.ref tb), (.int (0 : Int32)), (.ref t1)])) _
    refine XS.ishl X102.here hx rfl (hb hby d20_16) rfl ?_
    show Steps p.tables e below (T102.setTop (mkF m 17 #[.val (.ref s1), .val (.ref tb), .val (.int n1), .val (.int (0 : Int32))] [(.int (n1 <<< ((0 : Int32) &&& 31))), (.ref tb), (.int (0 : Int32)), (.ref t1)])) _
    rw [own_shl0 n1]
    show Steps p.tables e below (T102.setTop (mkF m 17 #[.val (.ref s1), .val (.ref tb), .val (.int n1), .val (.int (0 : Int32))] [(.int n1), (.ref tb), (.int (0 : Int32)), (.ref t1)])) _
    refine XS.aloadN X102.here hx rfl (hb hby d20_17) rfl rfl ?_
    show Steps p.tables e below (T102.setTop (mkF m 18 #[.val (.ref s1), .val (.ref tb), .val (.int n1), .val (.int (0 : Int32))] [(.ref s1), (.int n1), (.ref tb), (.int (0 : Int32)), (.ref t1)])) _
    refine st103 _ ?_
    show Steps p.tables e below (T103.setTop (mkF m 21 #[.val (.ref s1), .val (.ref tb), .val (.int n1), .val (.int (0 : Int32))] [(.ref t1), (.int n1), (.ref tb), (.int (0 : Int32)), (.ref t1)])) _
    refine X103.arraylength hx (by rw [e103]; exact Ar104.1) (State.isArrayOf_alike hZ.alike Ar104.2.1) (g := (mkF m 21 #[.val (.ref s1), .val (.ref tb), .val (.int n1), .val (.int (0 : Int32))] [(.ref t1), (.int n1), (.ref tb), (.int (0 : Int32)), (.ref t1)])) rfl rfl (hb hby d20_21) _ ?_
    rw [len_of Sz104 Nn104]
    show Steps p.tables e below (T103.setTop (mkF m 22 #[.val (.ref s1), .val (.ref tb), .val (.int n1), .val (.int (0 : Int32))] [(.int m1), (.int n1), (.ref tb), (.int (0 : Int32)), (.ref t1)])) _
    refine st105 _ ?_
    show Steps p.tables e below (T105.setTop (mkF m 25 #[.val (.ref s1), .val (.ref tb), .val (.int n1), .val (.int (0 : Int32))] [])) _
    refine XS.goto X105.here hx rfl (pc0 := 25) (pc' := 43) rfl (hb hby d20_25) (by decide) (by decide) ?_
    show Steps p.tables e below (T105.setTop (mkF m 43 #[.val (.ref s1), .val (.ref tb), .val (.int n1), .val (.int (0 : Int32))] [])) _
    exact X105.returnOut hx Bd.returns (hb hby d20_43) hr
  · show Q_rm20 Z s1 t1 k1 m1 X1 tb kt n1 Y1 zc h0 n0 _ T105.heap _
    rw [e105]
    unfold Q_rm20
    exact ⟨rfl, N105, K106, W105⟩
theorem ef_rm18 (m : MethodId) (x0 : Addr) (x1 : Int32) (x2 : Addr) : entryFrame m #[(.ref x0), (.int x1), (.ref x2)] 3 = mkF m 0 #[.val (.ref x0), .val (.int x1), .val (.ref x2)] [] := by first | (simp [entryFrame, mkF, argsToLocals, Value.category]; done) | rfl
def Q_rm18 (Z : State) (s1 : Addr) (t1 : Addr) (k1 : ClassId) (m1 : Int32) (X1 : List Value) (a1 : Addr) (tb : Addr) (kt : ClassId) (n1 : Int32) (Y1 : List Value) (zc : Int32) (h0 : Heap) (n0 : Nat) (v : Option Value) (h : Heap) (L : List Loc) : Prop := (v = none) ∧ (Fr n0 L) ∧ (Keep h0 h [tb]) ∧ (Arv Z h tb kt .byte (16 : Int32) (APP n1 Y1 m1 X1) (.int (0 : Int32)))
theorem d18_0 : decode jdk_68_method_73_code 0 = .ok (.aload_n 0, 1) := by decide +kernel
theorem d18_1 : decode jdk_68_method_73_code 1 = .ok (.aload_n 2, 1) := by decide +kernel
theorem d18_2 : decode jdk_68_method_73_code 2 = .ok (.invokevirtual 397, 3) := by decide +kernel
theorem pd_8 : parseMethodDescriptor "(Ljava/lang/String;)V" = some ⟨[(.object "java/lang/String")], none⟩ := by decide +kernel
theorem d18_5 : decode jdk_68_method_73_code 5 = .ok (.aload_n 2, 1) := by decide +kernel
theorem d18_6 : decode jdk_68_method_73_code 6 = .ok (.aload_n 0, 1) := by decide +kernel
theorem d18_7 : decode jdk_68_method_73_code 7 = .ok (.getfield 15, 3) := by decide +kernel
theorem d18_10 : decode jdk_68_method_73_code 10 = .ok (.iload_n 1, 1) := by decide +kernel
theorem d18_11 : decode jdk_68_method_73_code 11 = .ok (.aload_n 0, 1) := by decide +kernel
theorem d18_12 : decode jdk_68_method_73_code 12 = .ok (.getfield 22, 3) := by decide +kernel
theorem d18_15 : decode jdk_68_method_73_code 15 = .ok (.invokevirtual 399, 3) := by decide +kernel
theorem pd_9 : parseMethodDescriptor "([BIB)V" = some ⟨[(.array .byte), .int, .byte], none⟩ := by decide +kernel
theorem d18_18 : decode jdk_68_method_73_code 18 = .ok (.return_, 1) := by decide +kernel
set_option maxRecDepth 65536 in
set_option maxHeartbeats 40000000 in
theorem rm18 (l : Launch) (Z : State) (a0 : Array Value) (hw : ∀ d ∈ tables_1, d.before a0 Z = true) (ws : List Jvm.Cond) (s1 : Addr) (t1 : Addr) (k1 : ClassId) (m1 : Int32) (X1 : List Value) (a1 : Addr) (tb : Addr) (kt : ClassId) (n1 : Int32) (Y1 : List Value) (zc : Int32) (h0 : Heap) (n0 : Nat) (O0 : Old Z n0 h0) (E1 : Exa Z h0 s1 "java/lang/String") (V1 : Fld Z h0 s1 "java/lang/String" "value" "[B" (.ref t1)) (C1 : Fld Z h0 s1 "java/lang/String" "coder" "B" (.int (0 : Int32))) (A1 : Arv Z h0 t1 k1 .byte m1 X1 (.int (0 : Int32))) (ES : Exa Z h0 a1 "java/lang/StringBuilder") (ga : n0 ≤ a1) (gt : n0 ≤ tb) (nt : a1 ≠ tb) (FV : Fld Z h0 a1 "java/lang/AbstractStringBuilder" "value" "[B" (.ref tb)) (FC : Fld Z h0 a1 "java/lang/AbstractStringBuilder" "coder" "B" (.int (0 : Int32))) (FN : Fld Z h0 a1 "java/lang/AbstractStringBuilder" "count" "I" (.int n1)) (AB : Arv Z h0 tb kt .byte (16 : Int32) Y1 (.int (0 : Int32))) (ko : KO n1 m1) (hm : m1.toNatClampNeg = X1.length) (hV : Y1.length = (16 : Nat)) (SZ : Sta Z Z.heap "java/lang/String" "COMPACT_STRINGS" "Z" (.int zc)) (PZ : ¬ (zc = (0 : Int32))) :
    MetFree l (⟨"java/lang/AbstractStringBuilder", "putStringAt", "(ILjava/lang/String;)V"⟩ : MethodName) (head1 (Jvm.Cond.code (⟨"java/lang/AbstractStringBuilder", "putStringAt", "(ILjava/lang/String;)V"⟩ : MethodName) jdk_68_method_73_code 3 none :: ws) ({ frames := 2, cells := 0, slots := 0, locals := 33 } : Room)) (fun a U => a = #[(.ref a1), (.int n1), (.ref s1)] ∧ Z.Warmed39 U.vm ∧ U.heap = h0) (fun _ _ _ _ _ => True) (fun _ U o U' => ∃ v L, o = .returned v ∧ Q_rm18 Z s1 t1 k1 m1 X1 a1 tb kt n1 Y1 zc h0 n0 v U'.heap L ∧ FrameEnd U o U' L ({ frames := 2, cells := 0, slots := 0, locals := 33 } : Room).cells ({ frames := 2, cells := 0, slots := 0, locals := 33 } : Room).slots) := by
  refine MetFree.of_bodySF (plainFor_of_name pn_3) hisR ?_
  intro p e s m args below meth c s₁ Bd hml0 hP hK
  obtain ⟨rfl, hZ, hh⟩ := hP
  have hx := Bd.exec
  have hby := Bd.bytes
  have hml : c.maxLocals = 3 := hml0
  have hown : s.vm.findClass "java/lang/AbstractStringBuilder" = some m.cls := findClass_of_methodNamed Bd.named
  have hnm := (name_of_methodNamed Bd.named Bd.method).1
  have X0 : Stand p l e ({ frames := 2, cells := 0, slots := 0, locals := 33 } : Room) s m #[(.ref a1), (.int n1), (.ref s1)] below meth c s₁ [] 0 0 := Stand.of_body Bd
  have e0 : s₁.heap = h0 := by rw [← hh, Bd.state]; rfl
  have N0 := Fr.nil n0
  have Z0 : n0 ≤ h0.size := old_le O0
  have pre0 : ∀ t, Steps p.tables e below (s₁.setTop (mkF m 0 #[.val (.ref a1), .val (.int n1), .val (.ref s1)] [])) t → Steps p.tables e below (s₁.setTop (entryFrame m #[(.ref a1), (.int n1), (.ref s1)] 3)) t := fun t k => castTop (ef_rm18 m a1 n1 s1) k
  obtain ⟨cq101, q101, q101'⟩ := (ES).cell
  obtain ⟨_, _, ⟨T101, L101, k101, n101⟩, -, X101, ⟨Lc101, hQ101, l101, y101, z101⟩, st101⟩ := X0.privateBack hx (y := (⟨"java/lang/AbstractStringBuilder", "inflateIfNeededFor", "(Ljava/lang/String;)V"⟩ : MethodName)) hown (mvT hZ (hwk hw 102 rfl)) (mvT hZ (hwk hw 103 rfl)) (own_selfP (Cond.privateMethod_at (mvP hZ (hwk hw 104 rfl) (args := #[]))) (mvT hZ (hwk hw 103 rfl)) (mvT hZ (hwk hw 105 rfl)) (by decide)) (Cond.privateMethod_at (mvP hZ (hwk hw 104 rfl) (args := #[]))) (mvT hZ (hwk hw 106 rfl)) (by decide) (backOf (W := 0) (rm19 l Z a0 hw [] a1 s1 zc h0 n0 O0 ES FC E1 C1 SZ PZ) hZ (hwk hw 106 rfl) (hwk hw 71 rfl) (by decide) (by decide)) (g := (mkF m 2 #[.val (.ref a1), .val (.int n1), .val (.ref s1)] [(.ref s1), (.ref a1)])) rfl (by rw [hml]; rfl) (Steps.refl _) (a := a1) (by rw [e0]; exact q101) q101' (argsL := [(.ref s1)]) (rest := []) (lenOf pd_8 rfl) rfl (by show 2 * 0 + _ ≤ _; exact Nat.le_of_eq rfl) (hb hby d18_2) (fun _ _ => ⟨rfl, e0, (by decide : 0 + 0 ≤ _), (by decide : 0 + 0 ≤ _)⟩)
  dsimp only [Pt.U, Pt.locs, Pt.cells, Pt.slots] at X101 l101 y101 z101 st101 hQ101
  subst l101 y101 z101
  unfold Q_rm19 at hQ101
  obtain ⟨rfl, N101q, e101⟩ := hQ101
  have N101 := Fr.app N0 N101q
  obtain ⟨T102, X102, e102, st102⟩ := getF X101 hx hZ hown (host := "") (Or.inl (hwk hw 75 rfl)) Via.refl e101 FV (g := (mkF m 7 #[.val (.ref a1), .val (.int n1), .val (.ref s1)] [(.ref a1), (.ref s1)])) rfl rfl (hb hby d18_7)
  obtain ⟨T103, X103, e103, st103⟩ := getF X102 hx hZ hown (host := "") (Or.inl (hwk hw 77 rfl)) Via.refl e102 FC (g := (mkF m 12 #[.val (.ref a1), .val (.int n1), .val (.ref s1)] [(.ref a1), (.int n1), (.ref tb), (.ref s1)])) rfl rfl (hb hby d18_12)
  obtain ⟨cq104, kq104, q104a, q104b, q104c⟩ := isOf hZ e103 E1
  obtain ⟨_, _, ⟨T104, L104, k104, n104⟩, -, X104, ⟨Lc104, hQ104, l104, y104, z104⟩, st104⟩ := X103.virtualBack hx (y := (⟨"java/lang/String", "getBytes", "([BIB)V"⟩ : MethodName)) (z := (⟨"java/lang/String", "getBytes", "([BIB)V"⟩ : MethodName)) hown (mvT hZ (hwk hw 108 rfl)) (mvT hZ (hwk hw 109 rfl)) (notFace_of_selects (args := #[]) (mvT hZ (hwk hw 111 rfl))) (mvT hZ (hwk hw 111 rfl)) (mvT hZ (hwk hw 110 rfl)) (by decide) (backOf (W := 0) (rm20 l Z a0 hw [] s1 t1 k1 m1 X1 tb kt n1 Y1 zc h0 n0 O0 E1 V1 C1 A1 gt AB ko hm hV SZ PZ) hZ (hwk hw 112 rfl) (hwk hw 6 rfl) (by decide) (by decide)) q104a q104c (g := (mkF m 15 #[.val (.ref a1), .val (.int n1), .val (.ref s1)] [(.int (0 : Int32)), (.int n1), (.ref tb), (.ref s1)])) rfl (by rw [hml]; rfl) (Steps.refl _) (argsL := [(.ref tb), (.int n1), (.int (0 : Int32))]) (rest := []) (lenOf pd_9 rfl) rfl (by show 2 * 0 + _ ≤ _; exact Nat.le_of_eq rfl) (hb hby d18_15) (fun _ _ => ⟨rfl, e103, (by decide : 0 + 0 ≤ _), (by decide : 0 + 0 ≤ _)⟩)
  dsimp only [Pt.U, Pt.locs, Pt.cells, Pt.slots] at X104 l104 y104 z104 st104 hQ104
  subst l104 y104 z104
  unfold Q_rm20 at hQ104
  obtain ⟨rfl, N104q, K104, f104_0⟩ := hQ104
  have N104 := Fr.app N101 N104q
  have K105 : Keep h0 T104.heap [tb] := Keep.trans (Keep.refl h0 [tb]) K104 (allS (Or.inl (List.mem_of_getElem? (i := 0) rfl)) all0)
  obtain ⟨fs, hr, hrun, hended, hW, hsame⟩ := X104.leave (v := none) (fun _ => rfl)
  refine ⟨_, _, pre0 _ ?_, hrun, hended, _, _, rfl, ?_, ⟨_, rfl⟩, hW, hsame.mono (by decide) (by decide)⟩
  · show Steps p.tables e below (s₁.setTop (mkF m 0 #[.val (.ref a1), .val (.int n1), .val (.ref s1)] [])) _
    refine XS.aloadN X0.here hx rfl (hb hby d18_0) rfl rfl ?_
    refine XS.aloadN X0.here hx rfl (hb hby d18_1) rfl rfl ?_
    show Steps p.tables e below (s₁.setTop (mkF m 2 #[.val (.ref a1), .val (.int n1), .val (.ref s1)] [(.ref s1), (.ref a1)])) _
    refine st101.trans ?_
    show Steps p.tables e below (T101.setTop (mkF m 5 #[.val (.ref a1), .val (.int n1), .val (.ref s1)] [])) _
    refine XS.aloadN X101.here hx rfl (hb hby d18_5) rfl rfl ?_
    refine XS.aloadN X101.here hx rfl (hb hby d18_6) rfl rfl ?_
    show Steps p.tables e below (T101.setTop (mkF m 7 #[.val (.ref a1), .val (.int n1), .val (.ref s1)] [(.ref a1), (.ref s1)])) _
    refine st102 _ ?_
    show Steps p.tables e below (T102.setTop (mkF m 10 #[.val (.ref a1), .val (.int n1), .val (.ref s1)] [(.ref tb), (.ref s1)])) _
    refine XS.iloadN X102.here hx rfl (hb hby d18_10) rfl ?_
    refine XS.aloadN X102.here hx rfl (hb hby d18_11) rfl rfl ?_
    show Steps p.tables e below (T102.setTop (mkF m 12 #[.val (.ref a1), .val (.int n1), .val (.ref s1)] [(.ref a1), (.int n1), (.ref tb), (.ref s1)])) _
    refine st103 _ ?_
    show Steps p.tables e below (T103.setTop (mkF m 15 #[.val (.ref a1), .val (.int n1), .val (.ref s1)] [(.int (0 : Int32)), (.int n1), (.ref tb), (.ref s1)])) _
    refine st104.trans ?_
    show Steps p.tables e below (T104.setTop (mkF m 18 #[.val (.ref a1), .val (.int n1), .val (.ref s1)] [])) _
    exact X104.returnOut hx Bd.returns (hb hby d18_18) hr
  · show Q_rm18 Z s1 t1 k1 m1 X1 a1 tb kt n1 Y1 zc h0 n0 _ T104.heap _
    unfold Q_rm18
    exact ⟨rfl, N104, K105, f104_0⟩
theorem ef_rm16 (m : MethodId) (x0 : Addr) (x1 : Addr) : entryFrame m #[(.ref x0), (.ref x1)] 3 = mkF m 0 #[.val (.ref x0), .val (.ref x1), .unset] [] := by first | (simp [entryFrame, mkF, argsToLocals, Value.category]; done) | rfl
def Q_rm16 (Z : State) (s1 : Addr) (t1 : Addr) (k1 : ClassId) (m1 : Int32) (X1 : List Value) (a1 : Addr) (tb : Addr) (kt : ClassId) (n1 : Int32) (Y1 : List Value) (zc : Int32) (h0 : Heap) (n0 : Nat) (v : Option Value) (h : Heap) (L : List Loc) : Prop := (v = some (.ref a1)) ∧ (Fr n0 L) ∧ (Keep h0 h [a1, tb]) ∧ (Fld Z h a1 "java/lang/AbstractStringBuilder" "value" "[B" (.ref tb)) ∧ (Fld Z h a1 "java/lang/AbstractStringBuilder" "coder" "B" (.int (0 : Int32))) ∧ (Fld Z h a1 "java/lang/AbstractStringBuilder" "count" "I" (.int (n1 + m1))) ∧ (Arv Z h tb kt .byte (16 : Int32) (APP n1 Y1 m1 X1) (.int (0 : Int32))) ∧ ((APP n1 Y1 m1 X1).length = (16 : Nat))
theorem d16_0 : decode jdk_68_method_22_code 0 = .ok (.aload_n 1, 1) := by decide +kernel
theorem d16_1 : decode jdk_68_method_22_code 1 = .ok (.ifnonnull 8, 3) := by decide +kernel
theorem d16_9 : decode jdk_68_method_22_code 9 = .ok (.aload_n 1, 1) := by decide +kernel
theorem d16_10 : decode jdk_68_method_22_code 10 = .ok (.invokevirtual 32, 3) := by decide +kernel
theorem pd_10 : parseMethodDescriptor "()I" = some ⟨[], some .int⟩ := by decide +kernel
theorem d16_13 : decode jdk_68_method_22_code 13 = .ok (.istore_n 2, 1) := by decide +kernel
theorem d16_14 : decode jdk_68_method_22_code 14 = .ok (.aload_n 0, 1) := by decide +kernel
theorem d16_15 : decode jdk_68_method_22_code 15 = .ok (.aload_n 0, 1) := by decide +kernel
theorem d16_16 : decode jdk_68_method_22_code 16 = .ok (.getfield 79, 3) := by decide +kernel
theorem d16_19 : decode jdk_68_method_22_code 19 = .ok (.iload_n 2, 1) := by decide +kernel
theorem d16_20 : decode jdk_68_method_22_code 20 = .ok (.iadd, 1) := by decide +kernel
theorem d16_21 : decode jdk_68_method_22_code 21 = .ok (.invokevirtual 100, 3) := by decide +kernel
theorem d16_24 : decode jdk_68_method_22_code 24 = .ok (.aload_n 0, 1) := by decide +kernel
theorem d16_25 : decode jdk_68_method_22_code 25 = .ok (.aload_n 0, 1) := by decide +kernel
theorem d16_26 : decode jdk_68_method_22_code 26 = .ok (.getfield 79, 3) := by decide +kernel
theorem d16_29 : decode jdk_68_method_22_code 29 = .ok (.aload_n 1, 1) := by decide +kernel
theorem d16_30 : decode jdk_68_method_22_code 30 = .ok (.invokevirtual 208, 3) := by decide +kernel
theorem pd_11 : parseMethodDescriptor "(ILjava/lang/String;)V" = some ⟨[.int, (.object "java/lang/String")], none⟩ := by decide +kernel
theorem d16_33 : decode jdk_68_method_22_code 33 = .ok (.aload_n 0, 1) := by decide +kernel
theorem d16_34 : decode jdk_68_method_22_code 34 = .ok (.dup, 1) := by decide +kernel
theorem d16_35 : decode jdk_68_method_22_code 35 = .ok (.getfield 79, 3) := by decide +kernel
theorem d16_38 : decode jdk_68_method_22_code 38 = .ok (.iload_n 2, 1) := by decide +kernel
theorem d16_39 : decode jdk_68_method_22_code 39 = .ok (.iadd, 1) := by decide +kernel
theorem d16_40 : decode jdk_68_method_22_code 40 = .ok (.putfield 79, 3) := by decide +kernel
theorem d16_43 : decode jdk_68_method_22_code 43 = .ok (.aload_n 0, 1) := by decide +kernel
theorem d16_44 : decode jdk_68_method_22_code 44 = .ok (.areturn, 1) := by decide +kernel
set_option maxRecDepth 65536 in
set_option maxHeartbeats 40000000 in
theorem rm16 (l : Launch) (Z : State) (a0 : Array Value) (hw : ∀ d ∈ tables_1, d.before a0 Z = true) (ws : List Jvm.Cond) (s1 : Addr) (t1 : Addr) (k1 : ClassId) (m1 : Int32) (X1 : List Value) (a1 : Addr) (tb : Addr) (kt : ClassId) (n1 : Int32) (Y1 : List Value) (zc : Int32) (h0 : Heap) (n0 : Nat) (O0 : Old Z n0 h0) (E1 : Exa Z h0 s1 "java/lang/String") (V1 : Fld Z h0 s1 "java/lang/String" "value" "[B" (.ref t1)) (C1 : Fld Z h0 s1 "java/lang/String" "coder" "B" (.int (0 : Int32))) (A1 : Arv Z h0 t1 k1 .byte m1 X1 (.int (0 : Int32))) (ES : Exa Z h0 a1 "java/lang/StringBuilder") (ga : n0 ≤ a1) (gt : n0 ≤ tb) (nt : a1 ≠ tb) (FV : Fld Z h0 a1 "java/lang/AbstractStringBuilder" "value" "[B" (.ref tb)) (FC : Fld Z h0 a1 "java/lang/AbstractStringBuilder" "coder" "B" (.int (0 : Int32))) (FN : Fld Z h0 a1 "java/lang/AbstractStringBuilder" "count" "I" (.int n1)) (AB : Arv Z h0 tb kt .byte (16 : Int32) Y1 (.int (0 : Int32))) (ko : KO n1 m1) (hm : m1.toNatClampNeg = X1.length) (hV : Y1.length = (16 : Nat)) (SZ : Sta Z Z.heap "java/lang/String" "COMPACT_STRINGS" "Z" (.int zc)) (PZ : ¬ (zc = (0 : Int32))) :
    MetFree l (⟨"java/lang/AbstractStringBuilder", "append", "(Ljava/lang/String;)Ljava/lang/AbstractStringBuilder;"⟩ : MethodName) (head1 (Jvm.Cond.code (⟨"java/lang/AbstractStringBuilder", "append", "(Ljava/lang/String;)Ljava/lang/AbstractStringBuilder;"⟩ : MethodName) jdk_68_method_22_code 3 (some (.object "java/lang/AbstractStringBuilder")) :: ws) ({ frames := 3, cells := 0, slots := 0, locals := 47 } : Room)) (fun a U => a = #[(.ref a1), (.ref s1)] ∧ Z.Warmed39 U.vm ∧ U.heap = h0) (fun _ _ _ _ _ => True) (fun _ U o U' => ∃ v L, o = .returned v ∧ Q_rm16 Z s1 t1 k1 m1 X1 a1 tb kt n1 Y1 zc h0 n0 v U'.heap L ∧ FrameEnd U o U' L ({ frames := 3, cells := 0, slots := 0, locals := 47 } : Room).cells ({ frames := 3, cells := 0, slots := 0, locals := 47 } : Room).slots) := by
  refine MetFree.of_bodySF (plainFor_of_name pn_3) hisR ?_
  intro p e s m args below meth c s₁ Bd hml0 hP hK
  obtain ⟨rfl, hZ, hh⟩ := hP
  have hx := Bd.exec
  have hby := Bd.bytes
  have hml : c.maxLocals = 3 := hml0
  have hown : s.vm.findClass "java/lang/AbstractStringBuilder" = some m.cls := findClass_of_methodNamed Bd.named
  have hnm := (name_of_methodNamed Bd.named Bd.method).1
  have X0 : Stand p l e ({ frames := 3, cells := 0, slots := 0, locals := 47 } : Room) s m #[(.ref a1), (.ref s1)] below meth c s₁ [] 0 0 := Stand.of_body Bd
  have e0 : s₁.heap = h0 := by rw [← hh, Bd.state]; rfl
  have N0 := Fr.nil n0
  have Z0 : n0 ≤ h0.size := old_le O0
  have pre0 : ∀ t, Steps p.tables e below (s₁.setTop (mkF m 0 #[.val (.ref a1), .val (.ref s1), .unset] [])) t → Steps p.tables e below (s₁.setTop (entryFrame m #[(.ref a1), (.ref s1)] 3)) t := fun t k => castTop (ef_rm16 m a1 s1) k
  obtain ⟨cq101, kq101, q101a, q101b, q101c⟩ := isOf hZ e0 E1
  obtain ⟨_, _, ⟨T101, L101, k101, n101⟩, -, X101, ⟨Lc101, hQ101, l101, y101, z101⟩, st101⟩ := X0.virtualBack hx (y := (⟨"java/lang/String", "length", "()I"⟩ : MethodName)) (z := (⟨"java/lang/String", "length", "()I"⟩ : MethodName)) hown (mvT hZ (hwk hw 89 rfl)) (mvT hZ (hwk hw 36 rfl)) (notFace_of_selects (args := #[]) (mvT hZ (hwk hw 38 rfl))) (mvT hZ (hwk hw 38 rfl)) (mvT hZ (hwk hw 37 rfl)) (by decide) (backOf (W := 0) (rm7 l Z a0 hw [] s1 t1 k1 m1 X1 zc h0 n0 O0 E1 V1 C1 A1 SZ PZ) hZ (hwk hw 39 rfl) (hwk hw 6 rfl) (by decide) (by decide)) q101a q101c (g := (mkF m 10 #[.val (.ref a1), .val (.ref s1), .unset] [(.ref s1)])) rfl (by rw [hml]; rfl) (Steps.refl _) (argsL := []) (rest := []) (lenOf pd_10 rfl) rfl (by show 2 * 0 + _ ≤ _; exact Nat.le_of_eq rfl) (hb hby d16_10) (fun _ _ => ⟨rfl, e0, (by decide : 0 + 0 ≤ _), (by decide : 0 + 0 ≤ _)⟩)
  dsimp only [Pt.U, Pt.locs, Pt.cells, Pt.slots] at X101 l101 y101 z101 st101 hQ101
  subst l101 y101 z101
  unfold Q_rm7 at hQ101
  obtain ⟨rfl, N101q, e101⟩ := hQ101
  have N101 := Fr.app N0 N101q
  obtain ⟨T102, X102, e102, st102⟩ := getF X101 hx hZ hown (host := "") (Or.inl (hwk hw 90 rfl)) Via.refl e101 FN (g := (mkF m 16 #[.val (.ref a1), .val (.ref s1), .val (.int m1)] [(.ref a1), (.ref a1)])) rfl rfl (hb hby d16_16)
  obtain ⟨cq103, q103, q103'⟩ := (ES).cell
  obtain ⟨_, _, ⟨T103, L103, k103, n103⟩, -, X103, ⟨Lc103, hQ103, l103, y103, z103⟩, st103⟩ := X102.privateBack hx (y := (⟨"java/lang/AbstractStringBuilder", "ensureCapacityInternal", "(I)V"⟩ : MethodName)) hown (mvT hZ (hwk hw 92 rfl)) (mvT hZ (hwk hw 93 rfl)) (own_selfP (Cond.privateMethod_at (mvP hZ (hwk hw 94 rfl) (args := #[]))) (mvT hZ (hwk hw 93 rfl)) (mvT hZ (hwk hw 95 rfl)) (by decide)) (Cond.privateMethod_at (mvP hZ (hwk hw 94 rfl) (args := #[]))) (mvT hZ (hwk hw 96 rfl)) (by decide) (backOf (W := 0) (rm17 l Z a0 hw [] a1 tb kt Y1 (n1 + m1) h0 n0 O0 FV FC AB ko.2.2.2) hZ (hwk hw 96 rfl) (hwk hw 71 rfl) (by decide) (by decide)) (g := (mkF m 21 #[.val (.ref a1), .val (.ref s1), .val (.int m1)] [(.int (n1 + m1)), (.ref a1)])) rfl (by rw [hml]; rfl) (Steps.refl _) (a := a1) (by rw [e102]; exact q103) q103' (argsL := [(.int (n1 + m1))]) (rest := []) (lenOf pd_7 rfl) rfl (by show 2 * 0 + _ ≤ _; exact Nat.le_of_eq rfl) (hb hby d16_21) (fun _ _ => ⟨rfl, e102, (by decide : 0 + 0 ≤ _), (by decide : 0 + 0 ≤ _)⟩)
  dsimp only [Pt.U, Pt.locs, Pt.cells, Pt.slots] at X103 l103 y103 z103 st103 hQ103
  subst l103 y103 z103
  unfold Q_rm17 at hQ103
  obtain ⟨rfl, N103q, e103⟩ := hQ103
  have N103 := Fr.app N101 N103q
  obtain ⟨T104, X104, e104, st104⟩ := getF X103 hx hZ hown (host := "") (Or.inl (hwk hw 90 rfl)) Via.refl e103 FN (g := (mkF m 26 #[.val (.ref a1), .val (.ref s1), .val (.int m1)] [(.ref a1), (.ref a1)])) rfl rfl (hb hby d16_26)
  obtain ⟨cq105, q105, q105'⟩ := (ES).cell
  obtain ⟨_, _, ⟨T105, L105, k105, n105⟩, -, X105, ⟨Lc105, hQ105, l105, y105, z105⟩, st105⟩ := X104.privateBack hx (y := (⟨"java/lang/AbstractStringBuilder", "putStringAt", "(ILjava/lang/String;)V"⟩ : MethodName)) hown (mvT hZ (hwk hw 97 rfl)) (mvT hZ (hwk hw 98 rfl)) (own_selfP (Cond.privateMethod_at (mvP hZ (hwk hw 99 rfl) (args := #[]))) (mvT hZ (hwk hw 98 rfl)) (mvT hZ (hwk hw 100 rfl)) (by decide)) (Cond.privateMethod_at (mvP hZ (hwk hw 99 rfl) (args := #[]))) (mvT hZ (hwk hw 101 rfl)) (by decide) (backOf (W := 0) (rm18 l Z a0 hw [] s1 t1 k1 m1 X1 a1 tb kt n1 Y1 zc h0 n0 O0 E1 V1 C1 A1 ES ga gt nt FV FC FN AB ko hm hV SZ PZ) hZ (hwk hw 101 rfl) (hwk hw 71 rfl) (by decide) (by decide)) (g := (mkF m 30 #[.val (.ref a1), .val (.ref s1), .val (.int m1)] [(.ref s1), (.int n1), (.ref a1)])) rfl (by rw [hml]; rfl) (Steps.refl _) (a := a1) (by rw [e104]; exact q105) q105' (argsL := [(.int n1), (.ref s1)]) (rest := []) (lenOf pd_11 rfl) rfl (by show 2 * 0 + _ ≤ _; exact Nat.le_of_eq rfl) (hb hby d16_30) (fun _ _ => ⟨rfl, e104, (by decide : 0 + 0 ≤ _), (by decide : 0 + 0 ≤ _)⟩)
  dsimp only [Pt.U, Pt.locs, Pt.cells, Pt.slots] at X105 l105 y105 z105 st105 hQ105
  subst l105 y105 z105
  unfold Q_rm18 at hQ105
  obtain ⟨rfl, N105q, K105, f105_0⟩ := hQ105
  have N105 := Fr.app N103 N105q
  have c106 : Fld Z T105.heap a1 "java/lang/AbstractStringBuilder" "count" "I" (.int n1) := (Fld.keep FN K105 (ninS nt nin0))
  obtain ⟨T107, X107, e107, st107⟩ := getF X105 hx hZ hown (host := "") (Or.inl (hwk hw 90 rfl)) Via.refl (rfl : T105.heap = T105.heap) c106 (g := (mkF m 35 #[.val (.ref a1), .val (.ref s1), .val (.int m1)] [(.ref a1), (.ref a1)])) rfl rfl (hb hby d16_35)
  have c108 : Exa Z T105.heap a1 "java/lang/StringBuilder" := (Exa.keep ES K105)
  obtain ⟨T109, h109, X109, e109, W109, st109⟩ := putF X107 hx hZ hown (host := "") (Or.inl (hwk hw 90 rfl)) Via.refl e107 c106 c108 (Or.inl (hwk hw 91 rfl)) (hwk hw 62 rfl) (ty := .int) (by decide) rfl rfl (g := (mkF m 40 #[.val (.ref a1), .val (.ref s1), .val (.int m1)] [(.int (n1 + m1)), (.ref a1)])) rfl rfl (hb hby d16_40)
  have F109 : Fld Z h109 a1 "java/lang/AbstractStringBuilder" "count" "I" (.int (n1 + m1)) := Fld.same W109 c106
  have N109 := Fr.snoc X109 N105 ga
  have K110 : Keep h0 T105.heap [a1, tb] := Keep.trans (Keep.refl h0 [a1, tb]) K105 (allS (Or.inl (List.mem_of_getElem? (i := 1) rfl)) all0)
  have K111 : Keep h0 h109 [a1, tb] := Keep.wr K110 W109 (Or.inl (List.mem_of_getElem? (i := 0) rfl))
  have c112 : Fld Z h109 a1 "java/lang/AbstractStringBuilder" "value" "[B" (.ref tb) := (Fld.other W109 (Fld.keep FV K105 (ninS nt nin0)) (Or.inr (slot_ne (Or.inl (hwk hw 76 rfl)) (Or.inl (hwk hw 91 rfl)) (by decide) (t := (.array .byte)) (t' := .int) (by decide) (by decide))))
  have c113 : Fld Z h109 a1 "java/lang/AbstractStringBuilder" "coder" "B" (.int (0 : Int32)) := (Fld.other W109 (Fld.keep FC K105 (ninS nt nin0)) (Or.inr (slot_ne (Or.inl (hwk hw 78 rfl)) (Or.inl (hwk hw 91 rfl)) (by decide) (t := .byte) (t' := .int) (by decide) (by decide))))
  have c114 : Arv Z h109 tb kt .byte (16 : Int32) (APP n1 Y1 m1 X1) (.int (0 : Int32)) := (Arv.other f105_0 W109 (Ne.symm nt))
  obtain ⟨fs, hr, hrun, hended, hW, hsame⟩ := X109.leave (v := some (.ref a1)) (fun h => by rw [Bd.returns] at h; cases h)
  refine ⟨_, _, pre0 _ ?_, hrun, hended, _, _, rfl, ?_, ⟨_, rfl⟩, hW, hsame.mono (by decide) (by decide)⟩
  · show Steps p.tables e below (s₁.setTop (mkF m 0 #[.val (.ref a1), .val (.ref s1), .unset] [])) _
    refine XS.aloadN X0.here hx rfl (hb hby d16_0) rfl rfl ?_
    refine XS.ifnonnullYes X0.here hx rfl (pc0 := 1) (pc' := 9) rfl (hb hby d16_1) rfl (by decide) (by decide) ?_
    show Steps p.tables e below (s₁.setTop (mkF m 9 #[.val (.ref a1), .val (.ref s1), .unset] [])) _
    refine XS.aloadN X0.here hx rfl (hb hby d16_9) rfl rfl ?_
    show Steps p.tables e below (s₁.setTop (mkF m 10 #[.val (.ref a1), .val (.ref s1), .unset] [(.ref s1)])) _
    refine st101.trans ?_
    show Steps p.tables e below (T101.setTop (mkF m 13 #[.val (.ref a1), .val (.ref s1), .unset] [(.int m1)])) _
    refine XS.istoreN X101.here hx rfl (hb hby d16_13) rfl (l' := #[.val (.ref a1), .val (.ref s1), .val (.int m1)]) rfl ?_
    show Steps p.tables e below (T101.setTop (mkF m 14 #[.val (.ref a1), .val (.ref s1), .val (.int m1)] [])) _
    refine XS.aloadN X101.here hx rfl (hb hby d16_14) rfl rfl ?_
    refine XS.aloadN X101.here hx rfl (hb hby d16_15) rfl rfl ?_
    show Steps p.tables e below (T101.setTop (mkF m 16 #[.val (.ref a1), .val (.ref s1), .val (.int m1)] [(.ref a1), (.ref a1)])) _
    refine st102 _ ?_
    show Steps p.tables e below (T102.setTop (mkF m 19 #[.val (.ref a1), .val (.ref s1), .val (.int m1)] [(.int n1), (.ref a1)])) _
    refine XS.iloadN X102.here hx rfl (hb hby d16_19) rfl ?_
    refine XS.iadd X102.here hx rfl (hb hby d16_20) rfl ?_
    show Steps p.tables e below (T102.setTop (mkF m 21 #[.val (.ref a1), .val (.ref s1), .val (.int m1)] [(.int (n1 + m1)), (.ref a1)])) _
    refine st103.trans ?_
    show Steps p.tables e below (T103.setTop (mkF m 24 #[.val (.ref a1), .val (.ref s1), .val (.int m1)] [])) _
    refine XS.aloadN X103.here hx rfl (hb hby d16_24) rfl rfl ?_
    refine XS.aloadN X103.here hx rfl (hb hby d16_25) rfl rfl ?_
    show Steps p.tables e below (T103.setTop (mkF m 26 #[.val (.ref a1), .val (.ref s1), .val (.int m1)] [(.ref a1), (.ref a1)])) _
    refine st104 _ ?_
    show Steps p.tables e below (T104.setTop (mkF m 29 #[.val (.ref a1), .val (.ref s1), .val (.int m1)] [(.int n1), (.ref a1)])) _
    refine XS.aloadN X104.here hx rfl (hb hby d16_29) rfl rfl ?_
    show Steps p.tables e below (T104.setTop (mkF m 30 #[.val (.ref a1), .val (.ref s1), .val (.int m1)] [(.ref s1), (.int n1), (.ref a1)])) _
    refine st105.trans ?_
    show Steps p.tables e below (T105.setTop (mkF m 33 #[.val (.ref a1), .val (.ref s1), .val (.int m1)] [])) _
    refine XS.aloadN X105.here hx rfl (hb hby d16_33) rfl rfl ?_
    refine XS.dup X105.here hx rfl (hb hby d16_34) rfl rfl ?_
    show Steps p.tables e below (T105.setTop (mkF m 35 #[.val (.ref a1), .val (.ref s1), .val (.int m1)] [(.ref a1), (.ref a1)])) _
    refine st107 _ ?_
    show Steps p.tables e below (T107.setTop (mkF m 38 #[.val (.ref a1), .val (.ref s1), .val (.int m1)] [(.int n1), (.ref a1)])) _
    refine XS.iloadN X107.here hx rfl (hb hby d16_38) rfl ?_
    refine XS.iadd X107.here hx rfl (hb hby d16_39) rfl ?_
    show Steps p.tables e below (T107.setTop (mkF m 40 #[.val (.ref a1), .val (.ref s1), .val (.int m1)] [(.int (n1 + m1)), (.ref a1)])) _
    refine st109 _ ?_
    show Steps p.tables e below (T109.setTop (mkF m 43 #[.val (.ref a1), .val (.ref s1), .val (.int m1)] [])) _
    refine XS.aloadN X109.here hx rfl (hb hby d16_43) rfl rfl ?_
    show Steps p.tables e below (T109.setTop (mkF m 44 #[.val (.ref a1), .val (.ref s1), .val (.int m1)] [(.ref a1)])) _
    exact Jvm.RoadKit.retOut X109 hx Bd.returns rfl (Or.inr (Or.inr (Or.inr (Or.inr ⟨rfl, rfl, rfl⟩)))) (hb hby d16_44) hr
  · show Q_rm16 Z s1 t1 k1 m1 X1 a1 tb kt n1 Y1 zc h0 n0 _ T109.heap _
    rw [e109]
    unfold Q_rm16
    exact ⟨rfl, N109, K111, c112, c113, F109, c114, (own_appl hV hm ko.2.2.1)⟩
theorem ef_rm15 (m : MethodId) (x0 : Addr) (x1 : Addr) : entryFrame m #[(.ref x0), (.ref x1)] 2 = mkF m 0 #[.val (.ref x0), .val (.ref x1)] [] := by first | (simp [entryFrame, mkF, argsToLocals, Value.category]; done) | rfl
def Q_rm15 (Z : State) (s1 : Addr) (t1 : Addr) (k1 : ClassId) (m1 : Int32) (X1 : List Value) (a1 : Addr) (tb : Addr) (kt : ClassId) (n1 : Int32) (Y1 : List Value) (zc : Int32) (h0 : Heap) (n0 : Nat) (v : Option Value) (h : Heap) (L : List Loc) : Prop := (v = some (.ref a1)) ∧ (Fr n0 L) ∧ (Keep h0 h [a1, tb]) ∧ (Fld Z h a1 "java/lang/AbstractStringBuilder" "value" "[B" (.ref tb)) ∧ (Fld Z h a1 "java/lang/AbstractStringBuilder" "coder" "B" (.int (0 : Int32))) ∧ (Fld Z h a1 "java/lang/AbstractStringBuilder" "count" "I" (.int (n1 + m1))) ∧ (Arv Z h tb kt .byte (16 : Int32) (APP n1 Y1 m1 X1) (.int (0 : Int32))) ∧ ((APP n1 Y1 m1 X1).length = (16 : Nat))
theorem d15_0 : decode jdk_67_method_7_code 0 = .ok (.aload_n 0, 1) := by decide +kernel
theorem d15_1 : decode jdk_67_method_7_code 1 = .ok (.aload_n 1, 1) := by decide +kernel
theorem d15_2 : decode jdk_67_method_7_code 2 = .ok (.invokespecial 29, 3) := by decide +kernel
theorem pd_12 : parseMethodDescriptor "(Ljava/lang/String;)Ljava/lang/AbstractStringBuilder;" = some ⟨[(.object "java/lang/String")], some (.object "java/lang/AbstractStringBuilder")⟩ := by decide +kernel
theorem d15_5 : decode jdk_67_method_7_code 5 = .ok (.pop, 1) := by decide +kernel
theorem d15_6 : decode jdk_67_method_7_code 6 = .ok (.aload_n 0, 1) := by decide +kernel
theorem d15_7 : decode jdk_67_method_7_code 7 = .ok (.areturn, 1) := by decide +kernel
set_option maxRecDepth 65536 in
set_option maxHeartbeats 40000000 in
theorem rm15 (l : Launch) (Z : State) (a0 : Array Value) (hw : ∀ d ∈ tables_1, d.before a0 Z = true) (ws : List Jvm.Cond) (s1 : Addr) (t1 : Addr) (k1 : ClassId) (m1 : Int32) (X1 : List Value) (a1 : Addr) (tb : Addr) (kt : ClassId) (n1 : Int32) (Y1 : List Value) (zc : Int32) (h0 : Heap) (n0 : Nat) (O0 : Old Z n0 h0) (E1 : Exa Z h0 s1 "java/lang/String") (V1 : Fld Z h0 s1 "java/lang/String" "value" "[B" (.ref t1)) (C1 : Fld Z h0 s1 "java/lang/String" "coder" "B" (.int (0 : Int32))) (A1 : Arv Z h0 t1 k1 .byte m1 X1 (.int (0 : Int32))) (ES : Exa Z h0 a1 "java/lang/StringBuilder") (ga : n0 ≤ a1) (gt : n0 ≤ tb) (nt : a1 ≠ tb) (FV : Fld Z h0 a1 "java/lang/AbstractStringBuilder" "value" "[B" (.ref tb)) (FC : Fld Z h0 a1 "java/lang/AbstractStringBuilder" "coder" "B" (.int (0 : Int32))) (FN : Fld Z h0 a1 "java/lang/AbstractStringBuilder" "count" "I" (.int n1)) (AB : Arv Z h0 tb kt .byte (16 : Int32) Y1 (.int (0 : Int32))) (ko : KO n1 m1) (hm : m1.toNatClampNeg = X1.length) (hV : Y1.length = (16 : Nat)) (SZ : Sta Z Z.heap "java/lang/String" "COMPACT_STRINGS" "Z" (.int zc)) (PZ : ¬ (zc = (0 : Int32))) :
    MetFree l (⟨"java/lang/StringBuilder", "append", "(Ljava/lang/String;)Ljava/lang/StringBuilder;"⟩ : MethodName) (head1 (Jvm.Cond.code (⟨"java/lang/StringBuilder", "append", "(Ljava/lang/String;)Ljava/lang/StringBuilder;"⟩ : MethodName) jdk_67_method_7_code 2 (some (.object "java/lang/StringBuilder")) :: ws) ({ frames := 4, cells := 0, slots := 0, locals := 61 } : Room)) (fun a U => a = #[(.ref a1), (.ref s1)] ∧ Z.Warmed39 U.vm ∧ U.heap = h0) (fun _ _ _ _ _ => True) (fun _ U o U' => ∃ v L, o = .returned v ∧ Q_rm15 Z s1 t1 k1 m1 X1 a1 tb kt n1 Y1 zc h0 n0 v U'.heap L ∧ FrameEnd U o U' L ({ frames := 4, cells := 0, slots := 0, locals := 61 } : Room).cells ({ frames := 4, cells := 0, slots := 0, locals := 61 } : Room).slots) := by
  refine MetFree.of_bodySF (plainFor_of_name pn_4) hisR ?_
  intro p e s m args below meth c s₁ Bd hml0 hP hK
  obtain ⟨rfl, hZ, hh⟩ := hP
  have hx := Bd.exec
  have hby := Bd.bytes
  have hml : c.maxLocals = 2 := hml0
  have hown : s.vm.findClass "java/lang/StringBuilder" = some m.cls := findClass_of_methodNamed Bd.named
  have hnm := (name_of_methodNamed Bd.named Bd.method).1
  have X0 : Stand p l e ({ frames := 4, cells := 0, slots := 0, locals := 61 } : Room) s m #[(.ref a1), (.ref s1)] below meth c s₁ [] 0 0 := Stand.of_body Bd
  have e0 : s₁.heap = h0 := by rw [← hh, Bd.state]; rfl
  have N0 := Fr.nil n0
  have Z0 : n0 ≤ h0.size := old_le O0
  have pre0 : ∀ t, Steps p.tables e below (s₁.setTop (mkF m 0 #[.val (.ref a1), .val (.ref s1)] [])) t → Steps p.tables e below (s₁.setTop (entryFrame m #[(.ref a1), (.ref s1)] 2)) t := fun t k => castTop (ef_rm15 m a1 s1) k
  obtain ⟨_, _, ⟨T101, L101, k101, n101⟩, -, X101, ⟨Lc101, hQ101, l101, y101, z101⟩, st101⟩ := superBack X0 hx hZ (y := (⟨"java/lang/AbstractStringBuilder", "append", "(Ljava/lang/String;)Ljava/lang/AbstractStringBuilder;"⟩ : MethodName)) hown (hwk hw 84 rfl) (own_same (y := (⟨"java/lang/AbstractStringBuilder", "append", "(Ljava/lang/String;)Ljava/lang/AbstractStringBuilder;"⟩ : MethodName)) (hwk hw 85 rfl) (z := (⟨"java/lang/AbstractStringBuilder", "ensureCapacityInternal", "(I)V"⟩ : MethodName)) (hwk hw 95 rfl) rfl (by decide)) (hwk hw 85 rfl) (hwk hw 86 rfl) (by decide) (backOf (W := 0) (rm16 l Z a0 hw [] s1 t1 k1 m1 X1 a1 tb kt n1 Y1 zc h0 n0 O0 E1 V1 C1 A1 ES ga gt nt FV FC FN AB ko hm hV SZ PZ) hZ (hwk hw 88 rfl) (hwk hw 71 rfl) (by decide) (by decide)) e0 (Ins.self ES) (g := (mkF m 2 #[.val (.ref a1), .val (.ref s1)] [(.ref s1), (.ref a1)])) rfl (by rw [hml]; rfl) (hwk hw 88 rfl) (argsL := [(.ref s1)]) (rest := []) (lenOf pd_12 rfl) rfl (by show 2 * 0 + _ ≤ _; exact Nat.le_of_eq rfl) (hb hby d15_2) (fun _ _ => ⟨rfl, e0, (by decide : 0 + 0 ≤ _), (by decide : 0 + 0 ≤ _)⟩)
  dsimp only [Pt.U, Pt.locs, Pt.cells, Pt.slots] at X101 l101 y101 z101 st101 hQ101
  subst l101 y101 z101
  unfold Q_rm16 at hQ101
  obtain ⟨rfl, N101q, K101, f101_0, f101_1, f101_2, f101_3, f101_4⟩ := hQ101
  have N101 := Fr.app N0 N101q
  have K102 : Keep h0 T101.heap [a1, tb] := Keep.trans (Keep.refl h0 [a1, tb]) K101 (allS (Or.inl (List.mem_of_getElem? (i := 0) rfl)) (allS (Or.inl (List.mem_of_getElem? (i := 1) rfl)) all0))
  obtain ⟨fs, hr, hrun, hended, hW, hsame⟩ := X101.leave (v := some (.ref a1)) (fun h => by rw [Bd.returns] at h; cases h)
  refine ⟨_, _, pre0 _ ?_, hrun, hended, _, _, rfl, ?_, ⟨_, rfl⟩, hW, hsame.mono (by decide) (by decide)⟩
  · show Steps p.tables e below (s₁.setTop (mkF m 0 #[.val (.ref a1), .val (.ref s1)] [])) _
    refine XS.aloadN X0.here hx rfl (hb hby d15_0) rfl rfl ?_
    refine XS.aloadN X0.here hx rfl (hb hby d15_1) rfl rfl ?_
    show Steps p.tables e below (s₁.setTop (mkF m 2 #[.val (.ref a1), .val (.ref s1)] [(.ref s1), (.ref a1)])) _
    refine st101.trans ?_
    show Steps p.tables e below (T101.setTop (mkF m 5 #[.val (.ref a1), .val (.ref s1)] [(.ref a1)])) _
    refine XS.pop X101.here hx rfl (hb hby d15_5) rfl rfl ?_
    show Steps p.tables e below (T101.setTop (mkF m 6 #[.val (.ref a1), .val (.ref s1)] [])) _
    refine XS.aloadN X101.here hx rfl (hb hby d15_6) rfl rfl ?_
    show Steps p.tables e below (T101.setTop (mkF m 7 #[.val (.ref a1), .val (.ref s1)] [(.ref a1)])) _
    exact Jvm.RoadKit.retOut X101 hx Bd.returns rfl (Or.inr (Or.inr (Or.inr (Or.inr ⟨rfl, rfl, rfl⟩)))) (hb hby d15_7) hr
  · show Q_rm15 Z s1 t1 k1 m1 X1 a1 tb kt n1 Y1 zc h0 n0 _ T101.heap _
    unfold Q_rm15
    exact ⟨rfl, N101, K102, f101_0, f101_1, f101_2, f101_3, (own_appl hV hm ko.2.2.1)⟩
theorem ef_rm24 (m : MethodId) (x0 : Addr) : entryFrame m #[(.ref x0)] 1 = mkF m 0 #[.val (.ref x0)] [] := by first | (simp [entryFrame, mkF, argsToLocals, Value.category]; done) | rfl
def Q_rm24 (Z : State) (a1 : Addr) (tb : Addr) (h0 : Heap) (n0 : Nat) (v : Option Value) (h : Heap) (L : List Loc) : Prop := (v = some (.ref tb)) ∧ (Fr n0 L) ∧ (h = h0)
theorem d24_0 : decode jdk_68_method_64_code 0 = .ok (.aload_n 0, 1) := by decide +kernel
theorem d24_1 : decode jdk_68_method_64_code 1 = .ok (.getfield 15, 3) := by decide +kernel
theorem d24_4 : decode jdk_68_method_64_code 4 = .ok (.areturn, 1) := by decide +kernel
set_option maxRecDepth 65536 in
set_option maxHeartbeats 40000000 in
theorem rm24 (l : Launch) (Z : State) (a0 : Array Value) (hw : ∀ d ∈ tables_1, d.before a0 Z = true) (ws : List Jvm.Cond) (a1 : Addr) (tb : Addr) (h0 : Heap) (n0 : Nat) (O0 : Old Z n0 h0) (FV : Fld Z h0 a1 "java/lang/AbstractStringBuilder" "value" "[B" (.ref tb)) :
    MetFree l (⟨"java/lang/AbstractStringBuilder", "getValue", "()[B"⟩ : MethodName) (head1 (Jvm.Cond.code (⟨"java/lang/AbstractStringBuilder", "getValue", "()[B"⟩ : MethodName) jdk_68_method_64_code 1 (some (.array .byte)) :: ws) ({ frames := 0, cells := 0, slots := 0, locals := 0 } : Room)) (fun a U => a = #[(.ref a1)] ∧ Z.Warmed39 U.vm ∧ U.heap = h0) (fun _ _ _ _ _ => True) (fun _ U o U' => ∃ v L, o = .returned v ∧ Q_rm24 Z a1 tb h0 n0 v U'.heap L ∧ FrameEnd U o U' L ({ frames := 0, cells := 0, slots := 0, locals := 0 } : Room).cells ({ frames := 0, cells := 0, slots := 0, locals := 0 } : Room).slots) := by
  refine MetFree.of_bodySF (plainFor_of_name pn_3) hisR ?_
  intro p e s m args below meth c s₁ Bd hml0 hP hK
  obtain ⟨rfl, hZ, hh⟩ := hP
  have hx := Bd.exec
  have hby := Bd.bytes
  have hml : c.maxLocals = 1 := hml0
  have hown : s.vm.findClass "java/lang/AbstractStringBuilder" = some m.cls := findClass_of_methodNamed Bd.named
  have hnm := (name_of_methodNamed Bd.named Bd.method).1
  have X0 : Stand p l e ({ frames := 0, cells := 0, slots := 0, locals := 0 } : Room) s m #[(.ref a1)] below meth c s₁ [] 0 0 := Stand.of_body Bd
  have e0 : s₁.heap = h0 := by rw [← hh, Bd.state]; rfl
  have N0 := Fr.nil n0
  have Z0 : n0 ≤ h0.size := old_le O0
  have pre0 : ∀ t, Steps p.tables e below (s₁.setTop (mkF m 0 #[.val (.ref a1)] [])) t → Steps p.tables e below (s₁.setTop (entryFrame m #[(.ref a1)] 1)) t := fun t k => castTop (ef_rm24 m a1) k
  obtain ⟨T101, X101, e101, st101⟩ := getF X0 hx hZ hown (host := "") (Or.inl (hwk hw 75 rfl)) Via.refl e0 FV (g := (mkF m 1 #[.val (.ref a1)] [(.ref a1)])) rfl rfl (hb hby d24_1)
  obtain ⟨fs, hr, hrun, hended, hW, hsame⟩ := X101.leave (v := some (.ref tb)) (fun h => by rw [Bd.returns] at h; cases h)
  refine ⟨_, _, pre0 _ ?_, hrun, hended, _, _, rfl, ?_, ⟨_, rfl⟩, hW, hsame.mono (by decide) (by decide)⟩
  · show Steps p.tables e below (s₁.setTop (mkF m 0 #[.val (.ref a1)] [])) _
    refine XS.aloadN X0.here hx rfl (hb hby d24_0) rfl rfl ?_
    show Steps p.tables e below (s₁.setTop (mkF m 1 #[.val (.ref a1)] [(.ref a1)])) _
    refine st101 _ ?_
    show Steps p.tables e below (T101.setTop (mkF m 4 #[.val (.ref a1)] [(.ref tb)])) _
    exact Jvm.RoadKit.retOut X101 hx Bd.returns rfl (Or.inr (Or.inr (Or.inr (Or.inr ⟨rfl, rfl, rfl⟩)))) (hb hby d24_4) hr
  · show Q_rm24 Z a1 tb h0 n0 _ T101.heap _
    rw [e101]
    unfold Q_rm24
    exact ⟨rfl, N0, rfl⟩
theorem ef_rm26 (m : MethodId) (x0 : Addr) : entryFrame m #[(.ref x0)] 1 = mkF m 0 #[.val (.ref x0)] [] := by first | (simp [entryFrame, mkF, argsToLocals, Value.category]; done) | rfl
def Q_rm26 (Z : State) (a1 : Addr) (n1 : Int32) (h0 : Heap) (n0 : Nat) (v : Option Value) (h : Heap) (L : List Loc) : Prop := (v = some (.int n1)) ∧ (Fr n0 L) ∧ (h = h0)
theorem d26_0 : decode jdk_68_method_6_code 0 = .ok (.aload_n 0, 1) := by decide +kernel
theorem d26_1 : decode jdk_68_method_6_code 1 = .ok (.getfield 79, 3) := by decide +kernel
theorem d26_4 : decode jdk_68_method_6_code 4 = .ok (.ireturn, 1) := by decide +kernel
set_option maxRecDepth 65536 in
set_option maxHeartbeats 40000000 in
theorem rm26 (l : Launch) (Z : State) (a0 : Array Value) (hw : ∀ d ∈ tables_1, d.before a0 Z = true) (ws : List Jvm.Cond) (a1 : Addr) (n1 : Int32) (h0 : Heap) (n0 : Nat) (O0 : Old Z n0 h0) (ES : Exa Z h0 a1 "java/lang/StringBuilder") (FN : Fld Z h0 a1 "java/lang/AbstractStringBuilder" "count" "I" (.int n1)) :
    MetFree l (⟨"java/lang/AbstractStringBuilder", "length", "()I"⟩ : MethodName) (head1 (Jvm.Cond.code (⟨"java/lang/AbstractStringBuilder", "length", "()I"⟩ : MethodName) jdk_68_method_6_code 1 (some .int) :: ws) ({ frames := 0, cells := 0, slots := 0, locals := 0 } : Room)) (fun a U => a = #[(.ref a1)] ∧ Z.Warmed39 U.vm ∧ U.heap = h0) (fun _ _ _ _ _ => True) (fun _ U o U' => ∃ v L, o = .returned v ∧ Q_rm26 Z a1 n1 h0 n0 v U'.heap L ∧ FrameEnd U o U' L ({ frames := 0, cells := 0, slots := 0, locals := 0 } : Room).cells ({ frames := 0, cells := 0, slots := 0, locals := 0 } : Room).slots) := by
  refine MetFree.of_bodySF (plainFor_of_name pn_3) hisR ?_
  intro p e s m args below meth c s₁ Bd hml0 hP hK
  obtain ⟨rfl, hZ, hh⟩ := hP
  have hx := Bd.exec
  have hby := Bd.bytes
  have hml : c.maxLocals = 1 := hml0
  have hown : s.vm.findClass "java/lang/AbstractStringBuilder" = some m.cls := findClass_of_methodNamed Bd.named
  have hnm := (name_of_methodNamed Bd.named Bd.method).1
  have X0 : Stand p l e ({ frames := 0, cells := 0, slots := 0, locals := 0 } : Room) s m #[(.ref a1)] below meth c s₁ [] 0 0 := Stand.of_body Bd
  have e0 : s₁.heap = h0 := by rw [← hh, Bd.state]; rfl
  have N0 := Fr.nil n0
  have Z0 : n0 ≤ h0.size := old_le O0
  have pre0 : ∀ t, Steps p.tables e below (s₁.setTop (mkF m 0 #[.val (.ref a1)] [])) t → Steps p.tables e below (s₁.setTop (entryFrame m #[(.ref a1)] 1)) t := fun t k => castTop (ef_rm26 m a1) k
  obtain ⟨T101, X101, e101, st101⟩ := getF X0 hx hZ hown (host := "") (Or.inl (hwk hw 90 rfl)) Via.refl e0 FN (g := (mkF m 1 #[.val (.ref a1)] [(.ref a1)])) rfl rfl (hb hby d26_1)
  obtain ⟨fs, hr, hrun, hended, hW, hsame⟩ := X101.leave (v := some (.int n1)) (fun h => by rw [Bd.returns] at h; cases h)
  refine ⟨_, _, pre0 _ ?_, hrun, hended, _, _, rfl, ?_, ⟨_, rfl⟩, hW, hsame.mono (by decide) (by decide)⟩
  · show Steps p.tables e below (s₁.setTop (mkF m 0 #[.val (.ref a1)] [])) _
    refine XS.aloadN X0.here hx rfl (hb hby d26_0) rfl rfl ?_
    show Steps p.tables e below (s₁.setTop (mkF m 1 #[.val (.ref a1)] [(.ref a1)])) _
    refine st101 _ ?_
    show Steps p.tables e below (T101.setTop (mkF m 4 #[.val (.ref a1)] [(.int n1)])) _
    exact Jvm.RoadKit.retOut X101 hx Bd.returns rfl (Or.inl ⟨rfl, by simp, _, rfl⟩) (hb hby d26_4) hr
  · show Q_rm26 Z a1 n1 h0 n0 _ T101.heap _
    rw [e101]
    unfold Q_rm26
    exact ⟨rfl, N0, rfl⟩
theorem ef_rm25 (m : MethodId) (x0 : Addr) : entryFrame m #[(.ref x0)] 1 = mkF m 0 #[.val (.ref x0)] [] := by first | (simp [entryFrame, mkF, argsToLocals, Value.category]; done) | rfl
def Q_rm25 (Z : State) (a1 : Addr) (n1 : Int32) (h0 : Heap) (n0 : Nat) (v : Option Value) (h : Heap) (L : List Loc) : Prop := (v = some (.int n1)) ∧ (Fr n0 L) ∧ (h = h0)
theorem d25_0 : decode jdk_67_method_93_code 0 = .ok (.aload_n 0, 1) := by decide +kernel
theorem d25_1 : decode jdk_67_method_93_code 1 = .ok (.invokespecial 343, 3) := by decide +kernel
theorem d25_4 : decode jdk_67_method_93_code 4 = .ok (.ireturn, 1) := by decide +kernel
set_option maxRecDepth 65536 in
set_option maxHeartbeats 40000000 in
theorem rm25 (l : Launch) (Z : State) (a0 : Array Value) (hw : ∀ d ∈ tables_1, d.before a0 Z = true) (ws : List Jvm.Cond) (a1 : Addr) (n1 : Int32) (h0 : Heap) (n0 : Nat) (O0 : Old Z n0 h0) (ES : Exa Z h0 a1 "java/lang/StringBuilder") (FN : Fld Z h0 a1 "java/lang/AbstractStringBuilder" "count" "I" (.int n1)) :
    MetFree l (⟨"java/lang/StringBuilder", "length", "()I"⟩ : MethodName) (head1 (Jvm.Cond.code (⟨"java/lang/StringBuilder", "length", "()I"⟩ : MethodName) jdk_67_method_93_code 1 (some .int) :: ws) ({ frames := 1, cells := 0, slots := 0, locals := 12 } : Room)) (fun a U => a = #[(.ref a1)] ∧ Z.Warmed39 U.vm ∧ U.heap = h0) (fun _ _ _ _ _ => True) (fun _ U o U' => ∃ v L, o = .returned v ∧ Q_rm25 Z a1 n1 h0 n0 v U'.heap L ∧ FrameEnd U o U' L ({ frames := 1, cells := 0, slots := 0, locals := 12 } : Room).cells ({ frames := 1, cells := 0, slots := 0, locals := 12 } : Room).slots) := by
  refine MetFree.of_bodySF (plainFor_of_name pn_4) hisR ?_
  intro p e s m args below meth c s₁ Bd hml0 hP hK
  obtain ⟨rfl, hZ, hh⟩ := hP
  have hx := Bd.exec
  have hby := Bd.bytes
  have hml : c.maxLocals = 1 := hml0
  have hown : s.vm.findClass "java/lang/StringBuilder" = some m.cls := findClass_of_methodNamed Bd.named
  have hnm := (name_of_methodNamed Bd.named Bd.method).1
  have X0 : Stand p l e ({ frames := 1, cells := 0, slots := 0, locals := 12 } : Room) s m #[(.ref a1)] below meth c s₁ [] 0 0 := Stand.of_body Bd
  have e0 : s₁.heap = h0 := by rw [← hh, Bd.state]; rfl
  have N0 := Fr.nil n0
  have Z0 : n0 ≤ h0.size := old_le O0
  have pre0 : ∀ t, Steps p.tables e below (s₁.setTop (mkF m 0 #[.val (.ref a1)] [])) t → Steps p.tables e below (s₁.setTop (entryFrame m #[(.ref a1)] 1)) t := fun t k => castTop (ef_rm25 m a1) k
  obtain ⟨_, _, ⟨T101, L101, k101, n101⟩, -, X101, ⟨Lc101, hQ101, l101, y101, z101⟩, st101⟩ := superBack X0 hx hZ (y := (⟨"java/lang/AbstractStringBuilder", "length", "()I"⟩ : MethodName)) hown (hwk hw 141 rfl) (own_same (y := (⟨"java/lang/AbstractStringBuilder", "length", "()I"⟩ : MethodName)) (hwk hw 137 rfl) (z := (⟨"java/lang/AbstractStringBuilder", "ensureCapacityInternal", "(I)V"⟩ : MethodName)) (hwk hw 95 rfl) rfl (by decide)) (hwk hw 137 rfl) (hwk hw 86 rfl) (by decide) (backOf (W := 0) (rm26 l Z a0 hw [] a1 n1 h0 n0 O0 ES FN) hZ (hwk hw 142 rfl) (hwk hw 71 rfl) (by decide) (by decide)) e0 (Ins.self ES) (g := (mkF m 1 #[.val (.ref a1)] [(.ref a1)])) rfl (by rw [hml]; rfl) (hwk hw 142 rfl) (argsL := []) (rest := []) (lenOf pd_10 rfl) rfl (by show 2 * 0 + _ ≤ _; exact Nat.le_of_eq rfl) (hb hby d25_1) (fun _ _ => ⟨rfl, e0, (by decide : 0 + 0 ≤ _), (by decide : 0 + 0 ≤ _)⟩)
  dsimp only [Pt.U, Pt.locs, Pt.cells, Pt.slots] at X101 l101 y101 z101 st101 hQ101
  subst l101 y101 z101
  unfold Q_rm26 at hQ101
  obtain ⟨rfl, N101q, e101⟩ := hQ101
  have N101 := Fr.app N0 N101q
  obtain ⟨fs, hr, hrun, hended, hW, hsame⟩ := X101.leave (v := some (.int n1)) (fun h => by rw [Bd.returns] at h; cases h)
  refine ⟨_, _, pre0 _ ?_, hrun, hended, _, _, rfl, ?_, ⟨_, rfl⟩, hW, hsame.mono (by decide) (by decide)⟩
  · show Steps p.tables e below (s₁.setTop (mkF m 0 #[.val (.ref a1)] [])) _
    refine XS.aloadN X0.here hx rfl (hb hby d25_0) rfl rfl ?_
    show Steps p.tables e below (s₁.setTop (mkF m 1 #[.val (.ref a1)] [(.ref a1)])) _
    refine st101.trans ?_
    show Steps p.tables e below (T101.setTop (mkF m 4 #[.val (.ref a1)] [(.int n1)])) _
    exact Jvm.RoadKit.retOut X101 hx Bd.returns rfl (Or.inl ⟨rfl, by simp, _, rfl⟩) (hb hby d25_4) hr
  · show Q_rm25 Z a1 n1 h0 n0 _ T101.heap _
    rw [e101]
    unfold Q_rm25
    exact ⟨rfl, N101, rfl⟩
theorem ef_rm27 (m : MethodId) (x0 : Addr) : entryFrame m #[(.ref x0)] 1 = mkF m 0 #[.val (.ref x0)] [] := by first | (simp [entryFrame, mkF, argsToLocals, Value.category]; done) | rfl
def Q_rm27 (Z : State) (a1 : Addr) (zc : Int32) (h0 : Heap) (n0 : Nat) (v : Option Value) (h : Heap) (L : List Loc) : Prop := (v = some (.int (1 : Int32))) ∧ (Fr n0 L) ∧ (h = h0)
theorem d27_0 : decode jdk_68_method_68_code 0 = .ok (.getstatic 18, 3) := by decide +kernel
theorem d27_3 : decode jdk_68_method_68_code 3 = .ok (.ifCond .eq 14, 3) := by decide +kernel
theorem d27_6 : decode jdk_68_method_68_code 6 = .ok (.aload_n 0, 1) := by decide +kernel
theorem d27_7 : decode jdk_68_method_68_code 7 = .ok (.getfield 22, 3) := by decide +kernel
theorem d27_10 : decode jdk_68_method_68_code 10 = .ok (.ifCond .ne 7, 3) := by decide +kernel
theorem d27_13 : decode jdk_68_method_68_code 13 = .ok (.iconst 1, 1) := by decide +kernel
theorem d27_14 : decode jdk_68_method_68_code 14 = .ok (.goto 4, 3) := by decide +kernel
theorem d27_18 : decode jdk_68_method_68_code 18 = .ok (.ireturn, 1) := by decide +kernel
set_option maxRecDepth 65536 in
set_option maxHeartbeats 40000000 in
theorem rm27 (l : Launch) (Z : State) (a0 : Array Value) (hw : ∀ d ∈ tables_1, d.before a0 Z = true) (ws : List Jvm.Cond) (a1 : Addr) (zc : Int32) (h0 : Heap) (n0 : Nat) (O0 : Old Z n0 h0) (FC : Fld Z h0 a1 "java/lang/AbstractStringBuilder" "coder" "B" (.int (0 : Int32))) (SZ : Sta Z Z.heap "java/lang/String" "COMPACT_STRINGS" "Z" (.int zc)) (PZ : ¬ (zc = (0 : Int32))) :
    MetFree l (⟨"java/lang/AbstractStringBuilder", "isLatin1", "()Z"⟩ : MethodName) (head1 (Jvm.Cond.code (⟨"java/lang/AbstractStringBuilder", "isLatin1", "()Z"⟩ : MethodName) jdk_68_method_68_code 1 (some .boolean) :: ws) ({ frames := 0, cells := 0, slots := 0, locals := 0 } : Room)) (fun a U => a = #[(.ref a1)] ∧ Z.Warmed39 U.vm ∧ U.heap = h0) (fun _ _ _ _ _ => True) (fun _ U o U' => ∃ v L, o = .returned v ∧ Q_rm27 Z a1 zc h0 n0 v U'.heap L ∧ FrameEnd U o U' L ({ frames := 0, cells := 0, slots := 0, locals := 0 } : Room).cells ({ frames := 0, cells := 0, slots := 0, locals := 0 } : Room).slots) := by
  refine MetFree.of_bodySF (plainFor_of_name pn_3) hisR ?_
  intro p e s m args below meth c s₁ Bd hml0 hP hK
  obtain ⟨rfl, hZ, hh⟩ := hP
  have hx := Bd.exec
  have hby := Bd.bytes
  have hml : c.maxLocals = 1 := hml0
  have hown : s.vm.findClass "java/lang/AbstractStringBuilder" = some m.cls := findClass_of_methodNamed Bd.named
  have hnm := (name_of_methodNamed Bd.named Bd.method).1
  have X0 : Stand p l e ({ frames := 0, cells := 0, slots := 0, locals := 0 } : Room) s m #[(.ref a1)] below meth c s₁ [] 0 0 := Stand.of_body Bd
  have e0 : s₁.heap = h0 := by rw [← hh, Bd.state]; rfl
  have N0 := Fr.nil n0
  have Z0 : n0 ≤ h0.size := old_le O0
  have pre0 : ∀ t, Steps p.tables e below (s₁.setTop (mkF m 0 #[.val (.ref a1)] [])) t → Steps p.tables e below (s₁.setTop (entryFrame m #[(.ref a1)] 1)) t := fun t k => castTop (ef_rm27 m a1) k
  have c101 : Sta Z h0 "java/lang/String" "COMPACT_STRINGS" "Z" (.int zc) := Sta.ext (O0).2 SZ
  obtain ⟨T102, X102, e102, st102⟩ := getS2 X0 hx hZ hown (host := "") (Or.inl (hwk hw 74 rfl)) Via.refl e0 c101 (g := (mkF m 0 #[.val (.ref a1)] [])) rfl (hb hby d27_0)
  obtain ⟨T103, X103, e103, st103⟩ := getF X102 hx hZ hown (host := "") (Or.inl (hwk hw 77 rfl)) Via.refl e102 FC (g := (mkF m 7 #[.val (.ref a1)] [(.ref a1)])) rfl rfl (hb hby d27_7)
  obtain ⟨fs, hr, hrun, hended, hW, hsame⟩ := X103.leave (v := some (.int (1 : Int32))) (fun h => by rw [Bd.returns] at h; cases h)
  refine ⟨_, _, pre0 _ ?_, hrun, hended, _, _, rfl, ?_, ⟨_, rfl⟩, hW, hsame.mono (by decide) (by decide)⟩
  · show Steps p.tables e below (s₁.setTop (mkF m 0 #[.val (.ref a1)] [])) _
    refine st102 _ ?_
    show Steps p.tables e below (T102.setTop (mkF m 3 #[.val (.ref a1)] [(.int zc)])) _
    refine XS.ifNo X102.here hx rfl (hb hby d27_3) rfl ((if0 _ _).trans (feq (PZ : ¬ (zc = (0 : Int32)))).1) ?_
    show Steps p.tables e below (T102.setTop (mkF m 6 #[.val (.ref a1)] [])) _
    refine XS.aloadN X102.here hx rfl (hb hby d27_6) rfl rfl ?_
    show Steps p.tables e below (T102.setTop (mkF m 7 #[.val (.ref a1)] [(.ref a1)])) _
    refine st103 _ ?_
    show Steps p.tables e below (T103.setTop (mkF m 10 #[.val (.ref a1)] [(.int (0 : Int32))])) _
    refine XS.ifNo X103.here hx rfl (hb hby d27_10) rfl ((if0 _ _).trans (teq (by decide : (0 : Int32) = (0 : Int32))).2) ?_
    show Steps p.tables e below (T103.setTop (mkF m 13 #[.val (.ref a1)] [])) _
    refine XS.iconst X103.here hx rfl (hb hby d27_13) ?_
    refine XS.goto X103.here hx rfl (pc0 := 14) (pc' := 18) rfl (hb hby d27_14) (by decide) (by decide) ?_
    show Steps p.tables e below (T103.setTop (mkF m 18 #[.val (.ref a1)] [(.int (1 : Int32))])) _
    exact Jvm.RoadKit.retOut X103 hx Bd.returns rfl (Or.inl ⟨rfl, by simp, _, rfl⟩) (hb hby d27_18) hr
  · show Q_rm27 Z a1 zc h0 n0 _ T103.heap _
    rw [e103]
    unfold Q_rm27
    exact ⟨rfl, N0, rfl⟩
theorem ef_rm30 (m : MethodId) (x0 : Int32) (x1 : Int32) : entryFrame m #[(.int x0), (.int x1)] 2 = mkF m 0 #[.val (.int x0), .val (.int x1)] [] := by first | (simp [entryFrame, mkF, argsToLocals, Value.category]; done) | rfl
def Q_rm30 (Z : State) (n1 : Int32) (h0 : Heap) (n0 : Nat) (v : Option Value) (h : Heap) (L : List Loc) : Prop := (v = none) ∧ (Fr n0 L) ∧ (h = h0)
theorem pn_5 : plainName "java/util/Arrays" = true := by first | (simp [plainName, overriddenIn]; done) | decide +kernel
theorem d30_0 : decode jdk_65_method_131_code 0 = .ok (.iload_n 1, 1) := by decide +kernel
theorem d30_1 : decode jdk_65_method_131_code 1 = .ok (.iload_n 0, 1) := by decide +kernel
theorem d30_2 : decode jdk_65_method_131_code 2 = .ok (.if_icmp .ge 35, 3) := by decide +kernel
theorem d30_37 : decode jdk_65_method_131_code 37 = .ok (.return_, 1) := by decide +kernel
set_option maxRecDepth 65536 in
set_option maxHeartbeats 40000000 in
theorem rm30 (l : Launch) (Z : State) (a0 : Array Value) (hw : ∀ d ∈ tables_1, d.before a0 Z = true) (ws : List Jvm.Cond) (n1 : Int32) (h0 : Heap) (n0 : Nat) (O0 : Old Z n0 h0) (c0 : ¬ n1 < (0 : Int32)) :
    MetFree l (⟨"java/util/Arrays", "checkLength", "(II)V"⟩ : MethodName) (head1 (Jvm.Cond.code (⟨"java/util/Arrays", "checkLength", "(II)V"⟩ : MethodName) jdk_65_method_131_code 2 none :: ws) ({ frames := 0, cells := 0, slots := 0, locals := 0 } : Room)) (fun a U => a = #[(.int (0 : Int32)), (.int n1)] ∧ Z.Warmed39 U.vm ∧ U.heap = h0) (fun _ _ _ _ _ => True) (fun _ U o U' => ∃ v L, o = .returned v ∧ Q_rm30 Z n1 h0 n0 v U'.heap L ∧ FrameEnd U o U' L ({ frames := 0, cells := 0, slots := 0, locals := 0 } : Room).cells ({ frames := 0, cells := 0, slots := 0, locals := 0 } : Room).slots) := by
  refine MetFree.of_bodySF (plainFor_of_name pn_5) hisR ?_
  intro p e s m args below meth c s₁ Bd hml0 hP hK
  obtain ⟨rfl, hZ, hh⟩ := hP
  have hx := Bd.exec
  have hby := Bd.bytes
  have hml : c.maxLocals = 2 := hml0
  have hown : s.vm.findClass "java/util/Arrays" = some m.cls := findClass_of_methodNamed Bd.named
  have hnm := (name_of_methodNamed Bd.named Bd.method).1
  have X0 : Stand p l e ({ frames := 0, cells := 0, slots := 0, locals := 0 } : Room) s m #[(.int (0 : Int32)), (.int n1)] below meth c s₁ [] 0 0 := Stand.of_body Bd
  have e0 : s₁.heap = h0 := by rw [← hh, Bd.state]; rfl
  have N0 := Fr.nil n0
  have Z0 : n0 ≤ h0.size := old_le O0
  have pre0 : ∀ t, Steps p.tables e below (s₁.setTop (mkF m 0 #[.val (.int (0 : Int32)), .val (.int n1)] [])) t → Steps p.tables e below (s₁.setTop (entryFrame m #[(.int (0 : Int32)), (.int n1)] 2)) t := fun t k => castTop (ef_rm30 m (0 : Int32) n1) k
  obtain ⟨fs, hr, hrun, hended, hW, hsame⟩ := X0.leave (v := none) (fun _ => rfl)
  refine ⟨_, _, pre0 _ ?_, hrun, hended, _, _, rfl, ?_, ⟨_, rfl⟩, hW, hsame.mono (by decide) (by decide)⟩
  · show Steps p.tables e below (s₁.setTop (mkF m 0 #[.val (.int (0 : Int32)), .val (.int n1)] [])) _
    refine XS.iloadN X0.here hx rfl (hb hby d30_0) rfl ?_
    refine XS.iloadN X0.here hx rfl (hb hby d30_1) rfl ?_
    refine XS.icmpYes X0.here hx rfl (pc0 := 2) (pc' := 37) rfl (hb hby d30_2) rfl (flt (c0 : ¬ (n1 < (0 : Int32)))).2.1 (by decide) (by decide) ?_
    show Steps p.tables e below (s₁.setTop (mkF m 37 #[.val (.int (0 : Int32)), .val (.int n1)] [])) _
    exact X0.returnOut hx Bd.returns (hb hby d30_37) hr
  · show Q_rm30 Z n1 h0 n0 _ s₁.heap _
    rw [e0]
    unfold Q_rm30
    exact ⟨rfl, N0, rfl⟩
theorem ef_rm31 (m : MethodId) (x0 : Int32) (x1 : Int32) : entryFrame m #[(.int x0), (.int x1)] 2 = mkF m 0 #[.val (.int x0), .val (.int x1)] [] := by first | (simp [entryFrame, mkF, argsToLocals, Value.category]; done) | rfl
def Q_rm31 (Z : State) (n1 : Int32) (h0 : Heap) (n0 : Nat) (v : Option Value) (h : Heap) (L : List Loc) : Prop := (v = some (.int n1)) ∧ (Fr n0 L) ∧ (h = h0)
theorem d31_0 : decode jdk_29_method_69_code 0 = .ok (.iload_n 0, 1) := by decide +kernel
theorem d31_1 : decode jdk_29_method_69_code 1 = .ok (.iload_n 1, 1) := by decide +kernel
theorem d31_2 : decode jdk_29_method_69_code 2 = .ok (.if_icmp .gt 7, 3) := by decide +kernel
theorem d31_9 : decode jdk_29_method_69_code 9 = .ok (.iload_n 1, 1) := by decide +kernel
theorem d31_10 : decode jdk_29_method_69_code 10 = .ok (.ireturn, 1) := by decide +kernel
set_option maxRecDepth 65536 in
set_option maxHeartbeats 40000000 in
theorem rm31 (l : Launch) (Z : State) (a0 : Array Value) (hw : ∀ d ∈ tables_1, d.before a0 Z = true) (ws : List Jvm.Cond) (n1 : Int32) (h0 : Heap) (n0 : Nat) (O0 : Old Z n0 h0) (c6 : n1 < (16 : Int32)) :
    MetFree l (⟨"java/lang/Math", "min", "(II)I"⟩ : MethodName) (head1 (Jvm.Cond.code (⟨"java/lang/Math", "min", "(II)I"⟩ : MethodName) jdk_29_method_69_code 2 (some .int) :: ws) ({ frames := 0, cells := 0, slots := 0, locals := 0 } : Room)) (fun a U => a = #[(.int (16 : Int32)), (.int n1)] ∧ Z.Warmed39 U.vm ∧ U.heap = h0) (fun _ _ _ _ _ => True) (fun _ U o U' => ∃ v L, o = .returned v ∧ Q_rm31 Z n1 h0 n0 v U'.heap L ∧ FrameEnd U o U' L ({ frames := 0, cells := 0, slots := 0, locals := 0 } : Room).cells ({ frames := 0, cells := 0, slots := 0, locals := 0 } : Room).slots) := by
  refine MetFree.of_bodySF (Jvm.Free.JP.mathPlain rfl (by decide +kernel)) hisR ?_
  intro p e s m args below meth c s₁ Bd hml0 hP hK
  obtain ⟨rfl, hZ, hh⟩ := hP
  have hx := Bd.exec
  have hby := Bd.bytes
  have hml : c.maxLocals = 2 := hml0
  have hown : s.vm.findClass "java/lang/Math" = some m.cls := findClass_of_methodNamed Bd.named
  have hnm := (name_of_methodNamed Bd.named Bd.method).1
  have X0 : Stand p l e ({ frames := 0, cells := 0, slots := 0, locals := 0 } : Room) s m #[(.int (16 : Int32)), (.int n1)] below meth c s₁ [] 0 0 := Stand.of_body Bd
  have e0 : s₁.heap = h0 := by rw [← hh, Bd.state]; rfl
  have N0 := Fr.nil n0
  have Z0 : n0 ≤ h0.size := old_le O0
  have pre0 : ∀ t, Steps p.tables e below (s₁.setTop (mkF m 0 #[.val (.int (16 : Int32)), .val (.int n1)] [])) t → Steps p.tables e below (s₁.setTop (entryFrame m #[(.int (16 : Int32)), (.int n1)] 2)) t := fun t k => castTop (ef_rm31 m (16 : Int32) n1) k
  obtain ⟨fs, hr, hrun, hended, hW, hsame⟩ := X0.leave (v := some (.int n1)) (fun h => by rw [Bd.returns] at h; cases h)
  refine ⟨_, _, pre0 _ ?_, hrun, hended, _, _, rfl, ?_, ⟨_, rfl⟩, hW, hsame.mono (by decide) (by decide)⟩
  · show Steps p.tables e below (s₁.setTop (mkF m 0 #[.val (.int (16 : Int32)), .val (.int n1)] [])) _
    refine XS.iloadN X0.here hx rfl (hb hby d31_0) rfl ?_
    refine XS.iloadN X0.here hx rfl (hb hby d31_1) rfl ?_
    refine XS.icmpYes X0.here hx rfl (pc0 := 2) (pc' := 9) rfl (hb hby d31_2) rfl (tlt (c6 : n1 < (16 : Int32))).2.2.1 (by decide) (by decide) ?_
    show Steps p.tables e below (s₁.setTop (mkF m 9 #[.val (.int (16 : Int32)), .val (.int n1)] [])) _
    refine XS.iloadN X0.here hx rfl (hb hby d31_9) rfl ?_
    show Steps p.tables e below (s₁.setTop (mkF m 10 #[.val (.int (16 : Int32)), .val (.int n1)] [(.int n1)])) _
    exact Jvm.RoadKit.retOut X0 hx Bd.returns rfl (Or.inl ⟨rfl, by simp, _, rfl⟩) (hb hby d31_10) hr
  · show Q_rm31 Z n1 h0 n0 _ s₁.heap _
    rw [e0]
    unfold Q_rm31
    exact ⟨rfl, N0, rfl⟩
theorem ef_rm29 (m : MethodId) (x0 : Addr) (x1 : Int32) (x2 : Int32) : entryFrame m #[(.ref x0), (.int x1), (.int x2)] 5 = mkF m 0 #[.val (.ref x0), .val (.int x1), .val (.int x2), .unset, .unset] [] := by first | (simp [entryFrame, mkF, argsToLocals, Value.category]; done) | rfl
def Q_rm29 (Z : State) (tb : Addr) (kt : ClassId) (n1 : Int32) (Y1 : List Value) (h0 : Heap) (n0 : Nat) (v : Option Value) (h : Heap) (L : List Loc) : Prop := ∃ o : Addr, ∃ ko : ClassId, (v = some (.ref o)) ∧ (Fr n0 L) ∧ (Keep h0 h []) ∧ (h0.size ≤ o) ∧ (Arv Z h o ko .byte n1 (List.take n1.toNatClampNeg Y1) (.int (0 : Int32)))
theorem d29_0 : decode jdk_65_method_133_code 0 = .ok (.iload_n 1, 1) := by decide +kernel
theorem d29_1 : decode jdk_65_method_133_code 1 = .ok (.iload_n 2, 1) := by decide +kernel
theorem d29_2 : decode jdk_65_method_133_code 2 = .ok (.invokestatic 343, 3) := by decide +kernel
theorem pd_13 : parseMethodDescriptor "(II)V" = some ⟨[.int, .int], none⟩ := by decide +kernel
theorem d29_5 : decode jdk_65_method_133_code 5 = .ok (.iload_n 2, 1) := by decide +kernel
theorem d29_6 : decode jdk_65_method_133_code 6 = .ok (.iload_n 1, 1) := by decide +kernel
theorem d29_7 : decode jdk_65_method_133_code 7 = .ok (.isub, 1) := by decide +kernel
theorem d29_8 : decode jdk_65_method_133_code 8 = .ok (.istore_n 3, 1) := by decide +kernel
theorem d29_9 : decode jdk_65_method_133_code 9 = .ok (.iload_n 3, 1) := by decide +kernel
theorem d29_10 : decode jdk_65_method_133_code 10 = .ok (.newarray .byte, 2) := by decide +kernel
theorem d29_12 : decode jdk_65_method_133_code 12 = .ok (.astore 4, 2) := by decide +kernel
theorem d29_14 : decode jdk_65_method_133_code 14 = .ok (.aload_n 0, 1) := by decide +kernel
theorem d29_15 : decode jdk_65_method_133_code 15 = .ok (.iload_n 1, 1) := by decide +kernel
theorem d29_16 : decode jdk_65_method_133_code 16 = .ok (.aload 4, 2) := by decide +kernel
theorem d29_18 : decode jdk_65_method_133_code 18 = .ok (.iconst 0, 1) := by decide +kernel
theorem d29_19 : decode jdk_65_method_133_code 19 = .ok (.aload_n 0, 1) := by decide +kernel
theorem d29_20 : decode jdk_65_method_133_code 20 = .ok (.arraylength, 1) := by decide +kernel
theorem d29_21 : decode jdk_65_method_133_code 21 = .ok (.iload_n 1, 1) := by decide +kernel
theorem d29_22 : decode jdk_65_method_133_code 22 = .ok (.isub, 1) := by decide +kernel
theorem d29_23 : decode jdk_65_method_133_code 23 = .ok (.iload_n 3, 1) := by decide +kernel
theorem d29_24 : decode jdk_65_method_133_code 24 = .ok (.invokestatic 304, 3) := by decide +kernel
theorem pd_14 : parseMethodDescriptor "(II)I" = some ⟨[.int, .int], some .int⟩ := by decide +kernel
theorem d29_27 : decode jdk_65_method_133_code 27 = .ok (.invokestatic 150, 3) := by decide +kernel
theorem d29_30 : decode jdk_65_method_133_code 30 = .ok (.aload 4, 2) := by decide +kernel
theorem d29_32 : decode jdk_65_method_133_code 32 = .ok (.areturn, 1) := by decide +kernel
set_option maxRecDepth 65536 in
set_option maxHeartbeats 40000000 in
theorem rm29 (l : Launch) (Z : State) (a0 : Array Value) (hw : ∀ d ∈ tables_1, d.before a0 Z = true) (ws : List Jvm.Cond) (tb : Addr) (kt : ClassId) (n1 : Int32) (Y1 : List Value) (h0 : Heap) (n0 : Nat) (O0 : Old Z n0 h0) (AB : Arv Z h0 tb kt .byte (16 : Int32) Y1 (.int (0 : Int32))) (c0 : ¬ n1 < (0 : Int32)) (c6 : n1 < (16 : Int32)) (hV : Y1.length = (16 : Nat)) :
    MetFree l (⟨"java/util/Arrays", "copyOfRangeByte", "([BII)[B"⟩ : MethodName) (head1 (Jvm.Cond.code (⟨"java/util/Arrays", "copyOfRangeByte", "([BII)[B"⟩ : MethodName) jdk_65_method_133_code 5 (some (.array .byte)) :: ws) ({ frames := 1, cells := 1, slots := 16, locals := 18 } : Room)) (fun a U => a = #[(.ref tb), (.int (0 : Int32)), (.int n1)] ∧ Z.Warmed39 U.vm ∧ U.heap = h0) (fun _ _ _ _ _ => True) (fun _ U o U' => ∃ v L, o = .returned v ∧ Q_rm29 Z tb kt n1 Y1 h0 n0 v U'.heap L ∧ FrameEnd U o U' L ({ frames := 1, cells := 1, slots := 16, locals := 18 } : Room).cells ({ frames := 1, cells := 1, slots := 16, locals := 18 } : Room).slots) := by
  refine MetFree.of_bodySF (plainFor_of_name pn_5) hisR ?_
  intro p e s m args below meth c s₁ Bd hml0 hP hK
  obtain ⟨rfl, hZ, hh⟩ := hP
  have hx := Bd.exec
  have hby := Bd.bytes
  have hml : c.maxLocals = 5 := hml0
  have hown : s.vm.findClass "java/util/Arrays" = some m.cls := findClass_of_methodNamed Bd.named
  have hnm := (name_of_methodNamed Bd.named Bd.method).1
  have X0 : Stand p l e ({ frames := 1, cells := 1, slots := 16, locals := 18 } : Room) s m #[(.ref tb), (.int (0 : Int32)), (.int n1)] below meth c s₁ [] 0 0 := Stand.of_body Bd
  have e0 : s₁.heap = h0 := by rw [← hh, Bd.state]; rfl
  have N0 := Fr.nil n0
  have Z0 : n0 ≤ h0.size := old_le O0
  have pre0 : ∀ t, Steps p.tables e below (s₁.setTop (mkF m 0 #[.val (.ref tb), .val (.int (0 : Int32)), .val (.int n1), .unset, .unset] [])) t → Steps p.tables e below (s₁.setTop (entryFrame m #[(.ref tb), (.int (0 : Int32)), (.int n1)] 5)) t := fun t k => castTop (ef_rm29 m tb (0 : Int32) n1) k
  obtain ⟨_, _, ⟨T101, L101, k101, n101⟩, -, X101, ⟨Lc101, hQ101, l101, y101, z101⟩, st101⟩ := Jvm.LawKit.callS X0 hx (y := (⟨"java/util/Arrays", "checkLength", "(II)V"⟩ : MethodName)) hown (mvT hZ (hwk hw 155 rfl)) (mvT hZ (hwk hw 156 rfl)) (mvT hZ (hwk hw 150 rfl)) (mvT hZ (hwk hw 157 rfl)) (by decide) (backOf (W := 0) (rm30 l Z a0 hw [] n1 h0 n0 O0 c0) hZ (hwk hw 157 rfl) (hwk hw 150 rfl) (by decide) (by decide)) (g := (mkF m 2 #[.val (.ref tb), .val (.int (0 : Int32)), .val (.int n1), .unset, .unset] [(.int n1), (.int (0 : Int32))])) rfl (by rw [hml]; rfl) (argsL := [(.int (0 : Int32)), (.int n1)]) (rest := []) (lenOf pd_13 rfl) rfl (by show 2 * 0 + _ ≤ _; exact Nat.le_of_eq rfl) (hb hby d29_2) (fun _ _ => ⟨rfl, e0, (by decide : 0 + 0 ≤ _), (by decide : 0 + 0 ≤ _)⟩)
  dsimp only [Pt.U, Pt.locs, Pt.cells, Pt.slots] at X101 l101 y101 z101 st101 hQ101
  subst l101 y101 z101
  unfold Q_rm30 at hQ101
  obtain ⟨rfl, N101q, e101⟩ := hQ101
  have N101 := Fr.app N0 N101q
  obtain ⟨T102, h102, k102, X102, e102, E102, A102, st102⟩ := newP X101 hx hZ (hwk hw 19 rfl) e101 (g := (mkF m 10 #[.val (.ref tb), .val (.int (0 : Int32)), .val (.int n1), .val (.int n1), .unset] [(.int n1)])) rfl (hb hby d29_10) rfl c0 (cap := 16) (own_cle c0 c6) (by decide) (by decide) (by decide)
  obtain ⟨b102, g102⟩ : ∃ z, z = h0.size := ⟨_, rfl⟩
  rw [← g102] at A102 st102
  have g_b102 : n0 ≤ b102 := Nat.le_trans (old_le O0) (Nat.le_of_eq g102.symm)
  have V102 : Arv Z h102 b102 k102 .byte n1 (List.replicate n1.toNatClampNeg (.int (0 : Int32))) (.int (0 : Int32)) := (Arv.new A102 c0).pad (pad_rep [] (.int (0 : Int32)) n1.toNatClampNeg)
  have c103 : Arv Z h102 tb kt .byte (16 : Int32) Y1 (.int (0 : Int32)) := (AB.ext E102)
  obtain ⟨cl104, Ar104, -, Sz104, Nn104, -, -⟩ := id c103
  have O105 : Old Z n0 h102 := Old.ext O0 E102
  obtain ⟨_, _, ⟨T106, L106, k106, n106⟩, -, X106, ⟨Lc106, hQ106, l106, y106, z106⟩, st106⟩ := Jvm.LawKit.callS X102 hx (y := (⟨"java/lang/Math", "min", "(II)I"⟩ : MethodName)) hown (mvT hZ (hwk hw 158 rfl)) (mvT hZ (hwk hw 159 rfl)) (mvT hZ (hwk hw 160 rfl)) (mvT hZ (hwk hw 161 rfl)) (by decide) (backOf (W := 4) (rm31 l Z a0 hw [] n1 h102 n0 O105 c6) hZ (hwk hw 161 rfl) (hwk hw 160 rfl) (by decide) (by decide)) (g := (mkF m 24 #[.val (.ref tb), .val (.int (0 : Int32)), .val (.int n1), .val (.int n1), .val (.ref b102)] [(.int n1), (.int (16 : Int32)), (.int (0 : Int32)), (.ref b102), (.int (0 : Int32)), (.ref tb)])) rfl (by rw [hml]; rfl) (argsL := [(.int (16 : Int32)), (.int n1)]) (rest := [(.int (0 : Int32)), (.ref b102), (.int (0 : Int32)), (.ref tb)]) (lenOf pd_14 rfl) rfl (by show 2 * 0 + _ ≤ _; exact Nat.le_of_eq rfl) (hb hby d29_24) (fun _ _ => ⟨rfl, e102, (by decide : 1 + 0 ≤ _), (by decide : 16 + 0 ≤ _)⟩)
  dsimp only [Pt.U, Pt.locs, Pt.cells, Pt.slots] at X106 l106 y106 z106 st106 hQ106
  subst l106 y106 z106
  unfold Q_rm31 at hQ106
  obtain ⟨rfl, N106q, e106⟩ := hQ106
  have N106 := Fr.app N101 N106q
  obtain ⟨T107, h107, L107, X107, e107, N107, K107, V107, st107⟩ := cpA X106 hx hZ hown (hwk hw 162 rfl) (hwk hw 116 rfl) (hwk hw 114 rfl) (hwk hw 115 rfl) e106 c103 V102 (Or.inl ⟨rfl, rfl⟩) (by decide) (by decide) c0 (by rw [show (0 : Int32).toNatClampNeg = 0 from by decide, Nat.zero_add]; exact own_cle c0 c6) (by rw [show (0 : Int32).toNatClampNeg = 0 from by decide, Nat.zero_add]; exact Nat.le_refl _) (us := (List.take n1.toNatClampNeg Y1)) (own_take (by rw [hV]; exact own_cle c0 c6)) (by rw [show (0 : Int32).toNatClampNeg = 0 from by decide, Nat.zero_add, List.length_replicate]; exact Nat.le_refl _) N106 g_b102 (g := (mkF m 27 #[.val (.ref tb), .val (.int (0 : Int32)), .val (.int n1), .val (.int n1), .val (.ref b102)] [(.int n1), (.int (0 : Int32)), (.ref b102), (.int (0 : Int32)), (.ref tb)])) rfl (by rw [hml]; rfl) rfl (hb hby d29_27) (by decide) (W := 0) (by show 2 * 0 + _ ≤ _; exact Nat.le_of_eq rfl) (by decide)
  have W107 : Arv Z h107 b102 k102 .byte n1 (List.take n1.toNatClampNeg Y1) (.int (0 : Int32)) := own_arv V107 (own_cat (by rw [List.length_replicate]))
  have K108 : Keep h0 h102 [] := Keep.ext (Keep.refl h0 []) E102
  have K109 : Keep h0 h107 [] := Keep.trans K108 K107 (allS (Or.inr (Nat.le_trans (Nat.le_refl _) (Nat.le_of_eq g102.symm))) all0)
  obtain ⟨fs, hr, hrun, hended, hW, hsame⟩ := X107.leave (v := some (.ref b102)) (fun h => by rw [Bd.returns] at h; cases h)
  refine ⟨_, _, pre0 _ ?_, hrun, hended, _, _, rfl, ?_, ⟨_, rfl⟩, hW, hsame.mono (by decide) (by decide)⟩
  · show Steps p.tables e below (s₁.setTop (mkF m 0 #[.val (.ref tb), .val (.int (0 : Int32)), .val (.int n1), .unset, .unset] [])) _
    refine XS.iloadN X0.here hx rfl (hb hby d29_0) rfl ?_
    refine XS.iloadN X0.here hx rfl (hb hby d29_1) rfl ?_
    show Steps p.tables e below (s₁.setTop (mkF m 2 #[.val (.ref tb), .val (.int (0 : Int32)), .val (.int n1), .unset, .unset] [(.int n1), (.int (0 : Int32))])) _
    refine st101 _ ?_
    show Steps p.tables e below (T101.setTop (mkF m 5 #[.val (.ref tb), .val (.int (0 : Int32)), .val (.int n1), .unset, .unset] [])) _
    refine XS.iloadN X101.here hx rfl (hb hby d29_5) rfl ?_
    refine XS.iloadN X101.here hx rfl (hb hby d29_6) rfl ?_
    refine XS.isub X101.here hx rfl (hb hby d29_7) rfl ?_
    show Steps p.tables e below (T101.setTop (mkF m 8 #[.val (.ref tb), .val (.int (0 : Int32)), .val (.int n1), .unset, .unset] [(.int (n1 - (0 : Int32)))])) _
    rw [own_sub0 n1]
    show Steps p.tables e below (T101.setTop (mkF m 8 #[.val (.ref tb), .val (.int (0 : Int32)), .val (.int n1), .unset, .unset] [(.int n1)])) _
    refine XS.istoreN X101.here hx rfl (hb hby d29_8) rfl (l' := #[.val (.ref tb), .val (.int (0 : Int32)), .val (.int n1), .val (.int n1), .unset]) rfl ?_
    show Steps p.tables e below (T101.setTop (mkF m 9 #[.val (.ref tb), .val (.int (0 : Int32)), .val (.int n1), .val (.int n1), .unset] [])) _
    refine XS.iloadN X101.here hx rfl (hb hby d29_9) rfl ?_
    show Steps p.tables e below (T101.setTop (mkF m 10 #[.val (.ref tb), .val (.int (0 : Int32)), .val (.int n1), .val (.int n1), .unset] [(.int n1)])) _
    refine st102 _ ?_
    show Steps p.tables e below (T102.setTop (mkF m 12 #[.val (.ref tb), .val (.int (0 : Int32)), .val (.int n1), .val (.int n1), .unset] [(.ref b102)])) _
    refine XS.astore X102.here hx rfl (hb hby d29_12) rfl rfl (l' := #[.val (.ref tb), .val (.int (0 : Int32)), .val (.int n1), .val (.int n1), .val (.ref b102)]) rfl ?_
    show Steps p.tables e below (T102.setTop (mkF m 14 #[.val (.ref tb), .val (.int (0 : Int32)), .val (.int n1), .val (.int n1), .val (.ref b102)] [])) _
    refine XS.aloadN X102.here hx rfl (hb hby d29_14) rfl rfl ?_
    refine XS.iloadN X102.here hx rfl (hb hby d29_15) rfl ?_
    refine XS.aload X102.here hx rfl (hb hby d29_16) rfl rfl ?_
    refine XS.iconst X102.here hx rfl (hb hby d29_18) ?_
    show Steps p.tables e below (T102.setTop (mkF m 19 #[.val (.ref tb), .val (.int (0 : Int32)), .val (.int n1), .val (.int n1), .val (.ref b102)] [(.int (0 : Int32)), (.ref b102), (.int (0 : Int32)), (.ref tb)])) _
    refine XS.aloadN X102.here hx rfl (hb hby d29_19) rfl rfl ?_
    show Steps p.tables e below (T102.setTop (mkF m 20 #[.val (.ref tb), .val (.int (0 : Int32)), .val (.int n1), .val (.int n1), .val (.ref b102)] [(.ref tb), (.int (0 : Int32)), (.ref b102), (.int (0 : Int32)), (.ref tb)])) _
    refine X102.arraylength hx (by rw [e102]; exact Ar104.1) (State.isArrayOf_alike hZ.alike Ar104.2.1) (g := (mkF m 20 #[.val (.ref tb), .val (.int (0 : Int32)), .val (.int n1), .val (.int n1), .val (.ref b102)] [(.ref tb), (.int (0 : Int32)), (.ref b102), (.int (0 : Int32)), (.ref tb)])) rfl rfl (hb hby d29_20) _ ?_
    rw [len_of Sz104 Nn104]
    show Steps p.tables e below (T102.setTop (mkF m 21 #[.val (.ref tb), .val (.int (0 : Int32)), .val (.int n1), .val (.int n1), .val (.ref b102)] [(.int (16 : Int32)), (.int (0 : Int32)), (.ref b102), (.int (0 : Int32)), (.ref tb)])) _
    refine XS.iloadN X102.here hx rfl (hb hby d29_21) rfl ?_
    refine XS.isub X102.here hx rfl (hb hby d29_22) rfl ?_
    show Steps p.tables e below (T102.setTop (mkF m 23 #[.val (.ref tb), .val (.int (0 : Int32)), .val (.int n1), .val (.int n1), .val (.ref b102)] [(.int ((16 : Int32) - (0 : Int32))), (.int (0 : Int32)), (.ref b102), (.int (0 : Int32)), (.ref tb)])) _
    rw [show ((16 : Int32) - (0 : Int32)) = (16 : Int32) from by decide]
    show Steps p.tables e below (T102.setTop (mkF m 23 #[.val (.ref tb), .val (.int (0 : Int32)), .val (.int n1), .val (.int n1), .val (.ref b102)] [(.int (16 : Int32)), (.int (0 : Int32)), (.ref b102), (.int (0 : Int32)), (.ref tb)])) _
    refine XS.iloadN X102.here hx rfl (hb hby d29_23) rfl ?_
    show Steps p.tables e below (T102.setTop (mkF m 24 #[.val (.ref tb), .val (.int (0 : Int32)), .val (.int n1), .val (.int n1), .val (.ref b102)] [(.int n1), (.int (16 : Int32)), (.int (0 : Int32)), (.ref b102), (.int (0 : Int32)), (.ref tb)])) _
    refine st106 _ ?_
    show Steps p.tables e below (T106.setTop (mkF m 27 #[.val (.ref tb), .val (.int (0 : Int32)), .val (.int n1), .val (.int n1), .val (.ref b102)] [(.int n1), (.int (0 : Int32)), (.ref b102), (.int (0 : Int32)), (.ref tb)])) _
    refine st107 _ ?_
    show Steps p.tables e below (T107.setTop (mkF m 30 #[.val (.ref tb), .val (.int (0 : Int32)), .val (.int n1), .val (.int n1), .val (.ref b102)] [])) _
    refine XS.aload X107.here hx rfl (hb hby d29_30) rfl rfl ?_
    show Steps p.tables e below (T107.setTop (mkF m 32 #[.val (.ref tb), .val (.int (0 : Int32)), .val (.int n1), .val (.int n1), .val (.ref b102)] [(.ref b102)])) _
    exact Jvm.RoadKit.retOut X107 hx Bd.returns rfl (Or.inr (Or.inr (Or.inr (Or.inr ⟨rfl, rfl, rfl⟩)))) (hb hby d29_32) hr
  · show Q_rm29 Z tb kt n1 Y1 h0 n0 _ T107.heap _
    rw [e107]
    unfold Q_rm29
    exact ⟨b102, k102, rfl, N107, K109, (Nat.le_trans (Nat.le_refl _) (Nat.le_of_eq g102.symm)), W107⟩
theorem ef_rm28 (m : MethodId) (x0 : Addr) (x1 : Int32) (x2 : Int32) : entryFrame m #[(.ref x0), (.int x1), (.int x2)] 3 = mkF m 0 #[.val (.ref x0), .val (.int x1), .val (.int x2)] [] := by first | (simp [entryFrame, mkF, argsToLocals, Value.category]; done) | rfl
def Q_rm28 (Z : State) (tb : Addr) (kt : ClassId) (n1 : Int32) (Y1 : List Value) (h0 : Heap) (n0 : Nat) (v : Option Value) (h : Heap) (L : List Loc) : Prop := ∃ o : Addr, ∃ ko : ClassId, (v = some (.ref o)) ∧ (Fr n0 L) ∧ (Keep h0 h []) ∧ (h0.size ≤ o) ∧ (Arv Z h o ko .byte n1 (List.take n1.toNatClampNeg Y1) (.int (0 : Int32)))
theorem d28_0 : decode jdk_65_method_132_code 0 = .ok (.iload_n 1, 1) := by decide +kernel
theorem d28_1 : decode jdk_65_method_132_code 1 = .ok (.ifCond .ne 9, 3) := by decide +kernel
theorem d28_4 : decode jdk_65_method_132_code 4 = .ok (.iload_n 2, 1) := by decide +kernel
theorem d28_5 : decode jdk_65_method_132_code 5 = .ok (.aload_n 0, 1) := by decide +kernel
theorem d28_6 : decode jdk_65_method_132_code 6 = .ok (.arraylength, 1) := by decide +kernel
theorem d28_7 : decode jdk_65_method_132_code 7 = .ok (.if_icmp .eq 10, 3) := by decide +kernel
theorem d28_10 : decode jdk_65_method_132_code 10 = .ok (.aload_n 0, 1) := by decide +kernel
theorem d28_11 : decode jdk_65_method_132_code 11 = .ok (.iload_n 1, 1) := by decide +kernel
theorem d28_12 : decode jdk_65_method_132_code 12 = .ok (.iload_n 2, 1) := by decide +kernel
theorem d28_13 : decode jdk_65_method_132_code 13 = .ok (.invokestatic 339, 3) := by decide +kernel
theorem pd_15 : parseMethodDescriptor "([BII)[B" = some ⟨[(.array .byte), .int, .int], some (.array .byte)⟩ := by decide +kernel
theorem d28_16 : decode jdk_65_method_132_code 16 = .ok (.areturn, 1) := by decide +kernel
set_option maxRecDepth 65536 in
set_option maxHeartbeats 40000000 in
theorem rm28 (l : Launch) (Z : State) (a0 : Array Value) (hw : ∀ d ∈ tables_1, d.before a0 Z = true) (ws : List Jvm.Cond) (tb : Addr) (kt : ClassId) (n1 : Int32) (Y1 : List Value) (h0 : Heap) (n0 : Nat) (O0 : Old Z n0 h0) (AB : Arv Z h0 tb kt .byte (16 : Int32) Y1 (.int (0 : Int32))) (c0 : ¬ n1 < (0 : Int32)) (c6 : n1 < (16 : Int32)) (hV : Y1.length = (16 : Nat)) :
    MetFree l (⟨"java/util/Arrays", "copyOfRange", "([BII)[B"⟩ : MethodName) (head1 (Jvm.Cond.code (⟨"java/util/Arrays", "copyOfRange", "([BII)[B"⟩ : MethodName) jdk_65_method_132_code 3 (some (.array .byte)) :: ws) ({ frames := 2, cells := 1, slots := 16, locals := 34 } : Room)) (fun a U => a = #[(.ref tb), (.int (0 : Int32)), (.int n1)] ∧ Z.Warmed39 U.vm ∧ U.heap = h0) (fun _ _ _ _ _ => True) (fun _ U o U' => ∃ v L, o = .returned v ∧ Q_rm28 Z tb kt n1 Y1 h0 n0 v U'.heap L ∧ FrameEnd U o U' L ({ frames := 2, cells := 1, slots := 16, locals := 34 } : Room).cells ({ frames := 2, cells := 1, slots := 16, locals := 34 } : Room).slots) := by
  refine MetFree.of_bodySF (plainFor_of_name pn_5) hisR ?_
  intro p e s m args below meth c s₁ Bd hml0 hP hK
  obtain ⟨rfl, hZ, hh⟩ := hP
  have hx := Bd.exec
  have hby := Bd.bytes
  have hml : c.maxLocals = 3 := hml0
  have hown : s.vm.findClass "java/util/Arrays" = some m.cls := findClass_of_methodNamed Bd.named
  have hnm := (name_of_methodNamed Bd.named Bd.method).1
  have X0 : Stand p l e ({ frames := 2, cells := 1, slots := 16, locals := 34 } : Room) s m #[(.ref tb), (.int (0 : Int32)), (.int n1)] below meth c s₁ [] 0 0 := Stand.of_body Bd
  have e0 : s₁.heap = h0 := by rw [← hh, Bd.state]; rfl
  have N0 := Fr.nil n0
  have Z0 : n0 ≤ h0.size := old_le O0
  have pre0 : ∀ t, Steps p.tables e below (s₁.setTop (mkF m 0 #[.val (.ref tb), .val (.int (0 : Int32)), .val (.int n1)] [])) t → Steps p.tables e below (s₁.setTop (entryFrame m #[(.ref tb), (.int (0 : Int32)), (.int n1)] 3)) t := fun t k => castTop (ef_rm28 m tb (0 : Int32) n1) k
  obtain ⟨cl101, Ar101, -, Sz101, Nn101, -, -⟩ := id AB
  obtain ⟨_, _, ⟨T102, L102, k102, n102⟩, -, X102, ⟨Lc102, hQ102, l102, y102, z102⟩, st102⟩ := Jvm.LawKit.callS X0 hx (y := (⟨"java/util/Arrays", "copyOfRangeByte", "([BII)[B"⟩ : MethodName)) hown (mvT hZ (hwk hw 152 rfl)) (mvT hZ (hwk hw 153 rfl)) (mvT hZ (hwk hw 150 rfl)) (mvT hZ (hwk hw 154 rfl)) (by decide) (backOf (W := 0) (rm29 l Z a0 hw [] tb kt n1 Y1 h0 n0 O0 AB c0 c6 hV) hZ (hwk hw 154 rfl) (hwk hw 150 rfl) (by decide) (by decide)) (g := (mkF m 13 #[.val (.ref tb), .val (.int (0 : Int32)), .val (.int n1)] [(.int n1), (.int (0 : Int32)), (.ref tb)])) rfl (by rw [hml]; rfl) (argsL := [(.ref tb), (.int (0 : Int32)), (.int n1)]) (rest := []) (lenOf pd_15 rfl) rfl (by show 2 * 0 + _ ≤ _; exact Nat.le_of_eq rfl) (hb hby d28_13) (fun _ _ => ⟨rfl, e0, (by decide : 0 + 1 ≤ _), (by decide : 0 + 16 ≤ _)⟩)
  dsimp only [Pt.U, Pt.locs, Pt.cells, Pt.slots] at X102 l102 y102 z102 st102 hQ102
  subst l102 y102 z102
  unfold Q_rm29 at hQ102
  obtain ⟨o_102, ko_102, rfl, N102q, K102, ge_o_102, f102_0⟩ := hQ102
  have N102 := Fr.app N0 N102q
  have g_o_102 : n0 ≤ o_102 := Nat.le_trans (old_le O0) ge_o_102
  have K103 : Keep h0 T102.heap [] := Keep.trans (Keep.refl h0 []) K102 all0
  obtain ⟨fs, hr, hrun, hended, hW, hsame⟩ := X102.leave (v := some (.ref o_102)) (fun h => by rw [Bd.returns] at h; cases h)
  refine ⟨_, _, pre0 _ ?_, hrun, hended, _, _, rfl, ?_, ⟨_, rfl⟩, hW, hsame.mono (by decide) (by decide)⟩
  · show Steps p.tables e below (s₁.setTop (mkF m 0 #[.val (.ref tb), .val (.int (0 : Int32)), .val (.int n1)] [])) _
    refine XS.iloadN X0.here hx rfl (hb hby d28_0) rfl ?_
    refine XS.ifNo X0.here hx rfl (hb hby d28_1) rfl ((if0 _ _).trans (teq (by decide : (0 : Int32) = (0 : Int32))).2) ?_
    show Steps p.tables e below (s₁.setTop (mkF m 4 #[.val (.ref tb), .val (.int (0 : Int32)), .val (.int n1)] [])) _
    refine XS.iloadN X0.here hx rfl (hb hby d28_4) rfl ?_
    refine XS.aloadN X0.here hx rfl (hb hby d28_5) rfl rfl ?_
    show Steps p.tables e below (s₁.setTop (mkF m 6 #[.val (.ref tb), .val (.int (0 : Int32)), .val (.int n1)] [(.ref tb), (.int n1)])) _
    refine X0.arraylength hx (by rw [e0]; exact Ar101.1) (State.isArrayOf_alike hZ.alike Ar101.2.1) (g := (mkF m 6 #[.val (.ref tb), .val (.int (0 : Int32)), .val (.int n1)] [(.ref tb), (.int n1)])) rfl rfl (hb hby d28_6) _ ?_
    rw [len_of Sz101 Nn101]
    show Steps p.tables e below (s₁.setTop (mkF m 7 #[.val (.ref tb), .val (.int (0 : Int32)), .val (.int n1)] [(.int (16 : Int32)), (.int n1)])) _
    refine XS.icmpNo X0.here hx rfl (hb hby d28_7) rfl (feq ((fun q => absurd c6 (by rw [q]; decide)) : ¬ (n1 = (16 : Int32)))).1 ?_
    show Steps p.tables e below (s₁.setTop (mkF m 10 #[.val (.ref tb), .val (.int (0 : Int32)), .val (.int n1)] [])) _
    refine XS.aloadN X0.here hx rfl (hb hby d28_10) rfl rfl ?_
    refine XS.iloadN X0.here hx rfl (hb hby d28_11) rfl ?_
    refine XS.iloadN X0.here hx rfl (hb hby d28_12) rfl ?_
    show Steps p.tables e below (s₁.setTop (mkF m 13 #[.val (.ref tb), .val (.int (0 : Int32)), .val (.int n1)] [(.int n1), (.int (0 : Int32)), (.ref tb)])) _
    refine st102 _ ?_
    show Steps p.tables e below (T102.setTop (mkF m 16 #[.val (.ref tb), .val (.int (0 : Int32)), .val (.int n1)] [(.ref o_102)])) _
    exact Jvm.RoadKit.retOut X102 hx Bd.returns rfl (Or.inr (Or.inr (Or.inr (Or.inr ⟨rfl, rfl, rfl⟩)))) (hb hby d28_16) hr
  · show Q_rm28 Z tb kt n1 Y1 h0 n0 _ T102.heap _
    unfold Q_rm28
    exact ⟨o_102, ko_102, rfl, N102, K103, (Nat.le_trans (Nat.le_refl _) ge_o_102), f102_0⟩
theorem ef_rm23 (m : MethodId) (x0 : Addr) (x1 : Addr) : entryFrame m #[(.ref x0), (.ref x1), .null] 5 = mkF m 0 #[.val (.ref x0), .val (.ref x1), .val .null, .unset, .unset] [] := by first | (simp [entryFrame, mkF, argsToLocals, Value.category]; done) | rfl
def Q_rm23 (Z : State) (s1 : Addr) (a1 : Addr) (tb : Addr) (kt : ClassId) (n1 : Int32) (Y1 : List Value) (zc : Int32) (h0 : Heap) (n0 : Nat) (v : Option Value) (h : Heap) (L : List Loc) : Prop := ∃ o : Addr, ∃ ko : ClassId, (v = none) ∧ (Fr n0 L) ∧ (Keep h0 h [s1]) ∧ (Exa Z h s1 "java/lang/String") ∧ (Fld Z h s1 "java/lang/String" "value" "[B" (.ref o)) ∧ (Fld Z h s1 "java/lang/String" "coder" "B" (.int (0 : Int32))) ∧ (Arv Z h o ko .byte n1 (List.take n1.toNatClampNeg Y1) (.int (0 : Int32)))
theorem d23_0 : decode jdk_42_method_150_code 0 = .ok (.aload_n 0, 1) := by decide +kernel
theorem d23_1 : decode jdk_42_method_150_code 1 = .ok (.invokespecial 1, 3) := by decide +kernel
theorem d23_4 : decode jdk_42_method_150_code 4 = .ok (.aload_n 1, 1) := by decide +kernel
theorem d23_5 : decode jdk_42_method_150_code 5 = .ok (.invokevirtual 552, 3) := by decide +kernel
theorem pd_16 : parseMethodDescriptor "()[B" = some ⟨[], some (.array .byte)⟩ := by decide +kernel
theorem d23_8 : decode jdk_42_method_150_code 8 = .ok (.astore_n 3, 1) := by decide +kernel
theorem d23_9 : decode jdk_42_method_150_code 9 = .ok (.aload_n 1, 1) := by decide +kernel
theorem d23_10 : decode jdk_42_method_150_code 10 = .ok (.invokevirtual 549, 3) := by decide +kernel
theorem d23_13 : decode jdk_42_method_150_code 13 = .ok (.istore 4, 2) := by decide +kernel
theorem d23_15 : decode jdk_42_method_150_code 15 = .ok (.aload_n 1, 1) := by decide +kernel
theorem d23_16 : decode jdk_42_method_150_code 16 = .ok (.invokevirtual 1047, 3) := by decide +kernel
theorem pd_17 : parseMethodDescriptor "()Z" = some ⟨[], some .boolean⟩ := by decide +kernel
theorem d23_19 : decode jdk_42_method_150_code 19 = .ok (.ifCond .eq 22, 3) := by decide +kernel
theorem d23_22 : decode jdk_42_method_150_code 22 = .ok (.aload_n 0, 1) := by decide +kernel
theorem d23_23 : decode jdk_42_method_150_code 23 = .ok (.iconst 0, 1) := by decide +kernel
theorem d23_24 : decode jdk_42_method_150_code 24 = .ok (.putfield 15, 3) := by decide +kernel
theorem d23_27 : decode jdk_42_method_150_code 27 = .ok (.aload_n 0, 1) := by decide +kernel
theorem d23_28 : decode jdk_42_method_150_code 28 = .ok (.aload_n 3, 1) := by decide +kernel
theorem d23_29 : decode jdk_42_method_150_code 29 = .ok (.iconst 0, 1) := by decide +kernel
theorem d23_30 : decode jdk_42_method_150_code 30 = .ok (.iload 4, 2) := by decide +kernel
theorem d23_32 : decode jdk_42_method_150_code 32 = .ok (.invokestatic 54, 3) := by decide +kernel
theorem d23_35 : decode jdk_42_method_150_code 35 = .ok (.putfield 9, 3) := by decide +kernel
theorem d23_38 : decode jdk_42_method_150_code 38 = .ok (.goto 59, 3) := by decide +kernel
theorem d23_97 : decode jdk_42_method_150_code 97 = .ok (.return_, 1) := by decide +kernel
set_option maxRecDepth 65536 in
set_option maxHeartbeats 40000000 in
theorem rm23 (l : Launch) (Z : State) (a0 : Array Value) (hw : ∀ d ∈ tables_1, d.before a0 Z = true) (ws : List Jvm.Cond) (s1 : Addr) (a1 : Addr) (tb : Addr) (kt : ClassId) (n1 : Int32) (Y1 : List Value) (zc : Int32) (h0 : Heap) (n0 : Nat) (O0 : Old Z n0 h0) (E1 : Exa Z h0 s1 "java/lang/String") (g1 : n0 ≤ s1) (D1 : Fld Z h0 s1 "java/lang/String" "value" "[B" .null) (D2 : Fld Z h0 s1 "java/lang/String" "coder" "B" (.int (0 : Int32))) (ES : Exa Z h0 a1 "java/lang/StringBuilder") (na : a1 ≠ s1) (nb : tb ≠ s1) (FV : Fld Z h0 a1 "java/lang/AbstractStringBuilder" "value" "[B" (.ref tb)) (FC : Fld Z h0 a1 "java/lang/AbstractStringBuilder" "coder" "B" (.int (0 : Int32))) (FN : Fld Z h0 a1 "java/lang/AbstractStringBuilder" "count" "I" (.int n1)) (AB : Arv Z h0 tb kt .byte (16 : Int32) Y1 (.int (0 : Int32))) (c0 : ¬ n1 < (0 : Int32)) (c6 : n1 < (16 : Int32)) (hV : Y1.length = (16 : Nat)) (SZ : Sta Z Z.heap "java/lang/String" "COMPACT_STRINGS" "Z" (.int zc)) (PZ : ¬ (zc = (0 : Int32))) :
    MetFree l (⟨"java/lang/String", "<init>", "(Ljava/lang/AbstractStringBuilder;Ljava/lang/Void;)V"⟩ : MethodName) (head1 (Jvm.Cond.code (⟨"java/lang/String", "<init>", "(Ljava/lang/AbstractStringBuilder;Ljava/lang/Void;)V"⟩ : MethodName) jdk_42_method_150_code 5 none :: ws) ({ frames := 3, cells := 1, slots := 16, locals := 49 } : Room)) (fun a U => a = #[(.ref s1), (.ref a1), .null] ∧ Z.Warmed39 U.vm ∧ U.heap = h0) (fun _ _ _ _ _ => True) (fun _ U o U' => ∃ v L, o = .returned v ∧ Q_rm23 Z s1 a1 tb kt n1 Y1 zc h0 n0 v U'.heap L ∧ FrameEnd U o U' L ({ frames := 3, cells := 1, slots := 16, locals := 49 } : Room).cells ({ frames := 3, cells := 1, slots := 16, locals := 49 } : Room).slots) := by
  refine MetFree.of_bodySF (plainFor_of_name pn_0) hisR ?_
  intro p e s m args below meth c s₁ Bd hml0 hP hK
  obtain ⟨rfl, hZ, hh⟩ := hP
  have hx := Bd.exec
  have hby := Bd.bytes
  have hml : c.maxLocals = 5 := hml0
  have hown : s.vm.findClass "java/lang/String" = some m.cls := findClass_of_methodNamed Bd.named
  have hnm := (name_of_methodNamed Bd.named Bd.method).1
  have X0 : Stand p l e ({ frames := 3, cells := 1, slots := 16, locals := 49 } : Room) s m #[(.ref s1), (.ref a1), .null] below meth c s₁ [] 0 0 := Stand.of_body Bd
  have e0 : s₁.heap = h0 := by rw [← hh, Bd.state]; rfl
  have N0 := Fr.nil n0
  have Z0 : n0 ≤ h0.size := old_le O0
  have pre0 : ∀ t, Steps p.tables e below (s₁.setTop (mkF m 0 #[.val (.ref s1), .val (.ref a1), .val .null, .unset, .unset] [])) t → Steps p.tables e below (s₁.setTop (entryFrame m #[(.ref s1), (.ref a1), .null] 5)) t := fun t k => castTop (ef_rm23 m s1 a1) k
  obtain ⟨T101, X101, e101, st101⟩ := initO X0 hx hZ hown (hwk hw 15 rfl) (hwk hw 16 rfl) (hwk hw 17 rfl) e0 (g := (mkF m 1 #[.val (.ref s1), .val (.ref a1), .val .null, .unset, .unset] [(.ref s1)])) rfl (by rw [hml]; rfl) rfl (hb hby d23_1) (by decide) (W := 0) (by show 2 * 0 + _ ≤ _; exact Nat.le_of_eq rfl) (by decide)
  obtain ⟨cq102, kq102, q102a, q102b, q102c⟩ := isOf hZ e101 ES
  obtain ⟨_, _, ⟨T102, L102, k102, n102⟩, -, X102, ⟨Lc102, hQ102, l102, y102, z102⟩, st102⟩ := X101.virtualBack hx (y := (⟨"java/lang/AbstractStringBuilder", "getValue", "()[B"⟩ : MethodName)) (z := (⟨"java/lang/AbstractStringBuilder", "getValue", "()[B"⟩ : MethodName)) hown (mvT hZ (hwk hw 130 rfl)) (mvT hZ (hwk hw 131 rfl)) (notFace_of_selects (args := #[]) (mvT hZ (hwk hw 133 rfl))) (mvT hZ (hwk hw 133 rfl)) (mvT hZ (hwk hw 132 rfl)) (by decide) (backOf (W := 0) (rm24 l Z a0 hw [] a1 tb h0 n0 O0 FV) hZ (hwk hw 134 rfl) (hwk hw 71 rfl) (by decide) (by decide)) q102a q102c (g := (mkF m 5 #[.val (.ref s1), .val (.ref a1), .val .null, .unset, .unset] [(.ref a1)])) rfl (by rw [hml]; rfl) (Steps.refl _) (argsL := []) (rest := []) (lenOf pd_16 rfl) rfl (by show 2 * 0 + _ ≤ _; exact Nat.le_of_eq rfl) (hb hby d23_5) (fun _ _ => ⟨rfl, e101, (by decide : 0 + 0 ≤ _), (by decide : 0 + 0 ≤ _)⟩)
  dsimp only [Pt.U, Pt.locs, Pt.cells, Pt.slots] at X102 l102 y102 z102 st102 hQ102
  subst l102 y102 z102
  unfold Q_rm24 at hQ102
  obtain ⟨rfl, N102q, e102⟩ := hQ102
  have N102 := Fr.app N0 N102q
  obtain ⟨cq103, kq103, q103a, q103b, q103c⟩ := isOf hZ e102 ES
  obtain ⟨_, _, ⟨T103, L103, k103, n103⟩, -, X103, ⟨Lc103, hQ103, l103, y103, z103⟩, st103⟩ := X102.virtualBack hx (y := (⟨"java/lang/AbstractStringBuilder", "length", "()I"⟩ : MethodName)) (z := (⟨"java/lang/StringBuilder", "length", "()I"⟩ : MethodName)) hown (mvT hZ (hwk hw 135 rfl)) (mvT hZ (hwk hw 136 rfl)) (own_nf (args := #[]) (z := (⟨"java/lang/AbstractStringBuilder", "ensureCapacityInternal", "(I)V"⟩ : MethodName)) (mvT hZ (hwk hw 95 rfl)) rfl) (mvT hZ (hwk hw 138 rfl)) (mvT hZ (hwk hw 139 rfl)) (by decide) (backOf (W := 0) (rm25 l Z a0 hw [] a1 n1 h0 n0 O0 ES FN) hZ (hwk hw 140 rfl) (hwk hw 63 rfl) (by decide) (by decide)) q103a q103c (g := (mkF m 10 #[.val (.ref s1), .val (.ref a1), .val .null, .val (.ref tb), .unset] [(.ref a1)])) rfl (by rw [hml]; rfl) (Steps.refl _) (argsL := []) (rest := []) (lenOf pd_10 rfl) rfl (by show 2 * 0 + _ ≤ _; exact Nat.le_of_eq rfl) (hb hby d23_10) (fun _ _ => ⟨rfl, e102, (by decide : 0 + 0 ≤ _), (by decide : 0 + 0 ≤ _)⟩)
  dsimp only [Pt.U, Pt.locs, Pt.cells, Pt.slots] at X103 l103 y103 z103 st103 hQ103
  subst l103 y103 z103
  unfold Q_rm25 at hQ103
  obtain ⟨rfl, N103q, e103⟩ := hQ103
  have N103 := Fr.app N102 N103q
  obtain ⟨cq104, kq104, q104a, q104b, q104c⟩ := isOf hZ e103 ES
  obtain ⟨_, _, ⟨T104, L104, k104, n104⟩, -, X104, ⟨Lc104, hQ104, l104, y104, z104⟩, st104⟩ := X103.virtualBack hx (y := (⟨"java/lang/AbstractStringBuilder", "isLatin1", "()Z"⟩ : MethodName)) (z := (⟨"java/lang/AbstractStringBuilder", "isLatin1", "()Z"⟩ : MethodName)) hown (mvT hZ (hwk hw 143 rfl)) (mvT hZ (hwk hw 144 rfl)) (notFace_of_selects (args := #[]) (mvT hZ (hwk hw 146 rfl))) (mvT hZ (hwk hw 146 rfl)) (mvT hZ (hwk hw 145 rfl)) (by decide) (backOf (W := 0) (rm27 l Z a0 hw [] a1 zc h0 n0 O0 FC SZ PZ) hZ (hwk hw 147 rfl) (hwk hw 71 rfl) (by decide) (by decide)) q104a q104c (g := (mkF m 16 #[.val (.ref s1), .val (.ref a1), .val .null, .val (.ref tb), .val (.int n1)] [(.ref a1)])) rfl (by rw [hml]; rfl) (Steps.refl _) (argsL := []) (rest := []) (lenOf pd_17 rfl) rfl (by show 2 * 0 + _ ≤ _; exact Nat.le_of_eq rfl) (hb hby d23_16) (fun _ _ => ⟨rfl, e103, (by decide : 0 + 0 ≤ _), (by decide : 0 + 0 ≤ _)⟩)
  dsimp only [Pt.U, Pt.locs, Pt.cells, Pt.slots] at X104 l104 y104 z104 st104 hQ104
  subst l104 y104 z104
  unfold Q_rm27 at hQ104
  obtain ⟨rfl, N104q, e104⟩ := hQ104
  have N104 := Fr.app N103 N104q
  obtain ⟨T105, h105, X105, e105, W105, st105⟩ := putF X104 hx hZ hown (host := "") (Or.inl (hwk hw 25 rfl)) Via.refl e104 D2 E1 (Or.inr ⟨(hwk hw 21 rfl), rfl, hnm⟩) (hwk hw 5 rfl) (ty := .byte) (by decide) rfl rfl (g := (mkF m 24 #[.val (.ref s1), .val (.ref a1), .val .null, .val (.ref tb), .val (.int n1)] [(.int (0 : Int32)), (.ref s1)])) rfl rfl (hb hby d23_24)
  have F105 : Fld Z h105 s1 "java/lang/String" "coder" "B" (.int (0 : Int32)) := Fld.same W105 D2
  have N105 := Fr.snoc X105 N104 g1
  have c106 : Arv Z h105 tb kt .byte (16 : Int32) Y1 (.int (0 : Int32)) := (Arv.other AB W105 nb)
  have O107 : Old Z n0 h105 := Old.wr O0 W105 g1
  obtain ⟨_, _, ⟨T108, L108, k108, n108⟩, -, X108, ⟨Lc108, hQ108, l108, y108, z108⟩, st108⟩ := Jvm.LawKit.callS X105 hx (y := (⟨"java/util/Arrays", "copyOfRange", "([BII)[B"⟩ : MethodName)) hown (mvT hZ (hwk hw 148 rfl)) (mvT hZ (hwk hw 149 rfl)) (mvT hZ (hwk hw 150 rfl)) (mvT hZ (hwk hw 151 rfl)) (by decide) (backOf (W := 1) (rm28 l Z a0 hw [] tb kt n1 Y1 h105 n0 O107 c106 c0 c6 hV) hZ (hwk hw 151 rfl) (hwk hw 150 rfl) (by decide) (by decide)) (g := (mkF m 32 #[.val (.ref s1), .val (.ref a1), .val .null, .val (.ref tb), .val (.int n1)] [(.int n1), (.int (0 : Int32)), (.ref tb), (.ref s1)])) rfl (by rw [hml]; rfl) (argsL := [(.ref tb), (.int (0 : Int32)), (.int n1)]) (rest := [(.ref s1)]) (lenOf pd_15 rfl) rfl (by show 2 * 0 + _ ≤ _; exact Nat.le_of_eq rfl) (hb hby d23_32) (fun _ _ => ⟨rfl, e105, (by decide : 0 + 1 ≤ _), (by decide : 0 + 16 ≤ _)⟩)
  dsimp only [Pt.U, Pt.locs, Pt.cells, Pt.slots] at X108 l108 y108 z108 st108 hQ108
  subst l108 y108 z108
  unfold Q_rm28 at hQ108
  obtain ⟨o_108, ko_108, rfl, N108q, K108, ge_o_108, f108_0⟩ := hQ108
  have N108 := Fr.app N105 N108q
  have g_o_108 : n0 ≤ o_108 := Nat.le_trans (old_le O107) ge_o_108
  have c109 : Exa Z T108.heap s1 "java/lang/String" := (Exa.keep (Exa.wr W105 E1) K108)
  have c110 : Fld Z T108.heap s1 "java/lang/String" "value" "[B" .null := (Fld.keep (Fld.other W105 D1 (Or.inr (slot_ne (Or.inr (hwk hw 20 rfl)) (Or.inr (hwk hw 21 rfl)) (by decide) (t := (.array .byte)) (t' := .byte) (by decide) (by decide)))) K108 nin0)
  obtain ⟨T111, h111, X111, e111, W111, st111⟩ := putF X108 hx hZ hown (host := "") (Or.inl (hwk hw 24 rfl)) Via.refl (rfl : T108.heap = T108.heap) c110 c109 (Or.inr ⟨(hwk hw 20 rfl), rfl, hnm⟩) (hwk hw 5 rfl) (ty := (.array .byte)) (by decide) rfl rfl (g := (mkF m 35 #[.val (.ref s1), .val (.ref a1), .val .null, .val (.ref tb), .val (.int n1)] [(.ref o_108), (.ref s1)])) rfl rfl (hb hby d23_35)
  have F111 : Fld Z h111 s1 "java/lang/String" "value" "[B" (.ref o_108) := Fld.same W111 c110
  have N111 := Fr.snoc X111 N108 g1
  have K112 : Keep h0 h105 [s1] := Keep.wr (Keep.refl h0 [s1]) W105 (Or.inl (List.mem_of_getElem? (i := 0) rfl))
  have K113 : Keep h0 T108.heap [s1] := Keep.trans K112 K108 all0
  have K114 : Keep h0 h111 [s1] := Keep.wr K113 W111 (Or.inl (List.mem_of_getElem? (i := 0) rfl))
  have c115 : Exa Z h111 s1 "java/lang/String" := (Exa.wr W111 c109)
  have c116 : Fld Z h111 s1 "java/lang/String" "coder" "B" (.int (0 : Int32)) := (Fld.other W111 (Fld.keep F105 K108 nin0) (Or.inr (slot_ne (Or.inr (hwk hw 21 rfl)) (Or.inr (hwk hw 20 rfl)) (by decide) (t := .byte) (t' := (.array .byte)) (by decide) (by decide))))
  have c117 : Arv Z h111 o_108 ko_108 .byte n1 (List.take n1.toNatClampNeg Y1) (.int (0 : Int32)) := (Arv.other f108_0 W111 (Ne.symm (Exa.neArv c109 f108_0 (hwk hw 5 rfl))))
  obtain ⟨fs, hr, hrun, hended, hW, hsame⟩ := X111.leave (v := none) (fun _ => rfl)
  refine ⟨_, _, pre0 _ ?_, hrun, hended, _, _, rfl, ?_, ⟨_, rfl⟩, hW, hsame.mono (by decide) (by decide)⟩
  · show Steps p.tables e below (s₁.setTop (mkF m 0 #[.val (.ref s1), .val (.ref a1), .val .null, .unset, .unset] [])) _
    refine XS.aloadN X0.here hx rfl (hb hby d23_0) rfl rfl ?_
    show Steps p.tables e below (s₁.setTop (mkF m 1 #[.val (.ref s1), .val (.ref a1), .val .null, .unset, .unset] [(.ref s1)])) _
    refine st101 _ ?_
    show Steps p.tables e below (T101.setTop (mkF m 4 #[.val (.ref s1), .val (.ref a1), .val .null, .unset, .unset] [])) _
    refine XS.aloadN X101.here hx rfl (hb hby d23_4) rfl rfl ?_
    show Steps p.tables e below (T101.setTop (mkF m 5 #[.val (.ref s1), .val (.ref a1), .val .null, .unset, .unset] [(.ref a1)])) _
    refine st102.trans ?_
    show Steps p.tables e below (T102.setTop (mkF m 8 #[.val (.ref s1), .val (.ref a1), .val .null, .unset, .unset] [(.ref tb)])) _
    refine XS.astoreN X102.here hx rfl (hb hby d23_8) rfl rfl (l' := #[.val (.ref s1), .val (.ref a1), .val .null, .val (.ref tb), .unset]) rfl ?_
    show Steps p.tables e below (T102.setTop (mkF m 9 #[.val (.ref s1), .val (.ref a1), .val .null, .val (.ref tb), .unset] [])) _
    refine XS.aloadN X102.here hx rfl (hb hby d23_9) rfl rfl ?_
    show Steps p.tables e below (T102.setTop (mkF m 10 #[.val (.ref s1), .val (.ref a1), .val .null, .val (.ref tb), .unset] [(.ref a1)])) _
    refine st103.trans ?_
    show Steps p.tables e below (T103.setTop (mkF m 13 #[.val (.ref s1), .val (.ref a1), .val .null, .val (.ref tb), .unset] [(.int n1)])) _
    refine XS.istore X103.here hx rfl (hb hby d23_13) rfl (l' := #[.val (.ref s1), .val (.ref a1), .val .null, .val (.ref tb), .val (.int n1)]) rfl ?_
    show Steps p.tables e below (T103.setTop (mkF m 15 #[.val (.ref s1), .val (.ref a1), .val .null, .val (.ref tb), .val (.int n1)] [])) _
    refine XS.aloadN X103.here hx rfl (hb hby d23_15) rfl rfl ?_
    show Steps p.tables e below (T103.setTop (mkF m 16 #[.val (.ref s1), .val (.ref a1), .val .null, .val (.ref tb), .val (.int n1)] [(.ref a1)])) _
    refine st104.trans ?_
    show Steps p.tables e below (T104.setTop (mkF m 19 #[.val (.ref s1), .val (.ref a1), .val .null, .val (.ref tb), .val (.int n1)] [(.int (1 : Int32))])) _
    refine XS.ifNo X104.here hx rfl (hb hby d23_19) rfl ((if0 _ _).trans (feq (by decide : ¬ ((1 : Int32) = (0 : Int32)))).1) ?_
    show Steps p.tables e below (T104.setTop (mkF m 22 #[.val (.ref s1), .val (.ref a1), .val .null, .val (.ref tb), .val (.int n1)] [])) _
    refine XS.aloadN X104.here hx rfl (hb hby d23_22) rfl rfl ?_
    refine XS.iconst X104.here hx rfl (hb hby d23_23) ?_
    show Steps p.tables e below (T104.setTop (mkF m 24 #[.val (.ref s1), .val (.ref a1), .val .null, .val (.ref tb), .val (.int n1)] [(.int (0 : Int32)), (.ref s1)])) _
    refine st105 _ ?_
    show Steps p.tables e below (T105.setTop (mkF m 27 #[.val (.ref s1), .val (.ref a1), .val .null, .val (.ref tb), .val (.int n1)] [])) _
    refine XS.aloadN X105.here hx rfl (hb hby d23_27) rfl rfl ?_
    refine XS.aloadN X105.here hx rfl (hb hby d23_28) rfl rfl ?_
    refine XS.iconst X105.here hx rfl (hb hby d23_29) ?_
    refine XS.iload X105.here hx rfl (hb hby d23_30) rfl ?_
    show Steps p.tables e below (T105.setTop (mkF m 32 #[.val (.ref s1), .val (.ref a1), .val .null, .val (.ref tb), .val (.int n1)] [(.int n1), (.int (0 : Int32)), (.ref tb), (.ref s1)])) _
    refine st108 _ ?_
    show Steps p.tables e below (T108.setTop (mkF m 35 #[.val (.ref s1), .val (.ref a1), .val .null, .val (.ref tb), .val (.int n1)] [(.ref o_108), (.ref s1)])) _
    refine st111 _ ?_
    show Steps p.tables e below (T111.setTop (mkF m 38 #[.val (.ref s1), .val (.ref a1), .val .null, .val (.ref tb), .val (.int n1)] [])) _
    refine XS.goto X111.here hx rfl (pc0 := 38) (pc' := 97) rfl (hb hby d23_38) (by decide) (by decide) ?_
    show Steps p.tables e below (T111.setTop (mkF m 97 #[.val (.ref s1), .val (.ref a1), .val .null, .val (.ref tb), .val (.int n1)] [])) _
    exact X111.returnOut hx Bd.returns (hb hby d23_97) hr
  · show Q_rm23 Z s1 a1 tb kt n1 Y1 zc h0 n0 _ T111.heap _
    rw [e111]
    unfold Q_rm23
    exact ⟨o_108, ko_108, rfl, N111, K114, c115, F111, c116, c117⟩
theorem ef_rm22 (m : MethodId) (x0 : Addr) (x1 : Addr) : entryFrame m #[(.ref x0), (.ref x1)] 2 = mkF m 0 #[.val (.ref x0), .val (.ref x1)] [] := by first | (simp [entryFrame, mkF, argsToLocals, Value.category]; done) | rfl
def Q_rm22 (Z : State) (s1 : Addr) (a1 : Addr) (tb : Addr) (kt : ClassId) (n1 : Int32) (Y1 : List Value) (zc : Int32) (h0 : Heap) (n0 : Nat) (v : Option Value) (h : Heap) (L : List Loc) : Prop := ∃ o : Addr, ∃ ko : ClassId, (v = none) ∧ (Fr n0 L) ∧ (Keep h0 h [s1]) ∧ (Exa Z h s1 "java/lang/String") ∧ (Fld Z h s1 "java/lang/String" "value" "[B" (.ref o)) ∧ (Fld Z h s1 "java/lang/String" "coder" "B" (.int (0 : Int32))) ∧ (Arv Z h o ko .byte n1 (List.take n1.toNatClampNeg Y1) (.int (0 : Int32)))
theorem d22_0 : decode jdk_42_method_53_code 0 = .ok (.aload_n 0, 1) := by decide +kernel
theorem d22_1 : decode jdk_42_method_53_code 1 = .ok (.aload_n 1, 1) := by decide +kernel
theorem d22_2 : decode jdk_42_method_53_code 2 = .ok (.aconst_null, 1) := by decide +kernel
theorem d22_3 : decode jdk_42_method_53_code 3 = .ok (.invokespecial 489, 3) := by decide +kernel
theorem pd_18 : parseMethodDescriptor "(Ljava/lang/AbstractStringBuilder;Ljava/lang/Void;)V" = some ⟨[(.object "java/lang/AbstractStringBuilder"), (.object "java/lang/Void")], none⟩ := by decide +kernel
theorem d22_6 : decode jdk_42_method_53_code 6 = .ok (.return_, 1) := by decide +kernel
set_option maxRecDepth 65536 in
set_option maxHeartbeats 40000000 in
theorem rm22 (l : Launch) (Z : State) (a0 : Array Value) (hw : ∀ d ∈ tables_1, d.before a0 Z = true) (ws : List Jvm.Cond) (s1 : Addr) (a1 : Addr) (tb : Addr) (kt : ClassId) (n1 : Int32) (Y1 : List Value) (zc : Int32) (h0 : Heap) (n0 : Nat) (O0 : Old Z n0 h0) (E1 : Exa Z h0 s1 "java/lang/String") (g1 : n0 ≤ s1) (D1 : Fld Z h0 s1 "java/lang/String" "value" "[B" .null) (D2 : Fld Z h0 s1 "java/lang/String" "coder" "B" (.int (0 : Int32))) (ES : Exa Z h0 a1 "java/lang/StringBuilder") (na : a1 ≠ s1) (nb : tb ≠ s1) (FV : Fld Z h0 a1 "java/lang/AbstractStringBuilder" "value" "[B" (.ref tb)) (FC : Fld Z h0 a1 "java/lang/AbstractStringBuilder" "coder" "B" (.int (0 : Int32))) (FN : Fld Z h0 a1 "java/lang/AbstractStringBuilder" "count" "I" (.int n1)) (AB : Arv Z h0 tb kt .byte (16 : Int32) Y1 (.int (0 : Int32))) (c0 : ¬ n1 < (0 : Int32)) (c6 : n1 < (16 : Int32)) (hV : Y1.length = (16 : Nat)) (SZ : Sta Z Z.heap "java/lang/String" "COMPACT_STRINGS" "Z" (.int zc)) (PZ : ¬ (zc = (0 : Int32))) :
    MetFree l (⟨"java/lang/String", "<init>", "(Ljava/lang/StringBuilder;)V"⟩ : MethodName) (head1 (Jvm.Cond.code (⟨"java/lang/String", "<init>", "(Ljava/lang/StringBuilder;)V"⟩ : MethodName) jdk_42_method_53_code 2 none :: ws) ({ frames := 4, cells := 1, slots := 16, locals := 65 } : Room)) (fun a U => a = #[(.ref s1), (.ref a1)] ∧ Z.Warmed39 U.vm ∧ U.heap = h0) (fun _ _ _ _ _ => True) (fun _ U o U' => ∃ v L, o = .returned v ∧ Q_rm22 Z s1 a1 tb kt n1 Y1 zc h0 n0 v U'.heap L ∧ FrameEnd U o U' L ({ frames := 4, cells := 1, slots := 16, locals := 65 } : Room).cells ({ frames := 4, cells := 1, slots := 16, locals := 65 } : Room).slots) := by
  refine MetFree.of_bodySF (plainFor_of_name pn_0) hisR ?_
  intro p e s m args below meth c s₁ Bd hml0 hP hK
  obtain ⟨rfl, hZ, hh⟩ := hP
  have hx := Bd.exec
  have hby := Bd.bytes
  have hml : c.maxLocals = 2 := hml0
  have hown : s.vm.findClass "java/lang/String" = some m.cls := findClass_of_methodNamed Bd.named
  have hnm := (name_of_methodNamed Bd.named Bd.method).1
  have X0 : Stand p l e ({ frames := 4, cells := 1, slots := 16, locals := 65 } : Room) s m #[(.ref s1), (.ref a1)] below meth c s₁ [] 0 0 := Stand.of_body Bd
  have e0 : s₁.heap = h0 := by rw [← hh, Bd.state]; rfl
  have N0 := Fr.nil n0
  have Z0 : n0 ≤ h0.size := old_le O0
  have pre0 : ∀ t, Steps p.tables e below (s₁.setTop (mkF m 0 #[.val (.ref s1), .val (.ref a1)] [])) t → Steps p.tables e below (s₁.setTop (entryFrame m #[(.ref s1), (.ref a1)] 2)) t := fun t k => castTop (ef_rm22 m s1 a1) k
  obtain ⟨_, _, ⟨T101, L101, k101, n101⟩, -, X101, ⟨Lc101, hQ101, l101, y101, z101⟩, st101⟩ := X0.specialBack hx (y := (⟨"java/lang/String", "<init>", "(Ljava/lang/AbstractStringBuilder;Ljava/lang/Void;)V"⟩ : MethodName)) rfl hown (mvT hZ (hwk hw 127 rfl)) (mvT hZ (hwk hw 128 rfl)) (mvT hZ (hwk hw 129 rfl)) (by decide) (backOf (W := 0) (rm23 l Z a0 hw [] s1 a1 tb kt n1 Y1 zc h0 n0 O0 E1 g1 D1 D2 ES na nb FV FC FN AB c0 c6 hV SZ PZ) hZ (hwk hw 129 rfl) (hwk hw 6 rfl) (by decide) (by decide)) (g := (mkF m 3 #[.val (.ref s1), .val (.ref a1)] [.null, (.ref a1), (.ref s1)])) rfl (by rw [hml]; rfl) (Steps.refl _) (a := s1) (argsL := [(.ref a1), .null]) (rest := []) (lenOf pd_18 rfl) rfl (by show 2 * 0 + _ ≤ _; exact Nat.le_of_eq rfl) (hb hby d22_3) (fun _ _ => ⟨rfl, e0, (by decide : 0 + 1 ≤ _), (by decide : 0 + 16 ≤ _)⟩)
  dsimp only [Pt.U, Pt.locs, Pt.cells, Pt.slots] at X101 l101 y101 z101 st101 hQ101
  subst l101 y101 z101
  unfold Q_rm23 at hQ101
  obtain ⟨o_101, ko_101, rfl, N101q, K101, f101_0, f101_1, f101_2, f101_3⟩ := hQ101
  have N101 := Fr.app N0 N101q
  have K102 : Keep h0 T101.heap [s1] := Keep.trans (Keep.refl h0 [s1]) K101 (allS (Or.inl (List.mem_of_getElem? (i := 0) rfl)) all0)
  obtain ⟨fs, hr, hrun, hended, hW, hsame⟩ := X101.leave (v := none) (fun _ => rfl)
  refine ⟨_, _, pre0 _ ?_, hrun, hended, _, _, rfl, ?_, ⟨_, rfl⟩, hW, hsame.mono (by decide) (by decide)⟩
  · show Steps p.tables e below (s₁.setTop (mkF m 0 #[.val (.ref s1), .val (.ref a1)] [])) _
    refine XS.aloadN X0.here hx rfl (hb hby d22_0) rfl rfl ?_
    refine XS.aloadN X0.here hx rfl (hb hby d22_1) rfl rfl ?_
    refine XS.aconstNull X0.here hx rfl (hb hby d22_2) ?_
    show Steps p.tables e below (s₁.setTop (mkF m 3 #[.val (.ref s1), .val (.ref a1)] [.null, (.ref a1), (.ref s1)])) _
    refine st101.trans ?_
    show Steps p.tables e below (T101.setTop (mkF m 6 #[.val (.ref s1), .val (.ref a1)] [])) _
    exact X101.returnOut hx Bd.returns (hb hby d22_6) hr
  · show Q_rm22 Z s1 a1 tb kt n1 Y1 zc h0 n0 _ T101.heap _
    unfold Q_rm22
    exact ⟨o_101, ko_101, rfl, N101, K102, f101_0, f101_1, f101_2, f101_3⟩
theorem ef_rm21 (m : MethodId) (x0 : Addr) : entryFrame m #[(.ref x0)] 1 = mkF m 0 #[.val (.ref x0)] [] := by first | (simp [entryFrame, mkF, argsToLocals, Value.category]; done) | rfl
def Q_rm21 (Z : State) (a1 : Addr) (tb : Addr) (kt : ClassId) (n1 : Int32) (Y1 : List Value) (zc : Int32) (h0 : Heap) (n0 : Nat) (v : Option Value) (h : Heap) (L : List Loc) : Prop := ∃ o : Addr, ∃ t : Addr, ∃ kb : ClassId, (v = some (.ref o)) ∧ (Fr n0 L) ∧ (Keep h0 h []) ∧ (h0.size ≤ o) ∧ (Exa Z h o "java/lang/String") ∧ (Fld Z h o "java/lang/String" "value" "[B" (.ref t)) ∧ (Fld Z h o "java/lang/String" "coder" "B" (.int (0 : Int32))) ∧ (Arv Z h t kb .byte n1 (List.take n1.toNatClampNeg Y1) (.int (0 : Int32)))
theorem d21_0 : decode jdk_67_method_42_code 0 = .ok (.new 18, 3) := by decide +kernel
theorem d21_3 : decode jdk_67_method_42_code 3 = .ok (.dup, 1) := by decide +kernel
theorem d21_4 : decode jdk_67_method_42_code 4 = .ok (.aload_n 0, 1) := by decide +kernel
theorem d21_5 : decode jdk_67_method_42_code 5 = .ok (.invokespecial 137, 3) := by decide +kernel
theorem pd_19 : parseMethodDescriptor "(Ljava/lang/StringBuilder;)V" = some ⟨[(.object "java/lang/StringBuilder")], none⟩ := by decide +kernel
theorem d21_8 : decode jdk_67_method_42_code 8 = .ok (.areturn, 1) := by decide +kernel
set_option maxRecDepth 65536 in
set_option maxHeartbeats 40000000 in
theorem rm21 (l : Launch) (Z : State) (a0 : Array Value) (hw : ∀ d ∈ tables_1, d.before a0 Z = true) (ws : List Jvm.Cond) (a1 : Addr) (tb : Addr) (kt : ClassId) (n1 : Int32) (Y1 : List Value) (zc : Int32) (h0 : Heap) (n0 : Nat) (O0 : Old Z n0 h0) (ES : Exa Z h0 a1 "java/lang/StringBuilder") (FV : Fld Z h0 a1 "java/lang/AbstractStringBuilder" "value" "[B" (.ref tb)) (FC : Fld Z h0 a1 "java/lang/AbstractStringBuilder" "coder" "B" (.int (0 : Int32))) (FN : Fld Z h0 a1 "java/lang/AbstractStringBuilder" "count" "I" (.int n1)) (AB : Arv Z h0 tb kt .byte (16 : Int32) Y1 (.int (0 : Int32))) (c0 : ¬ n1 < (0 : Int32)) (c6 : n1 < (16 : Int32)) (hV : Y1.length = (16 : Nat)) (SZ : Sta Z Z.heap "java/lang/String" "COMPACT_STRINGS" "Z" (.int zc)) (PZ : ¬ (zc = (0 : Int32))) :
    MetFree l (⟨"java/lang/StringBuilder", "toString", "()Ljava/lang/String;"⟩ : MethodName) (head1 (Jvm.Cond.code (⟨"java/lang/StringBuilder", "toString", "()Ljava/lang/String;"⟩ : MethodName) jdk_67_method_42_code 1 (some (.object "java/lang/String")) :: ws) ({ frames := 5, cells := 2, slots := 20, locals := 79 } : Room)) (fun a U => a = #[(.ref a1)] ∧ Z.Warmed39 U.vm ∧ U.heap = h0) (fun _ _ _ _ _ => True) (fun _ U o U' => ∃ v L, o = .returned v ∧ Q_rm21 Z a1 tb kt n1 Y1 zc h0 n0 v U'.heap L ∧ FrameEnd U o U' L ({ frames := 5, cells := 2, slots := 20, locals := 79 } : Room).cells ({ frames := 5, cells := 2, slots := 20, locals := 79 } : Room).slots) := by
  refine MetFree.of_bodySF (plainFor_of_name pn_4) hisR ?_
  intro p e s m args below meth c s₁ Bd hml0 hP hK
  obtain ⟨rfl, hZ, hh⟩ := hP
  have hx := Bd.exec
  have hby := Bd.bytes
  have hml : c.maxLocals = 1 := hml0
  have hown : s.vm.findClass "java/lang/StringBuilder" = some m.cls := findClass_of_methodNamed Bd.named
  have hnm := (name_of_methodNamed Bd.named Bd.method).1
  have X0 : Stand p l e ({ frames := 5, cells := 2, slots := 20, locals := 79 } : Room) s m #[(.ref a1)] below meth c s₁ [] 0 0 := Stand.of_body Bd
  have e0 : s₁.heap = h0 := by rw [← hh, Bd.state]; rfl
  have N0 := Fr.nil n0
  have Z0 : n0 ≤ h0.size := old_le O0
  have pre0 : ∀ t, Steps p.tables e below (s₁.setTop (mkF m 0 #[.val (.ref a1)] [])) t → Steps p.tables e below (s₁.setTop (entryFrame m #[(.ref a1)] 1)) t := fun t k => castTop (ef_rm21 m a1) k
  obtain ⟨T101, h101, X101, e101, E101, A101, D101, -, st101⟩ := newO X0 hx hZ hown (hwk hw 123 rfl) (hwk hw 5 rfl) (hwk hw 6 rfl) e0 (g := (mkF m 0 #[.val (.ref a1)] [])) rfl (hb hby d21_0) (by decide) (by decide)
  obtain ⟨b101, g101⟩ : ∃ z, z = h0.size := ⟨_, rfl⟩
  rw [← g101] at A101 D101 st101
  have g_b101 : n0 ≤ b101 := Nat.le_trans (old_le O0) (Nat.le_of_eq g101.symm)
  have c102 : Exa Z h101 a1 "java/lang/StringBuilder" := (Exa.ext E101 ES)
  have c103 : Fld Z h101 a1 "java/lang/AbstractStringBuilder" "value" "[B" (.ref tb) := (Fld.ext E101 FV)
  have c104 : Fld Z h101 a1 "java/lang/AbstractStringBuilder" "coder" "B" (.int (0 : Int32)) := (Fld.ext E101 FC)
  have c105 : Fld Z h101 a1 "java/lang/AbstractStringBuilder" "count" "I" (.int n1) := (Fld.ext E101 FN)
  have c106 : Arv Z h101 tb kt .byte (16 : Int32) Y1 (.int (0 : Int32)) := (AB.ext E101)
  have O107 : Old Z n0 h101 := Old.ext O0 E101
  obtain ⟨_, _, ⟨T108, L108, k108, n108⟩, -, X108, ⟨Lc108, hQ108, l108, y108, z108⟩, st108⟩ := X101.specialBack hx (y := (⟨"java/lang/String", "<init>", "(Ljava/lang/StringBuilder;)V"⟩ : MethodName)) rfl hown (mvT hZ (hwk hw 124 rfl)) (mvT hZ (hwk hw 125 rfl)) (mvT hZ (hwk hw 126 rfl)) (by decide) (backOf (W := 1) (rm22 l Z a0 hw [] b101 a1 tb kt n1 Y1 zc h101 n0 O107 A101 g_b101 (show Fld Z h101 b101 "java/lang/String" "value" "[B" .null from D101 (Or.inr (hwk hw 20 rfl)) (ty := (.array .byte)) (by decide)) (show Fld Z h101 b101 "java/lang/String" "coder" "B" (.int (0 : Int32)) from D101 (Or.inr (hwk hw 21 rfl)) (ty := .byte) (by decide)) c102 (ne_exa c102 A101 (by decide)) (Nat.ne_of_lt (Nat.lt_of_lt_of_le (AB).lt (Nat.le_of_eq g101.symm))) c103 c104 c105 c106 c0 c6 hV SZ PZ) hZ (hwk hw 126 rfl) (hwk hw 6 rfl) (by decide) (by decide)) (g := (mkF m 5 #[.val (.ref a1)] [(.ref a1), (.ref b101), (.ref b101)])) rfl (by rw [hml]; rfl) (Steps.refl _) (a := b101) (argsL := [(.ref a1)]) (rest := [(.ref b101)]) (lenOf pd_19 rfl) rfl (by show 2 * 0 + _ ≤ _; exact Nat.le_of_eq rfl) (hb hby d21_5) (fun _ _ => ⟨rfl, e101, (by decide : 1 + 1 ≤ _), (by decide : 4 + 16 ≤ _)⟩)
  dsimp only [Pt.U, Pt.locs, Pt.cells, Pt.slots] at X108 l108 y108 z108 st108 hQ108
  subst l108 y108 z108
  unfold Q_rm22 at hQ108
  obtain ⟨o_108, ko_108, rfl, N108q, K108, f108_0, f108_1, f108_2, f108_3⟩ := hQ108
  have N108 := Fr.app N0 N108q
  have K109 : Keep h0 h101 [] := Keep.ext (Keep.refl h0 []) E101
  have K110 : Keep h0 T108.heap [] := Keep.trans K109 K108 (allS (Or.inr (Nat.le_trans (Nat.le_refl _) (Nat.le_of_eq g101.symm))) all0)
  obtain ⟨fs, hr, hrun, hended, hW, hsame⟩ := X108.leave (v := some (.ref b101)) (fun h => by rw [Bd.returns] at h; cases h)
  refine ⟨_, _, pre0 _ ?_, hrun, hended, _, _, rfl, ?_, ⟨_, rfl⟩, hW, hsame.mono (by decide) (by decide)⟩
  · show Steps p.tables e below (s₁.setTop (mkF m 0 #[.val (.ref a1)] [])) _
    refine st101 _ ?_
    show Steps p.tables e below (T101.setTop (mkF m 3 #[.val (.ref a1)] [(.ref b101)])) _
    refine XS.dup X101.here hx rfl (hb hby d21_3) rfl rfl ?_
    show Steps p.tables e below (T101.setTop (mkF m 4 #[.val (.ref a1)] [(.ref b101), (.ref b101)])) _
    refine XS.aloadN X101.here hx rfl (hb hby d21_4) rfl rfl ?_
    show Steps p.tables e below (T101.setTop (mkF m 5 #[.val (.ref a1)] [(.ref a1), (.ref b101), (.ref b101)])) _
    refine st108.trans ?_
    show Steps p.tables e below (T108.setTop (mkF m 8 #[.val (.ref a1)] [(.ref b101)])) _
    exact Jvm.RoadKit.retOut X108 hx Bd.returns rfl (Or.inr (Or.inr (Or.inr (Or.inr ⟨rfl, rfl, rfl⟩)))) (hb hby d21_8) hr
  · show Q_rm21 Z a1 tb kt n1 Y1 zc h0 n0 _ T108.heap _
    unfold Q_rm21
    exact ⟨b101, o_108, ko_108, rfl, N108, K110, (Nat.le_trans (Nat.le_refl _) (Nat.le_of_eq g101.symm)), f108_0, f108_1, f108_2, f108_3⟩
theorem ef_kp0 (m : MethodId) (x0 : Addr) (x1 : Addr) : entryFrame m #[(.ref x0), (.ref x1)] 2 = mkF m 0 #[.val (.ref x0), .val (.ref x1)] [] := by first | (simp [entryFrame, mkF, argsToLocals, Value.category]; done) | rfl
def Q_kp0 (Z : State) (s1 : Addr) (t1 : Addr) (k1 : ClassId) (m1 : Int32) (X1 : List Value) (s2 : Addr) (h0 : Heap) (n0 : Nat) (v : Option Value) (h : Heap) (L : List Loc) : Prop := (v = some (.ref s2)) ∧ (Fr n0 L) ∧ (h = h0)
theorem pn_6 : plainName "com/example/syndex/syndex/Section" = true := by first | (simp [plainName, overriddenIn]; done) | decide +kernel
theorem d5_0 : decode prog_68_method_2_code 0 = .ok (.aload_n 0, 1) := by decide +kernel
theorem d5_1 : decode prog_68_method_2_code 1 = .ok (.invokevirtual 20, 3) := by decide +kernel
theorem d5_4 : decode prog_68_method_2_code 4 = .ok (.ifCond .eq 7, 3) := by decide +kernel
theorem d5_7 : decode prog_68_method_2_code 7 = .ok (.aload_n 1, 1) := by decide +kernel
theorem d5_8 : decode prog_68_method_2_code 8 = .ok (.goto 26, 3) := by decide +kernel
theorem d5_34 : decode prog_68_method_2_code 34 = .ok (.areturn, 1) := by decide +kernel
set_option maxRecDepth 65536 in
set_option maxHeartbeats 40000000 in
theorem kp0 (l : Launch) (Z : State) (a0 : Array Value) (hw : ∀ d ∈ tables_1, d.before a0 Z = true) (ws : List Jvm.Cond) (s1 : Addr) (t1 : Addr) (k1 : ClassId) (m1 : Int32) (X1 : List Value) (s2 : Addr) (h0 : Heap) (n0 : Nat) (O0 : Old Z n0 h0) (E1 : Exa Z h0 s1 "java/lang/String") (V1 : Fld Z h0 s1 "java/lang/String" "value" "[B" (.ref t1)) (C1 : Fld Z h0 s1 "java/lang/String" "coder" "B" (.int (0 : Int32))) (A1 : Arv Z h0 t1 k1 .byte m1 X1 (.int (0 : Int32))) (hz : m1 = (0 : Int32)) :
    MetFree l (⟨"com/example/syndex/syndex/Section", "keyPath", "(Ljava/lang/String;Ljava/lang/String;)Ljava/lang/String;"⟩ : MethodName) (head1 (Jvm.Cond.code (⟨"com/example/syndex/syndex/Section", "keyPath", "(Ljava/lang/String;Ljava/lang/String;)Ljava/lang/String;"⟩ : MethodName) prog_68_method_2_code 2 (some (.object "java/lang/String")) :: ws) ({ frames := 1, cells := 0, slots := 0, locals := 12 } : Room)) (fun a U => a = #[(.ref s1), (.ref s2)] ∧ Z.Warmed39 U.vm ∧ U.heap = h0) (fun _ _ _ _ _ => True) (fun _ U o U' => ∃ v L, o = .returned v ∧ Q_kp0 Z s1 t1 k1 m1 X1 s2 h0 n0 v U'.heap L ∧ FrameEnd U o U' L ({ frames := 1, cells := 0, slots := 0, locals := 12 } : Room).cells ({ frames := 1, cells := 0, slots := 0, locals := 12 } : Room).slots) := by
  refine MetFree.of_bodySF (plainFor_of_name pn_6) hisR ?_
  intro p e s m args below meth c s₁ Bd hml0 hP hK
  obtain ⟨rfl, hZ, hh⟩ := hP
  have hx := Bd.exec
  have hby := Bd.bytes
  have hml : c.maxLocals = 2 := hml0
  have hown : s.vm.findClass "com/example/syndex/syndex/Section" = some m.cls := findClass_of_methodNamed Bd.named
  have hnm := (name_of_methodNamed Bd.named Bd.method).1
  have X0 : Stand p l e ({ frames := 1, cells := 0, slots := 0, locals := 12 } : Room) s m #[(.ref s1), (.ref s2)] below meth c s₁ [] 0 0 := Stand.of_body Bd
  have e0 : s₁.heap = h0 := by rw [← hh, Bd.state]; rfl
  have N0 := Fr.nil n0
  have Z0 : n0 ≤ h0.size := old_le O0
  have pre0 : ∀ t, Steps p.tables e below (s₁.setTop (mkF m 0 #[.val (.ref s1), .val (.ref s2)] [])) t → Steps p.tables e below (s₁.setTop (entryFrame m #[(.ref s1), (.ref s2)] 2)) t := fun t k => castTop (ef_kp0 m s1 s2) k
  obtain ⟨cq101, kq101, q101a, q101b, q101c⟩ := isOf hZ e0 E1
  obtain ⟨_, _, ⟨T101, L101, k101, n101⟩, -, X101, ⟨Lc101, hQ101, l101, y101, z101⟩, st101⟩ := X0.virtualBack hx (y := (⟨"java/lang/String", "isEmpty", "()Z"⟩ : MethodName)) (z := (⟨"java/lang/String", "isEmpty", "()Z"⟩ : MethodName)) hown (mvT hZ (hwk hw 30 rfl)) (mvT hZ (hwk hw 31 rfl)) (notFace_of_selects (args := #[]) (mvT hZ (hwk hw 33 rfl))) (mvT hZ (hwk hw 33 rfl)) (mvT hZ (hwk hw 32 rfl)) (by decide) (backOf (W := 0) (emp0 l Z a0 hw [] s1 t1 k1 m1 X1 h0 n0 O0 E1 V1 C1 A1 hz) hZ (hwk hw 34 rfl) (hwk hw 6 rfl) (by decide) (by decide)) q101a q101c (g := (mkF m 1 #[.val (.ref s1), .val (.ref s2)] [(.ref s1)])) rfl (by rw [hml]; rfl) (Steps.refl _) (argsL := []) (rest := []) (lenOf pd_17 rfl) rfl (by show 2 * 0 + _ ≤ _; exact Nat.le_of_eq rfl) (hb hby d5_1) (fun _ _ => ⟨rfl, e0, (by decide : 0 + 0 ≤ _), (by decide : 0 + 0 ≤ _)⟩)
  dsimp only [Pt.U, Pt.locs, Pt.cells, Pt.slots] at X101 l101 y101 z101 st101 hQ101
  subst l101 y101 z101
  unfold Q_emp0 at hQ101
  obtain ⟨rfl, N101q, e101⟩ := hQ101
  have N101 := Fr.app N0 N101q
  obtain ⟨fs, hr, hrun, hended, hW, hsame⟩ := X101.leave (v := some (.ref s2)) (fun h => by rw [Bd.returns] at h; cases h)
  refine ⟨_, _, pre0 _ ?_, hrun, hended, _, _, rfl, ?_, ⟨_, rfl⟩, hW, hsame.mono (by decide) (by decide)⟩
  · show Steps p.tables e below (s₁.setTop (mkF m 0 #[.val (.ref s1), .val (.ref s2)] [])) _
    refine XS.aloadN X0.here hx rfl (hb hby d5_0) rfl rfl ?_
    show Steps p.tables e below (s₁.setTop (mkF m 1 #[.val (.ref s1), .val (.ref s2)] [(.ref s1)])) _
    refine st101.trans ?_
    show Steps p.tables e below (T101.setTop (mkF m 4 #[.val (.ref s1), .val (.ref s2)] [(.int (1 : Int32))])) _
    refine XS.ifNo X101.here hx rfl (hb hby d5_4) rfl ((if0 _ _).trans (feq (by decide : ¬ ((1 : Int32) = (0 : Int32)))).1) ?_
    show Steps p.tables e below (T101.setTop (mkF m 7 #[.val (.ref s1), .val (.ref s2)] [])) _
    refine XS.aloadN X101.here hx rfl (hb hby d5_7) rfl rfl ?_
    refine XS.goto X101.here hx rfl (pc0 := 8) (pc' := 34) rfl (hb hby d5_8) (by decide) (by decide) ?_
    show Steps p.tables e below (T101.setTop (mkF m 34 #[.val (.ref s1), .val (.ref s2)] [(.ref s2)])) _
    exact Jvm.RoadKit.retOut X101 hx Bd.returns rfl (Or.inr (Or.inr (Or.inr (Or.inr ⟨rfl, rfl, rfl⟩)))) (hb hby d5_34) hr
  · show Q_kp0 Z s1 t1 k1 m1 X1 s2 h0 n0 _ T101.heap _
    rw [e101]
    unfold Q_kp0
    exact ⟨rfl, N101, rfl⟩
theorem ef_kp1 (m : MethodId) (x0 : Addr) (x1 : Addr) : entryFrame m #[(.ref x0), (.ref x1)] 2 = mkF m 0 #[.val (.ref x0), .val (.ref x1)] [] := by first | (simp [entryFrame, mkF, argsToLocals, Value.category]; done) | rfl
def Q_kp1 (Z : State) (s1 : Addr) (t1 : Addr) (k1 : ClassId) (m1 : Int32) (X1 : List Value) (s2 : Addr) (t2 : Addr) (k2 : ClassId) (m2 : Int32) (X2 : List Value) (zc : Int32) (h0 : Heap) (n0 : Nat) (v : Option Value) (h : Heap) (L : List Loc) : Prop := ∃ o : Addr, ∃ t : Addr, ∃ kb : ClassId, (v = some (.ref o)) ∧ (Fr n0 L) ∧ (Keep h0 h []) ∧ (h0.size ≤ o) ∧ (Exa Z h o "java/lang/String") ∧ (Fld Z h o "java/lang/String" "value" "[B" (.ref t)) ∧ (Fld Z h o "java/lang/String" "coder" "B" (.int (0 : Int32))) ∧ (Arv Z h t kb .byte ((((0 : Int32) + m1) + (1 : Int32)) + m2) (List.take ((((0 : Int32) + m1) + (1 : Int32)) + m2).toNatClampNeg (APP (((0 : Int32) + m1) + (1 : Int32)) (APP ((0 : Int32) + m1) (APP (0 : Int32) [(.int (0 : Int32)), (.int (0 : Int32)), (.int (0 : Int32)), (.int (0 : Int32)), (.int (0 : Int32)), (.int (0 : Int32)), (.int (0 : Int32)), (.int (0 : Int32)), (.int (0 : Int32)), (.int (0 : Int32)), (.int (0 : Int32)), (.int (0 : Int32)), (.int (0 : Int32)), (.int (0 : Int32)), (.int (0 : Int32)), (.int (0 : Int32))] m1 X1) (1 : Int32) [(.int (46 : Int32))]) m2 X2)) (.int (0 : Int32)))
theorem d5_11 : decode prog_68_method_2_code 11 = .ok (.new 26, 3) := by decide +kernel
theorem d5_14 : decode prog_68_method_2_code 14 = .ok (.dup, 1) := by decide +kernel
theorem d5_15 : decode prog_68_method_2_code 15 = .ok (.invokespecial 28, 3) := by decide +kernel
theorem pd_20 : parseMethodDescriptor "()V" = some ⟨[], none⟩ := by decide +kernel
theorem d5_18 : decode prog_68_method_2_code 18 = .ok (.aload_n 0, 1) := by decide +kernel
theorem d5_19 : decode prog_68_method_2_code 19 = .ok (.invokevirtual 29, 3) := by decide +kernel
theorem pd_21 : parseMethodDescriptor "(Ljava/lang/String;)Ljava/lang/StringBuilder;" = some ⟨[(.object "java/lang/String")], some (.object "java/lang/StringBuilder")⟩ := by decide +kernel
theorem d5_22 : decode prog_68_method_2_code 22 = .ok (.ldc 33, 2) := by decide +kernel
theorem d5_24 : decode prog_68_method_2_code 24 = .ok (.invokevirtual 29, 3) := by decide +kernel
theorem d5_27 : decode prog_68_method_2_code 27 = .ok (.aload_n 1, 1) := by decide +kernel
theorem d5_28 : decode prog_68_method_2_code 28 = .ok (.invokevirtual 29, 3) := by decide +kernel
theorem d5_31 : decode prog_68_method_2_code 31 = .ok (.invokevirtual 35, 3) := by decide +kernel
theorem pd_22 : parseMethodDescriptor "()Ljava/lang/String;" = some ⟨[], some (.object "java/lang/String")⟩ := by decide +kernel
set_option maxRecDepth 65536 in
set_option maxHeartbeats 40000000 in
theorem kp1 (l : Launch) (Z : State) (a0 : Array Value) (hw : ∀ d ∈ tables_1, d.before a0 Z = true) (ws : List Jvm.Cond) (s1 : Addr) (t1 : Addr) (k1 : ClassId) (m1 : Int32) (X1 : List Value) (s2 : Addr) (t2 : Addr) (k2 : ClassId) (m2 : Int32) (X2 : List Value) (zc : Int32) (h0 : Heap) (n0 : Nat) (O0 : Old Z n0 h0) (E1 : Exa Z h0 s1 "java/lang/String") (V1 : Fld Z h0 s1 "java/lang/String" "value" "[B" (.ref t1)) (C1 : Fld Z h0 s1 "java/lang/String" "coder" "B" (.int (0 : Int32))) (A1 : Arv Z h0 t1 k1 .byte m1 X1 (.int (0 : Int32))) (E2 : Exa Z h0 s2 "java/lang/String") (V2 : Fld Z h0 s2 "java/lang/String" "value" "[B" (.ref t2)) (C2 : Fld Z h0 s2 "java/lang/String" "coder" "B" (.int (0 : Int32))) (A2 : Arv Z h0 t2 k2 .byte m2 X2 (.int (0 : Int32))) (h1 : m1 = (1 : Int32) ∨ m1 = (2 : Int32)) (h2 : m2 = (0 : Int32) ∨ m2 = (1 : Int32) ∨ m2 = (2 : Int32)) (q1 : m1.toNatClampNeg = X1.length) (q2 : m2.toNatClampNeg = X2.length) (SZ : Sta Z Z.heap "java/lang/String" "COMPACT_STRINGS" "Z" (.int zc)) (PZ : ¬ (zc = (0 : Int32))) :
    MetFree l (⟨"com/example/syndex/syndex/Section", "keyPath", "(Ljava/lang/String;Ljava/lang/String;)Ljava/lang/String;"⟩ : MethodName) (head1 (Jvm.Cond.code (⟨"com/example/syndex/syndex/Section", "keyPath", "(Ljava/lang/String;Ljava/lang/String;)Ljava/lang/String;"⟩ : MethodName) prog_68_method_2_code 2 (some (.object "java/lang/String")) :: ws) ({ frames := 6, cells := 6, slots := 48, locals := 91 } : Room)) (fun a U => a = #[(.ref s1), (.ref s2)] ∧ Z.Warmed39 U.vm ∧ U.heap = h0 ∧ CHv Z consts_1 U.vm h0 ∧ ∀ x ∈ ([] : List Addr), Safe Z consts_1 U.vm h0 x) (fun _ _ _ _ _ => True) (fun _ U o U' => ∃ v L, o = .returned v ∧ Q_kp1 Z s1 t1 k1 m1 X1 s2 t2 k2 m2 X2 zc h0 n0 v U'.heap L ∧ CHr Z consts_1 U.vm U.heap U'.vm U'.heap ∧ ReturnedEndW U o U' L ({ frames := 6, cells := 6, slots := 48, locals := 91 } : Room).cells ({ frames := 6, cells := 6, slots := 48, locals := 91 } : Room).slots) := by
  refine MetFree.of_bodySF (plainFor_of_name pn_6) hisR ?_
  intro p e s m args below meth c s₁ Bd hml0 hP hK
  obtain ⟨rfl, hZ, hh, hH0, hSf⟩ := hP
  have hx := Bd.exec
  have hby := Bd.bytes
  have hml : c.maxLocals = 2 := hml0
  have hEL : EW Z a0 consts_1 := own_EW hw
  have CR0 : CHr Z consts_1 s.vm h0 s.vm h0 := CHr.refl hH0
  have hown : s.vm.findClass "com/example/syndex/syndex/Section" = some m.cls := findClass_of_methodNamed Bd.named
  have hnm := (name_of_methodNamed Bd.named Bd.method).1
  have hS0 : s.Since s.vm h0.size := (State.WarmedH.refl s).since _
  have hstr : ∀ a ∈ Bundle.stringAtoms, a.before a0 Z = true := own_str hw
  have X0 : Stand p l e ({ frames := 6, cells := 6, slots := 48, locals := 91 } : Room) (s.setVm s.vm) m #[(.ref s1), (.ref s2)] below meth c s₁ [] 0 0 := Stand.of_body Bd
  have e0 : s₁.heap = h0 := by rw [← hh, Bd.state]; rfl
  have N0 := Fr.nil n0
  have Z0 : n0 ≤ h0.size := old_le O0
  have pre0 : ∀ t, Steps p.tables e below (s₁.setTop (mkF m 0 #[.val (.ref s1), .val (.ref s2)] [])) t → Steps p.tables e below (s₁.setTop (entryFrame m #[(.ref s1), (.ref s2)] 2)) t := fun t k => castTop (ef_kp1 m s1 s2) k
  obtain ⟨cq101, kq101, q101a, q101b, q101c⟩ := isOf hZ e0 E1
  obtain ⟨_, _, ⟨T101, L101, k101, n101⟩, -, X101, ⟨Lc101, hQ101, l101, y101, z101⟩, st101⟩ := X0.virtualBack hx (y := (⟨"java/lang/String", "isEmpty", "()Z"⟩ : MethodName)) (z := (⟨"java/lang/String", "isEmpty", "()Z"⟩ : MethodName)) hown (mvT hZ (hwk hw 30 rfl)) (mvT hZ (hwk hw 31 rfl)) (notFace_of_selects (args := #[]) (mvT hZ (hwk hw 33 rfl))) (mvT hZ (hwk hw 33 rfl)) (mvT hZ (hwk hw 32 rfl)) (by decide) (backOf (W := 0) (emp1 l Z a0 hw [] s1 t1 k1 m1 X1 h0 n0 O0 E1 V1 C1 A1 (own_r12 h1)) hZ (hwk hw 34 rfl) (hwk hw 6 rfl) (by decide) (by decide)) q101a q101c (g := (mkF m 1 #[.val (.ref s1), .val (.ref s2)] [(.ref s1)])) rfl (by rw [hml]; rfl) (Steps.refl _) (argsL := []) (rest := []) (lenOf pd_17 rfl) rfl (by show 2 * 0 + _ ≤ _; exact Nat.le_of_eq rfl) (hb hby d5_1) (fun _ _ => ⟨rfl, e0, (by decide : 0 + 0 ≤ _), (by decide : 0 + 0 ≤ _)⟩)
  dsimp only [Pt.U, Pt.locs, Pt.cells, Pt.slots] at X101 l101 y101 z101 st101 hQ101
  subst l101 y101 z101
  unfold Q_emp1 at hQ101
  obtain ⟨rfl, N101q, e101⟩ := hQ101
  have N101 := Fr.app N0 N101q
  obtain ⟨T102, h102, X102, e102, E102, A102, D102, -, st102⟩ := newO X101 hx hZ hown (hwk hw 61 rfl) (hwk hw 62 rfl) (hwk hw 63 rfl) e101 (g := (mkF m 11 #[.val (.ref s1), .val (.ref s2)] [])) rfl (hb hby d5_11) (by decide) (by decide)
  obtain ⟨b102, g102⟩ : ∃ z, z = h0.size := ⟨_, rfl⟩
  rw [← g102] at A102 D102 st102
  have g_b102 : n0 ≤ b102 := Nat.le_trans (old_le O0) (Nat.le_of_eq g102.symm)
  have O103 : Old Z n0 h102 := Old.ext O0 E102
  obtain ⟨_, _, ⟨T104, L104, k104, n104⟩, -, X104, ⟨Lc104, hQ104, l104, y104, z104⟩, st104⟩ := X102.specialBack hx (y := (⟨"java/lang/StringBuilder", "<init>", "()V"⟩ : MethodName)) rfl hown (mvT hZ (hwk hw 64 rfl)) (mvT hZ (hwk hw 65 rfl)) (mvT hZ (hwk hw 66 rfl)) (by decide) (backOf (W := 1) (rm13 l Z a0 hw [] b102 zc h102 n0 O103 A102 g_b102 (show Fld Z h102 b102 "java/lang/AbstractStringBuilder" "value" "[B" .null from D102 (Or.inl (hwk hw 76 rfl)) (ty := (.array .byte)) (by decide)) (show Fld Z h102 b102 "java/lang/AbstractStringBuilder" "coder" "B" (.int (0 : Int32)) from D102 (Or.inl (hwk hw 78 rfl)) (ty := .byte) (by decide)) (show Fld Z h102 b102 "java/lang/AbstractStringBuilder" "count" "I" (.int (0 : Int32)) from D102 (Or.inl (hwk hw 91 rfl)) (ty := .int) (by decide)) SZ PZ) hZ (hwk hw 66 rfl) (hwk hw 63 rfl) (by decide) (by decide)) (g := (mkF m 15 #[.val (.ref s1), .val (.ref s2)] [(.ref b102), (.ref b102)])) rfl (by rw [hml]; rfl) (Steps.refl _) (a := b102) (argsL := []) (rest := [(.ref b102)]) (lenOf pd_20 rfl) rfl (by show 2 * 0 + _ ≤ _; exact Nat.le_of_eq rfl) (hb hby d5_15) (fun _ _ => ⟨rfl, e102, (by decide : 1 + 1 ≤ _), (by decide : 4 + 16 ≤ _)⟩)
  dsimp only [Pt.U, Pt.locs, Pt.cells, Pt.slots] at X104 l104 y104 z104 st104 hQ104
  subst l104 y104 z104
  unfold Q_rm13 at hQ104
  obtain ⟨tb_104, kt_104, rfl, N104q, K104, ge_tb_104, f104_0, f104_1, f104_2, f104_3⟩ := hQ104
  have N104 := Fr.app N101 N104q
  have g_tb_104 : n0 ≤ tb_104 := Nat.le_trans (old_le O103) ge_tb_104
  have c105 : Exa Z T104.heap s1 "java/lang/String" := (Exa.keep (Exa.ext E102 E1) K104)
  have c106 : Fld Z T104.heap s1 "java/lang/String" "value" "[B" (.ref t1) := (Fld.keep (Fld.ext E102 V1) K104 (ninS (Nat.ne_of_lt (Nat.lt_of_lt_of_le (E1).lt (Nat.le_of_eq g102.symm))) nin0))
  have c107 : Fld Z T104.heap s1 "java/lang/String" "coder" "B" (.int (0 : Int32)) := (Fld.keep (Fld.ext E102 C1) K104 (ninS (Nat.ne_of_lt (Nat.lt_of_lt_of_le (E1).lt (Nat.le_of_eq g102.symm))) nin0))
  have c108 : Arv Z T104.heap t1 k1 .byte m1 X1 (.int (0 : Int32)) := (Arv.keep (A1.ext E102) K104 (ninS (Nat.ne_of_lt (Nat.lt_of_lt_of_le (A1).lt (Nat.le_of_eq g102.symm))) nin0))
  have c109 : Exa Z T104.heap b102 "java/lang/StringBuilder" := (Exa.keep A102 K104)
  have O110 : Old Z n0 T104.heap := Old.keep O103 K104 (allS g_b102 all0)
  obtain ⟨cq111, kq111, q111a, q111b, q111c⟩ := isOf hZ (rfl : T104.heap = T104.heap) c109
  obtain ⟨_, _, ⟨T111, L111, k111, n111⟩, -, X111, ⟨Lc111, hQ111, l111, y111, z111⟩, st111⟩ := X104.virtualBack hx (y := (⟨"java/lang/StringBuilder", "append", "(Ljava/lang/String;)Ljava/lang/StringBuilder;"⟩ : MethodName)) (z := (⟨"java/lang/StringBuilder", "append", "(Ljava/lang/String;)Ljava/lang/StringBuilder;"⟩ : MethodName)) hown (mvT hZ (hwk hw 79 rfl)) (mvT hZ (hwk hw 80 rfl)) (notFace_of_selects (args := #[]) (mvT hZ (hwk hw 82 rfl))) (mvT hZ (hwk hw 82 rfl)) (mvT hZ (hwk hw 81 rfl)) (by decide) (backOf (W := 0) (rm15 l Z a0 hw [] s1 t1 k1 m1 X1 b102 tb_104 kt_104 (0 : Int32) ([(.int (0 : Int32)), (.int (0 : Int32)), (.int (0 : Int32)), (.int (0 : Int32)), (.int (0 : Int32)), (.int (0 : Int32)), (.int (0 : Int32)), (.int (0 : Int32)), (.int (0 : Int32)), (.int (0 : Int32)), (.int (0 : Int32)), (.int (0 : Int32)), (.int (0 : Int32)), (.int (0 : Int32)), (.int (0 : Int32)), (.int (0 : Int32))]) zc T104.heap n0 O110 c105 c106 c107 c108 c109 g_b102 g_tb_104 (Exa.neArv c109 f104_3 (hwk hw 62 rfl)) f104_0 f104_1 f104_2 f104_3 (own_ko m1 m2 h1 h2).1 q1 rfl SZ PZ) hZ (hwk hw 83 rfl) (hwk hw 63 rfl) (by decide) (by decide)) q111a q111c (g := (mkF m 19 #[.val (.ref s1), .val (.ref s2)] [(.ref s1), (.ref b102)])) rfl (by rw [hml]; rfl) (Steps.refl _) (argsL := [(.ref s1)]) (rest := []) (lenOf pd_21 rfl) rfl (by show 2 * 0 + _ ≤ _; exact Nat.le_of_eq rfl) (hb hby d5_19) (fun _ _ => ⟨rfl, (rfl : T104.heap = T104.heap), (by decide : 2 + 0 ≤ _), (by decide : 20 + 0 ≤ _)⟩)
  dsimp only [Pt.U, Pt.locs, Pt.cells, Pt.slots] at X111 l111 y111 z111 st111 hQ111
  subst l111 y111 z111
  unfold Q_rm15 at hQ111
  obtain ⟨rfl, N111q, K111, f111_0, f111_1, f111_2, f111_3, f111_4⟩ := hQ111
  have N111 := Fr.app N104 N111q
  have CR112 : CHr Z consts_1 s.vm h0 s.vm h102 := CHr.trans CR0 (CHr.ext E102 CR0.1)
  have Sf113 : Safe Z consts_1 s.vm h102 b102 := Safe.exa (hZ).alike A102 (by decide) (by decide)
  have CR114 : CHr Z consts_1 s.vm h0 s.vm T104.heap := CHr.trans CR112 (CHr.keep K104 (allS Sf113 all0) CR112.1)
  have Sf115 : Safe Z consts_1 s.vm h102 tb_104 := Safe.new ge_tb_104
  have Sf116 : Safe Z consts_1 s.vm T104.heap tb_104 := (Safe.keep K104 (allS Sf113 all0) CR112.1 Sf115)
  have Sf117 : Safe Z consts_1 s.vm T104.heap b102 := Safe.exa (hZ).alike c109 (by decide) (by decide)
  have CR118 : CHr Z consts_1 s.vm h0 s.vm T111.heap := CHr.trans CR114 (CHr.keep K111 (allS Sf117 (allS Sf116 all0)) CR114.1)
  obtain ⟨a119, T119, h119, k119, b119, kc119, X119, e119, E119, hS119, hk119, hZ119, hown119, Ex119, Fc119, Fv119, Av119, la119, lb119, CX119, Lt119, Sn119, st119⟩ := ldcCH X111 hx hZ hown (hwk hw 117 rfl) hstr (rfl : T111.heap = T111.heap) hS0 (Nat.le_trans (Nat.le_refl _) (Nat.le_trans (Nat.le_trans (Nat.le_trans (Nat.le_refl _) E102.1) K104.1) K111.1)) hEL (by decide) CR118.1 (vs := [(.int (46 : Int32))]) (z := (1 : Int32)) ⟨by decide, by decide⟩ (by decide) rfl (g := (mkF m 22 #[.val (.ref s1), .val (.ref s2)] [(.ref b102)])) rfl (hb hby d5_22) (n := 4) (by decide) (by decide) (by decide) (by decide)
  have c120 : Exa Z h119 b102 "java/lang/StringBuilder" := (Exa.ext E119 (Exa.keep c109 K111))
  have c121 : Fld Z h119 b102 "java/lang/AbstractStringBuilder" "value" "[B" (.ref tb_104) := (Fld.ext E119 f111_0)
  have c122 : Fld Z h119 b102 "java/lang/AbstractStringBuilder" "coder" "B" (.int (0 : Int32)) := (Fld.ext E119 f111_1)
  have c123 : Fld Z h119 b102 "java/lang/AbstractStringBuilder" "count" "I" (.int ((0 : Int32) + m1)) := (Fld.ext E119 f111_2)
  have c124 : Arv Z h119 tb_104 kt_104 .byte (16 : Int32) (APP (0 : Int32) [(.int (0 : Int32)), (.int (0 : Int32)), (.int (0 : Int32)), (.int (0 : Int32)), (.int (0 : Int32)), (.int (0 : Int32)), (.int (0 : Int32)), (.int (0 : Int32)), (.int (0 : Int32)), (.int (0 : Int32)), (.int (0 : Int32)), (.int (0 : Int32)), (.int (0 : Int32)), (.int (0 : Int32)), (.int (0 : Int32)), (.int (0 : Int32))] m1 X1) (.int (0 : Int32)) := (f111_3.ext E119)
  have O125 : Old Z n0 T111.heap := Old.keep O110 K111 (allS g_b102 (allS g_tb_104 all0))
  have O126 : Old Z n0 h119 := Old.ext O125 E119
  obtain ⟨cq127, kq127, q127a, q127b, q127c⟩ := isOf hZ119 e119 c120
  obtain ⟨_, _, ⟨T127, L127, k127, n127⟩, -, X127, ⟨Lc127, hQ127, l127, y127, z127⟩, st127⟩ := X119.virtualBack hx (y := (⟨"java/lang/StringBuilder", "append", "(Ljava/lang/String;)Ljava/lang/StringBuilder;"⟩ : MethodName)) (z := (⟨"java/lang/StringBuilder", "append", "(Ljava/lang/String;)Ljava/lang/StringBuilder;"⟩ : MethodName)) hown119 (mvT hZ119 (hwk hw 79 rfl)) (mvT hZ119 (hwk hw 80 rfl)) (notFace_of_selects (args := #[]) (mvT hZ119 (hwk hw 82 rfl))) (mvT hZ119 (hwk hw 82 rfl)) (mvT hZ119 (hwk hw 81 rfl)) (by decide) (backOf (W := 0) (rm15 l Z a0 hw [] a119 b119 kc119 (1 : Int32) ([(.int (46 : Int32))]) b102 tb_104 kt_104 ((0 : Int32) + m1) (APP (0 : Int32) [(.int (0 : Int32)), (.int (0 : Int32)), (.int (0 : Int32)), (.int (0 : Int32)), (.int (0 : Int32)), (.int (0 : Int32)), (.int (0 : Int32)), (.int (0 : Int32)), (.int (0 : Int32)), (.int (0 : Int32)), (.int (0 : Int32)), (.int (0 : Int32)), (.int (0 : Int32)), (.int (0 : Int32)), (.int (0 : Int32)), (.int (0 : Int32))] m1 X1) zc h119 n0 O126 Ex119 Fv119 Fc119 Av119 c120 g_b102 g_tb_104 (Nat.ne_of_lt (Nat.lt_of_lt_of_le (A102).lt ge_tb_104)) c121 c122 c123 c124 (own_ko m1 m2 h1 h2).2.1 rfl f111_4 SZ PZ) hZ119 (hwk hw 83 rfl) (hwk hw 63 rfl) (by decide) (by decide)) q127a q127c (g := (mkF m 24 #[.val (.ref s1), .val (.ref s2)] [(.ref a119), (.ref b102)])) rfl (by rw [hml]; rfl) (Steps.refl _) (argsL := [(.ref a119)]) (rest := []) (lenOf pd_21 rfl) rfl (by show 2 * 0 + _ ≤ _; exact Nat.le_of_eq rfl) (hb hby d5_24) (fun _ _ => ⟨rfl, e119, (by decide : 4 + 0 ≤ _), (by decide : 28 + 0 ≤ _)⟩)
  dsimp only [Pt.U, Pt.locs, Pt.cells, Pt.slots] at X127 l127 y127 z127 st127 hQ127
  subst l127 y127 z127
  unfold Q_rm15 at hQ127
  obtain ⟨rfl, N127q, K127, f127_0, f127_1, f127_2, f127_3, f127_4⟩ := hQ127
  have N127 := Fr.app N111 N127q
  have c128 : Exa Z T127.heap s2 "java/lang/String" := (Exa.keep (Exa.ext E119 (Exa.keep (Exa.keep (Exa.ext E102 E2) K104) K111)) K127)
  have c129 : Fld Z T127.heap s2 "java/lang/String" "value" "[B" (.ref t2) := (Fld.keep (Fld.ext E119 (Fld.keep (Fld.keep (Fld.ext E102 V2) K104 (ninS (Nat.ne_of_lt (Nat.lt_of_lt_of_le (E2).lt (Nat.le_of_eq g102.symm))) nin0)) K111 (ninS (Nat.ne_of_lt (Nat.lt_of_lt_of_le (E2).lt (Nat.le_of_eq g102.symm))) (ninS (Exa.neArv c128 f127_3 (hwk hw 5 rfl)) nin0)))) K127 (ninS (Nat.ne_of_lt (Nat.lt_of_lt_of_le (E2).lt (Nat.le_of_eq g102.symm))) (ninS (Exa.neArv c128 f127_3 (hwk hw 5 rfl)) nin0)))
  have c130 : Fld Z T127.heap s2 "java/lang/String" "coder" "B" (.int (0 : Int32)) := (Fld.keep (Fld.ext E119 (Fld.keep (Fld.keep (Fld.ext E102 C2) K104 (ninS (Nat.ne_of_lt (Nat.lt_of_lt_of_le (E2).lt (Nat.le_of_eq g102.symm))) nin0)) K111 (ninS (Nat.ne_of_lt (Nat.lt_of_lt_of_le (E2).lt (Nat.le_of_eq g102.symm))) (ninS (Exa.neArv c128 f127_3 (hwk hw 5 rfl)) nin0)))) K127 (ninS (Nat.ne_of_lt (Nat.lt_of_lt_of_le (E2).lt (Nat.le_of_eq g102.symm))) (ninS (Exa.neArv c128 f127_3 (hwk hw 5 rfl)) nin0)))
  have c131 : Arv Z h102 t2 k2 .byte m2 X2 (.int (0 : Int32)) := (A2.ext E102)
  have c132 : Arv Z T127.heap t2 k2 .byte m2 X2 (.int (0 : Int32)) := (Arv.keep ((Arv.keep (Arv.keep (A2.ext E102) K104 (ninS (Nat.ne_of_lt (Nat.lt_of_lt_of_le (A2).lt (Nat.le_of_eq g102.symm))) nin0)) K111 (ninS (Ne.symm (Exa.neArv A102 c131 (hwk hw 62 rfl))) (ninS (Nat.ne_of_lt (Nat.lt_of_lt_of_le (c131).lt ge_tb_104)) nin0))).ext E119) K127 (ninS (Ne.symm (Exa.neArv A102 c131 (hwk hw 62 rfl))) (ninS (Nat.ne_of_lt (Nat.lt_of_lt_of_le (c131).lt ge_tb_104)) nin0)))
  have c133 : Exa Z T127.heap b102 "java/lang/StringBuilder" := (Exa.keep c120 K127)
  have O134 : Old Z n0 T127.heap := Old.keep O126 K127 (allS g_b102 (allS g_tb_104 all0))
  obtain ⟨cq135, kq135, q135a, q135b, q135c⟩ := isOf hZ119 (rfl : T127.heap = T127.heap) c133
  obtain ⟨_, _, ⟨T135, L135, k135, n135⟩, -, X135, ⟨Lc135, hQ135, l135, y135, z135⟩, st135⟩ := X127.virtualBack hx (y := (⟨"java/lang/StringBuilder", "append", "(Ljava/lang/String;)Ljava/lang/StringBuilder;"⟩ : MethodName)) (z := (⟨"java/lang/StringBuilder", "append", "(Ljava/lang/String;)Ljava/lang/StringBuilder;"⟩ : MethodName)) hown119 (mvT hZ119 (hwk hw 79 rfl)) (mvT hZ119 (hwk hw 80 rfl)) (notFace_of_selects (args := #[]) (mvT hZ119 (hwk hw 82 rfl))) (mvT hZ119 (hwk hw 82 rfl)) (mvT hZ119 (hwk hw 81 rfl)) (by decide) (backOf (W := 0) (rm15 l Z a0 hw [] s2 t2 k2 m2 X2 b102 tb_104 kt_104 (((0 : Int32) + m1) + (1 : Int32)) (APP ((0 : Int32) + m1) (APP (0 : Int32) [(.int (0 : Int32)), (.int (0 : Int32)), (.int (0 : Int32)), (.int (0 : Int32)), (.int (0 : Int32)), (.int (0 : Int32)), (.int (0 : Int32)), (.int (0 : Int32)), (.int (0 : Int32)), (.int (0 : Int32)), (.int (0 : Int32)), (.int (0 : Int32)), (.int (0 : Int32)), (.int (0 : Int32)), (.int (0 : Int32)), (.int (0 : Int32))] m1 X1) (1 : Int32) [(.int (46 : Int32))]) zc T127.heap n0 O134 c128 c129 c130 c132 c133 g_b102 g_tb_104 (Exa.neArv c133 f127_3 (hwk hw 62 rfl)) f127_0 f127_1 f127_2 f127_3 (own_ko m1 m2 h1 h2).2.2.1 q2 f127_4 SZ PZ) hZ119 (hwk hw 83 rfl) (hwk hw 63 rfl) (by decide) (by decide)) q135a q135c (g := (mkF m 28 #[.val (.ref s1), .val (.ref s2)] [(.ref s2), (.ref b102)])) rfl (by rw [hml]; rfl) (Steps.refl _) (argsL := [(.ref s2)]) (rest := []) (lenOf pd_21 rfl) rfl (by show 2 * 0 + _ ≤ _; exact Nat.le_of_eq rfl) (hb hby d5_28) (fun _ _ => ⟨rfl, (rfl : T127.heap = T127.heap), (by decide : 4 + 0 ≤ _), (by decide : 28 + 0 ≤ _)⟩)
  dsimp only [Pt.U, Pt.locs, Pt.cells, Pt.slots] at X135 l135 y135 z135 st135 hQ135
  subst l135 y135 z135
  unfold Q_rm15 at hQ135
  obtain ⟨rfl, N135q, K135, f135_0, f135_1, f135_2, f135_3, f135_4⟩ := hQ135
  have N135 := Fr.app N127 N135q
  have c136 : Exa Z T135.heap b102 "java/lang/StringBuilder" := (Exa.keep c133 K135)
  have O137 : Old Z n0 T135.heap := Old.keep O134 K135 (allS g_b102 (allS g_tb_104 all0))
  obtain ⟨cq138, kq138, q138a, q138b, q138c⟩ := isOf hZ119 (rfl : T135.heap = T135.heap) c136
  obtain ⟨_, _, ⟨T138, L138, k138, n138⟩, -, X138, ⟨Lc138, hQ138, l138, y138, z138⟩, st138⟩ := X135.virtualBack hx (y := (⟨"java/lang/StringBuilder", "toString", "()Ljava/lang/String;"⟩ : MethodName)) (z := (⟨"java/lang/StringBuilder", "toString", "()Ljava/lang/String;"⟩ : MethodName)) hown119 (mvT hZ119 (hwk hw 118 rfl)) (mvT hZ119 (hwk hw 119 rfl)) (notFace_of_selects (args := #[]) (mvT hZ119 (hwk hw 121 rfl))) (mvT hZ119 (hwk hw 121 rfl)) (mvT hZ119 (hwk hw 120 rfl)) (by decide) (backOf (W := 0) (rm21 l Z a0 hw [] b102 tb_104 kt_104 ((((0 : Int32) + m1) + (1 : Int32)) + m2) (APP (((0 : Int32) + m1) + (1 : Int32)) (APP ((0 : Int32) + m1) (APP (0 : Int32) [(.int (0 : Int32)), (.int (0 : Int32)), (.int (0 : Int32)), (.int (0 : Int32)), (.int (0 : Int32)), (.int (0 : Int32)), (.int (0 : Int32)), (.int (0 : Int32)), (.int (0 : Int32)), (.int (0 : Int32)), (.int (0 : Int32)), (.int (0 : Int32)), (.int (0 : Int32)), (.int (0 : Int32)), (.int (0 : Int32)), (.int (0 : Int32))] m1 X1) (1 : Int32) [(.int (46 : Int32))]) m2 X2) zc T135.heap n0 O137 c136 f135_0 f135_1 f135_2 f135_3 (own_ko m1 m2 h1 h2).2.2.2.1 (own_ko m1 m2 h1 h2).2.2.2.2 f135_4 SZ PZ) hZ119 (hwk hw 122 rfl) (hwk hw 63 rfl) (by decide) (by decide)) q138a q138c (g := (mkF m 31 #[.val (.ref s1), .val (.ref s2)] [(.ref b102)])) rfl (by rw [hml]; rfl) (Steps.refl _) (argsL := []) (rest := []) (lenOf pd_22 rfl) rfl (by show 2 * 0 + _ ≤ _; exact Nat.le_of_eq rfl) (hb hby d5_31) (fun _ _ => ⟨rfl, (rfl : T135.heap = T135.heap), (by decide : 4 + 2 ≤ _), (by decide : 28 + 20 ≤ _)⟩)
  dsimp only [Pt.U, Pt.locs, Pt.cells, Pt.slots] at X138 l138 y138 z138 st138 hQ138
  subst l138 y138 z138
  unfold Q_rm21 at hQ138
  obtain ⟨o_138, t_138, kb_138, rfl, N138q, K138, ge_o_138, f138_0, f138_1, f138_2, f138_3⟩ := hQ138
  have N138 := Fr.app N135 N138q
  have g_o_138 : n0 ≤ o_138 := Nat.le_trans (old_le O137) ge_o_138
  have K139 : Keep h0 h102 [] := Keep.ext (Keep.refl h0 []) E102
  have K140 : Keep h0 T104.heap [] := Keep.trans K139 K104 (allS (Or.inr (Nat.le_trans (Nat.le_refl _) (Nat.le_of_eq g102.symm))) all0)
  have K141 : Keep h0 T111.heap [] := Keep.trans K140 K111 (allS (Or.inr (Nat.le_trans (Nat.le_refl _) (Nat.le_of_eq g102.symm))) (allS (Or.inr (Nat.le_trans (Nat.le_trans (Nat.le_refl _) E102.1) ge_tb_104)) all0))
  have K142 : Keep h0 h119 [] := Keep.ext K141 E119
  have K143 : Keep h0 T127.heap [] := Keep.trans K142 K127 (allS (Or.inr (Nat.le_trans (Nat.le_refl _) (Nat.le_of_eq g102.symm))) (allS (Or.inr (Nat.le_trans (Nat.le_trans (Nat.le_refl _) E102.1) ge_tb_104)) all0))
  have K144 : Keep h0 T135.heap [] := Keep.trans K143 K135 (allS (Or.inr (Nat.le_trans (Nat.le_refl _) (Nat.le_of_eq g102.symm))) (allS (Or.inr (Nat.le_trans (Nat.le_trans (Nat.le_refl _) E102.1) ge_tb_104)) all0))
  have K145 : Keep h0 T138.heap [] := Keep.trans K144 K138 all0
  have CR146 : CHr Z consts_1 s.vm h0 T119.vm h119 := CHr.trans CR118 CX119
  have Sf147 : Safe Z consts_1 T119.vm h119 tb_104 := (CHr.safe CX119 (Nat.lt_of_lt_of_le (f104_3).lt (Nat.le_trans (Nat.le_refl _) K111.1)) (Safe.keep K111 (allS Sf117 (allS Sf116 all0)) CR114.1 Sf116))
  have Sf148 : Safe Z consts_1 T119.vm h119 b102 := Safe.exa (hZ119).alike c120 (by decide) (by decide)
  have CR149 : CHr Z consts_1 s.vm h0 T119.vm T127.heap := CHr.trans CR146 (CHr.keep K127 (allS Sf148 (allS Sf147 all0)) CR146.1)
  have Sf150 : Safe Z consts_1 T119.vm T127.heap tb_104 := (Safe.keep K127 (allS Sf148 (allS Sf147 all0)) CR146.1 Sf147)
  have Sf151 : Safe Z consts_1 T119.vm T127.heap b102 := Safe.exa (hZ119).alike c133 (by decide) (by decide)
  have CR152 : CHr Z consts_1 s.vm h0 T119.vm T135.heap := CHr.trans CR149 (CHr.keep K135 (allS Sf151 (allS Sf150 all0)) CR149.1)
  have CR153 : CHr Z consts_1 s.vm h0 T119.vm T138.heap := CHr.trans CR152 (CHr.keep K138 all0 CR152.1)
  obtain ⟨fs, hr, hrun, hended, hRE⟩ := X138.leaveW hS119 (show _ ≤ T138.heap.size from by rw [(rfl : T138.heap = T138.heap)]; exact (Nat.le_trans hk119 (Nat.le_trans (Nat.le_trans (Nat.le_trans (Nat.le_refl _) K127.1) K135.1) K138.1))) (v := some (.ref o_138)) (fun h => by rw [Bd.returns] at h; cases h)
  have CRl : CHr Z consts_1 s.vm s.heap (T138.setFrames fs).vm (T138.setFrames fs).heap := by
    have q := CHr.trans CR153 (CHv.at X138 hZ119 hEL CR153.1)
    rw [← hh, ← (rfl : T138.heap = T138.heap)] at q
    exact q
  refine ⟨_, _, pre0 _ ?_, hrun, hended, _, _, rfl, ?_, CRl, hRE.1, hRE.2.1, hRE.2.2.1, hRE.2.2.2.mono (by decide) (by decide)⟩
  · show Steps p.tables e below (s₁.setTop (mkF m 0 #[.val (.ref s1), .val (.ref s2)] [])) _
    refine XS.aloadN X0.here hx rfl (hb hby d5_0) rfl rfl ?_
    show Steps p.tables e below (s₁.setTop (mkF m 1 #[.val (.ref s1), .val (.ref s2)] [(.ref s1)])) _
    refine st101.trans ?_
    show Steps p.tables e below (T101.setTop (mkF m 4 #[.val (.ref s1), .val (.ref s2)] [(.int (0 : Int32))])) _
    refine XS.ifYes X101.here hx rfl (pc0 := 4) (pc' := 11) rfl (hb hby d5_4) rfl ((if0 _ _).trans (teq (by decide : (0 : Int32) = (0 : Int32))).1) (by decide) (by decide) ?_
    show Steps p.tables e below (T101.setTop (mkF m 11 #[.val (.ref s1), .val (.ref s2)] [])) _
    refine st102 _ ?_
    show Steps p.tables e below (T102.setTop (mkF m 14 #[.val (.ref s1), .val (.ref s2)] [(.ref b102)])) _
    refine XS.dup X102.here hx rfl (hb hby d5_14) rfl rfl ?_
    show Steps p.tables e below (T102.setTop (mkF m 15 #[.val (.ref s1), .val (.ref s2)] [(.ref b102), (.ref b102)])) _
    refine st104.trans ?_
    show Steps p.tables e below (T104.setTop (mkF m 18 #[.val (.ref s1), .val (.ref s2)] [(.ref b102)])) _
    refine XS.aloadN X104.here hx rfl (hb hby d5_18) rfl rfl ?_
    show Steps p.tables e below (T104.setTop (mkF m 19 #[.val (.ref s1), .val (.ref s2)] [(.ref s1), (.ref b102)])) _
    refine st111.trans ?_
    show Steps p.tables e below (T111.setTop (mkF m 22 #[.val (.ref s1), .val (.ref s2)] [(.ref b102)])) _
    refine st119 _ ?_
    show Steps p.tables e below (T119.setTop (mkF m 24 #[.val (.ref s1), .val (.ref s2)] [(.ref a119), (.ref b102)])) _
    refine st127.trans ?_
    show Steps p.tables e below (T127.setTop (mkF m 27 #[.val (.ref s1), .val (.ref s2)] [(.ref b102)])) _
    refine XS.aloadN X127.here hx rfl (hb hby d5_27) rfl rfl ?_
    show Steps p.tables e below (T127.setTop (mkF m 28 #[.val (.ref s1), .val (.ref s2)] [(.ref s2), (.ref b102)])) _
    refine st135.trans ?_
    show Steps p.tables e below (T135.setTop (mkF m 31 #[.val (.ref s1), .val (.ref s2)] [(.ref b102)])) _
    refine st138.trans ?_
    show Steps p.tables e below (T138.setTop (mkF m 34 #[.val (.ref s1), .val (.ref s2)] [(.ref o_138)])) _
    exact Jvm.RoadKit.retOut X138 hx Bd.returns rfl (Or.inr (Or.inr (Or.inr (Or.inr ⟨rfl, rfl, rfl⟩)))) (hb hby d5_34) hr
  · show Q_kp1 Z s1 t1 k1 m1 X1 s2 t2 k2 m2 X2 zc h0 n0 _ T138.heap _
    unfold Q_kp1
    exact ⟨o_138, t_138, kb_138, rfl, N138, K145, (Nat.le_trans (Nat.le_trans (Nat.le_trans (Nat.le_trans (Nat.le_trans (Nat.le_trans (Nat.le_trans (Nat.le_refl _) E102.1) K104.1) K111.1) E119.1) K127.1) K135.1) ge_o_138), f138_0, f138_1, f138_2, f138_3⟩
theorem ef_ex01 (m : MethodId) (x0 : Int32) (x1 : Int32) (x2 : Int32) (x3 : Int32) (x4 : Int32) (x5 : Int32) : entryFrame m #[(.int x0), (.int x1), (.int x2), (.int x3), (.int x4), (.int x5)] 7 = mkF m 0 #[.val (.int x0), .val (.int x1), .val (.int x2), .val (.int x3), .val (.int x4), .val (.int x5), .unset] [] := by first | (simp [entryFrame, mkF, argsToLocals, Value.category]; done) | rfl
def Q_ex01 (Z : State) (q2 : Int32) (q3 : Int32) (q4 : Int32) (q5 : Int32) (h0 : Heap) (n0 : Nat) (v : Option Value) (h : Heap) (L : List Loc) : Prop := (v = some (.int q2)) ∧ (Fr n0 L) ∧ (h = h0)
theorem d37_0 : decode method_3_code 0 = .ok (.iload_n 0, 1) := by decide +kernel
theorem d37_1 : decode method_3_code 1 = .ok (.iload_n 1, 1) := by decide +kernel
theorem d37_2 : decode method_3_code 2 = .ok (.if_icmp .ge 13, 3) := by decide +kernel
theorem d37_5 : decode method_3_code 5 = .ok (.iload_n 0, 1) := by decide +kernel
theorem d37_6 : decode method_3_code 6 = .ok (.ifCond .ne 7, 3) := by decide +kernel
theorem d37_9 : decode method_3_code 9 = .ok (.iload_n 2, 1) := by decide +kernel
theorem d37_10 : decode method_3_code 10 = .ok (.goto 4, 3) := by decide +kernel
theorem d37_14 : decode method_3_code 14 = .ok (.ireturn, 1) := by decide +kernel
set_option maxRecDepth 65536 in
set_option maxHeartbeats 40000000 in
theorem ex01 (l : Launch) (Z : State) (a0 : Array Value) (hw : ∀ d ∈ tables_1, d.before a0 Z = true) (ws : List Jvm.Cond) (q2 : Int32) (q3 : Int32) (q4 : Int32) (q5 : Int32) (h0 : Heap) (n0 : Nat) (O0 : Old Z n0 h0) (g2 : C8 q2) (g3 : C8 q3) (g4 : C8 q4) (g5 : C8 q5) :
    MetFree l (⟨"com/example/syndex/syndex/SectionKeyPathPinLaw", "exp", "(IICCCC)C"⟩ : MethodName) (head1 (Jvm.Cond.code (⟨"com/example/syndex/syndex/SectionKeyPathPinLaw", "exp", "(IICCCC)C"⟩ : MethodName) method_3_code 7 (some .char) :: ws) ({ frames := 0, cells := 0, slots := 0, locals := 0 } : Room)) (fun a U => a = #[(.int (0 : Int32)), (.int (1 : Int32)), (.int q2), (.int q3), (.int q4), (.int q5)] ∧ Z.Warmed39 U.vm ∧ U.heap = h0) (fun _ _ _ _ _ => True) (fun _ U o U' => ∃ v L, o = .returned v ∧ Q_ex01 Z q2 q3 q4 q5 h0 n0 v U'.heap L ∧ FrameEnd U o U' L ({ frames := 0, cells := 0, slots := 0, locals := 0 } : Room).cells ({ frames := 0, cells := 0, slots := 0, locals := 0 } : Room).slots) := by
  refine MetFree.of_bodySF (plainFor_of_name pn_2) hisR ?_
  intro p e s m args below meth c s₁ Bd hml0 hP hK
  obtain ⟨rfl, hZ, hh⟩ := hP
  have hx := Bd.exec
  have hby := Bd.bytes
  have hml : c.maxLocals = 7 := hml0
  have hown : s.vm.findClass "com/example/syndex/syndex/SectionKeyPathPinLaw" = some m.cls := findClass_of_methodNamed Bd.named
  have hnm := (name_of_methodNamed Bd.named Bd.method).1
  have X0 : Stand p l e ({ frames := 0, cells := 0, slots := 0, locals := 0 } : Room) s m #[(.int (0 : Int32)), (.int (1 : Int32)), (.int q2), (.int q3), (.int q4), (.int q5)] below meth c s₁ [] 0 0 := Stand.of_body Bd
  have e0 : s₁.heap = h0 := by rw [← hh, Bd.state]; rfl
  have N0 := Fr.nil n0
  have Z0 : n0 ≤ h0.size := old_le O0
  have pre0 : ∀ t, Steps p.tables e below (s₁.setTop (mkF m 0 #[.val (.int (0 : Int32)), .val (.int (1 : Int32)), .val (.int q2), .val (.int q3), .val (.int q4), .val (.int q5), .unset] [])) t → Steps p.tables e below (s₁.setTop (entryFrame m #[(.int (0 : Int32)), (.int (1 : Int32)), (.int q2), (.int q3), (.int q4), (.int q5)] 7)) t := fun t k => castTop (ef_ex01 m (0 : Int32) (1 : Int32) q2 q3 q4 q5) k
  obtain ⟨fs, hr, hrun, hended, hW, hsame⟩ := X0.leave (v := some (.int q2)) (fun h => by rw [Bd.returns] at h; cases h)
  refine ⟨_, _, pre0 _ ?_, hrun, hended, _, _, rfl, ?_, ⟨_, rfl⟩, hW, hsame.mono (by decide) (by decide)⟩
  · show Steps p.tables e below (s₁.setTop (mkF m 0 #[.val (.int (0 : Int32)), .val (.int (1 : Int32)), .val (.int q2), .val (.int q3), .val (.int q4), .val (.int q5), .unset] [])) _
    refine XS.iloadN X0.here hx rfl (hb hby d37_0) rfl ?_
    refine XS.iloadN X0.here hx rfl (hb hby d37_1) rfl ?_
    refine XS.icmpNo X0.here hx rfl (hb hby d37_2) rfl (tlt (by decide : (0 : Int32) < (1 : Int32))).2.1 ?_
    show Steps p.tables e below (s₁.setTop (mkF m 5 #[.val (.int (0 : Int32)), .val (.int (1 : Int32)), .val (.int q2), .val (.int q3), .val (.int q4), .val (.int q5), .unset] [])) _
    refine XS.iloadN X0.here hx rfl (hb hby d37_5) rfl ?_
    refine XS.ifNo X0.here hx rfl (hb hby d37_6) rfl ((if0 _ _).trans (teq (by decide : (0 : Int32) = (0 : Int32))).2) ?_
    show Steps p.tables e below (s₁.setTop (mkF m 9 #[.val (.int (0 : Int32)), .val (.int (1 : Int32)), .val (.int q2), .val (.int q3), .val (.int q4), .val (.int q5), .unset] [])) _
    refine XS.iloadN X0.here hx rfl (hb hby d37_9) rfl ?_
    refine XS.goto X0.here hx rfl (pc0 := 10) (pc' := 14) rfl (hb hby d37_10) (by decide) (by decide) ?_
    show Steps p.tables e below (s₁.setTop (mkF m 14 #[.val (.int (0 : Int32)), .val (.int (1 : Int32)), .val (.int q2), .val (.int q3), .val (.int q4), .val (.int q5), .unset] [(.int q2)])) _
    exact Jvm.RoadKit.retOut X0 hx Bd.returns (own_narC g2) (Or.inl ⟨rfl, by simp, _, rfl⟩) (hb hby d37_14) hr
  · show Q_ex01 Z q2 q3 q4 q5 h0 n0 _ s₁.heap _
    rw [e0]
    unfold Q_ex01
    exact ⟨rfl, N0, rfl⟩
theorem ef_ex11 (m : MethodId) (x0 : Int32) (x1 : Int32) (x2 : Int32) (x3 : Int32) (x4 : Int32) (x5 : Int32) : entryFrame m #[(.int x0), (.int x1), (.int x2), (.int x3), (.int x4), (.int x5)] 7 = mkF m 0 #[.val (.int x0), .val (.int x1), .val (.int x2), .val (.int x3), .val (.int x4), .val (.int x5), .unset] [] := by first | (simp [entryFrame, mkF, argsToLocals, Value.category]; done) | rfl
def Q_ex11 (Z : State) (q2 : Int32) (q3 : Int32) (q4 : Int32) (q5 : Int32) (h0 : Heap) (n0 : Nat) (v : Option Value) (h : Heap) (L : List Loc) : Prop := (v = some (.int (46 : Int32))) ∧ (Fr n0 L) ∧ (h = h0)
theorem d37_15 : decode method_3_code 15 = .ok (.iload_n 0, 1) := by decide +kernel
theorem d37_16 : decode method_3_code 16 = .ok (.iload_n 1, 1) := by decide +kernel
theorem d37_17 : decode method_3_code 17 = .ok (.if_icmp .ne 6, 3) := by decide +kernel
theorem d37_20 : decode method_3_code 20 = .ok (.bipush 46, 2) := by decide +kernel
theorem d37_22 : decode method_3_code 22 = .ok (.ireturn, 1) := by decide +kernel
set_option maxRecDepth 65536 in
set_option maxHeartbeats 40000000 in
theorem ex11 (l : Launch) (Z : State) (a0 : Array Value) (hw : ∀ d ∈ tables_1, d.before a0 Z = true) (ws : List Jvm.Cond) (q2 : Int32) (q3 : Int32) (q4 : Int32) (q5 : Int32) (h0 : Heap) (n0 : Nat) (O0 : Old Z n0 h0) (g2 : C8 q2) (g3 : C8 q3) (g4 : C8 q4) (g5 : C8 q5) :
    MetFree l (⟨"com/example/syndex/syndex/SectionKeyPathPinLaw", "exp", "(IICCCC)C"⟩ : MethodName) (head1 (Jvm.Cond.code (⟨"com/example/syndex/syndex/SectionKeyPathPinLaw", "exp", "(IICCCC)C"⟩ : MethodName) method_3_code 7 (some .char) :: ws) ({ frames := 0, cells := 0, slots := 0, locals := 0 } : Room)) (fun a U => a = #[(.int (1 : Int32)), (.int (1 : Int32)), (.int q2), (.int q3), (.int q4), (.int q5)] ∧ Z.Warmed39 U.vm ∧ U.heap = h0) (fun _ _ _ _ _ => True) (fun _ U o U' => ∃ v L, o = .returned v ∧ Q_ex11 Z q2 q3 q4 q5 h0 n0 v U'.heap L ∧ FrameEnd U o U' L ({ frames := 0, cells := 0, slots := 0, locals := 0 } : Room).cells ({ frames := 0, cells := 0, slots := 0, locals := 0 } : Room).slots) := by
  refine MetFree.of_bodySF (plainFor_of_name pn_2) hisR ?_
  intro p e s m args below meth c s₁ Bd hml0 hP hK
  obtain ⟨rfl, hZ, hh⟩ := hP
  have hx := Bd.exec
  have hby := Bd.bytes
  have hml : c.maxLocals = 7 := hml0
  have hown : s.vm.findClass "com/example/syndex/syndex/SectionKeyPathPinLaw" = some m.cls := findClass_of_methodNamed Bd.named
  have hnm := (name_of_methodNamed Bd.named Bd.method).1
  have X0 : Stand p l e ({ frames := 0, cells := 0, slots := 0, locals := 0 } : Room) s m #[(.int (1 : Int32)), (.int (1 : Int32)), (.int q2), (.int q3), (.int q4), (.int q5)] below meth c s₁ [] 0 0 := Stand.of_body Bd
  have e0 : s₁.heap = h0 := by rw [← hh, Bd.state]; rfl
  have N0 := Fr.nil n0
  have Z0 : n0 ≤ h0.size := old_le O0
  have pre0 : ∀ t, Steps p.tables e below (s₁.setTop (mkF m 0 #[.val (.int (1 : Int32)), .val (.int (1 : Int32)), .val (.int q2), .val (.int q3), .val (.int q4), .val (.int q5), .unset] [])) t → Steps p.tables e below (s₁.setTop (entryFrame m #[(.int (1 : Int32)), (.int (1 : Int32)), (.int q2), (.int q3), (.int q4), (.int q5)] 7)) t := fun t k => castTop (ef_ex11 m (1 : Int32) (1 : Int32) q2 q3 q4 q5) k
  obtain ⟨fs, hr, hrun, hended, hW, hsame⟩ := X0.leave (v := some (.int (46 : Int32))) (fun h => by rw [Bd.returns] at h; cases h)
  refine ⟨_, _, pre0 _ ?_, hrun, hended, _, _, rfl, ?_, ⟨_, rfl⟩, hW, hsame.mono (by decide) (by decide)⟩
  · show Steps p.tables e below (s₁.setTop (mkF m 0 #[.val (.int (1 : Int32)), .val (.int (1 : Int32)), .val (.int q2), .val (.int q3), .val (.int q4), .val (.int q5), .unset] [])) _
    refine XS.iloadN X0.here hx rfl (hb hby d37_0) rfl ?_
    refine XS.iloadN X0.here hx rfl (hb hby d37_1) rfl ?_
    refine XS.icmpYes X0.here hx rfl (pc0 := 2) (pc' := 15) rfl (hb hby d37_2) rfl (flt (by decide : ¬ ((1 : Int32) < (1 : Int32)))).2.1 (by decide) (by decide) ?_
    show Steps p.tables e below (s₁.setTop (mkF m 15 #[.val (.int (1 : Int32)), .val (.int (1 : Int32)), .val (.int q2), .val (.int q3), .val (.int q4), .val (.int q5), .unset] [])) _
    refine XS.iloadN X0.here hx rfl (hb hby d37_15) rfl ?_
    refine XS.iloadN X0.here hx rfl (hb hby d37_16) rfl ?_
    refine XS.icmpNo X0.here hx rfl (hb hby d37_17) rfl (teq (by decide : (1 : Int32) = (1 : Int32))).2 ?_
    show Steps p.tables e below (s₁.setTop (mkF m 20 #[.val (.int (1 : Int32)), .val (.int (1 : Int32)), .val (.int q2), .val (.int q3), .val (.int q4), .val (.int q5), .unset] [])) _
    refine XS.bipush X0.here hx rfl (hb hby d37_20) ?_
    show Steps p.tables e below (s₁.setTop (mkF m 22 #[.val (.int (1 : Int32)), .val (.int (1 : Int32)), .val (.int q2), .val (.int q3), .val (.int q4), .val (.int q5), .unset] [(.int (46 : Int32))])) _
    exact Jvm.RoadKit.retOut X0 hx Bd.returns rfl (Or.inl ⟨rfl, by simp, _, rfl⟩) (hb hby d37_22) hr
  · show Q_ex11 Z q2 q3 q4 q5 h0 n0 _ s₁.heap _
    rw [e0]
    unfold Q_ex11
    exact ⟨rfl, N0, rfl⟩
theorem ef_ex21 (m : MethodId) (x0 : Int32) (x1 : Int32) (x2 : Int32) (x3 : Int32) (x4 : Int32) (x5 : Int32) : entryFrame m #[(.int x0), (.int x1), (.int x2), (.int x3), (.int x4), (.int x5)] 7 = mkF m 0 #[.val (.int x0), .val (.int x1), .val (.int x2), .val (.int x3), .val (.int x4), .val (.int x5), .unset] [] := by first | (simp [entryFrame, mkF, argsToLocals, Value.category]; done) | rfl
def Q_ex21 (Z : State) (q2 : Int32) (q3 : Int32) (q4 : Int32) (q5 : Int32) (h0 : Heap) (n0 : Nat) (v : Option Value) (h : Heap) (L : List Loc) : Prop := (v = some (.int q4)) ∧ (Fr n0 L) ∧ (h = h0)
theorem d37_23 : decode method_3_code 23 = .ok (.iload_n 0, 1) := by decide +kernel
theorem d37_24 : decode method_3_code 24 = .ok (.iload_n 1, 1) := by decide +kernel
theorem d37_25 : decode method_3_code 25 = .ok (.isub, 1) := by decide +kernel
theorem d37_26 : decode method_3_code 26 = .ok (.iconst 1, 1) := by decide +kernel
theorem d37_27 : decode method_3_code 27 = .ok (.isub, 1) := by decide +kernel
theorem d37_28 : decode method_3_code 28 = .ok (.istore 6, 2) := by decide +kernel
theorem d37_30 : decode method_3_code 30 = .ok (.iload 6, 2) := by decide +kernel
theorem d37_32 : decode method_3_code 32 = .ok (.ifCond .ne 8, 3) := by decide +kernel
theorem d37_35 : decode method_3_code 35 = .ok (.iload 4, 2) := by decide +kernel
theorem d37_37 : decode method_3_code 37 = .ok (.goto 5, 3) := by decide +kernel
theorem d37_42 : decode method_3_code 42 = .ok (.ireturn, 1) := by decide +kernel
set_option maxRecDepth 65536 in
set_option maxHeartbeats 40000000 in
theorem ex21 (l : Launch) (Z : State) (a0 : Array Value) (hw : ∀ d ∈ tables_1, d.before a0 Z = true) (ws : List Jvm.Cond) (q2 : Int32) (q3 : Int32) (q4 : Int32) (q5 : Int32) (h0 : Heap) (n0 : Nat) (O0 : Old Z n0 h0) (g2 : C8 q2) (g3 : C8 q3) (g4 : C8 q4) (g5 : C8 q5) :
    MetFree l (⟨"com/example/syndex/syndex/SectionKeyPathPinLaw", "exp", "(IICCCC)C"⟩ : MethodName) (head1 (Jvm.Cond.code (⟨"com/example/syndex/syndex/SectionKeyPathPinLaw", "exp", "(IICCCC)C"⟩ : MethodName) method_3_code 7 (some .char) :: ws) ({ frames := 0, cells := 0, slots := 0, locals := 0 } : Room)) (fun a U => a = #[(.int (2 : Int32)), (.int (1 : Int32)), (.int q2), (.int q3), (.int q4), (.int q5)] ∧ Z.Warmed39 U.vm ∧ U.heap = h0) (fun _ _ _ _ _ => True) (fun _ U o U' => ∃ v L, o = .returned v ∧ Q_ex21 Z q2 q3 q4 q5 h0 n0 v U'.heap L ∧ FrameEnd U o U' L ({ frames := 0, cells := 0, slots := 0, locals := 0 } : Room).cells ({ frames := 0, cells := 0, slots := 0, locals := 0 } : Room).slots) := by
  refine MetFree.of_bodySF (plainFor_of_name pn_2) hisR ?_
  intro p e s m args below meth c s₁ Bd hml0 hP hK
  obtain ⟨rfl, hZ, hh⟩ := hP
  have hx := Bd.exec
  have hby := Bd.bytes
  have hml : c.maxLocals = 7 := hml0
  have hown : s.vm.findClass "com/example/syndex/syndex/SectionKeyPathPinLaw" = some m.cls := findClass_of_methodNamed Bd.named
  have hnm := (name_of_methodNamed Bd.named Bd.method).1
  have X0 : Stand p l e ({ frames := 0, cells := 0, slots := 0, locals := 0 } : Room) s m #[(.int (2 : Int32)), (.int (1 : Int32)), (.int q2), (.int q3), (.int q4), (.int q5)] below meth c s₁ [] 0 0 := Stand.of_body Bd
  have e0 : s₁.heap = h0 := by rw [← hh, Bd.state]; rfl
  have N0 := Fr.nil n0
  have Z0 : n0 ≤ h0.size := old_le O0
  have pre0 : ∀ t, Steps p.tables e below (s₁.setTop (mkF m 0 #[.val (.int (2 : Int32)), .val (.int (1 : Int32)), .val (.int q2), .val (.int q3), .val (.int q4), .val (.int q5), .unset] [])) t → Steps p.tables e below (s₁.setTop (entryFrame m #[(.int (2 : Int32)), (.int (1 : Int32)), (.int q2), (.int q3), (.int q4), (.int q5)] 7)) t := fun t k => castTop (ef_ex21 m (2 : Int32) (1 : Int32) q2 q3 q4 q5) k
  obtain ⟨fs, hr, hrun, hended, hW, hsame⟩ := X0.leave (v := some (.int q4)) (fun h => by rw [Bd.returns] at h; cases h)
  refine ⟨_, _, pre0 _ ?_, hrun, hended, _, _, rfl, ?_, ⟨_, rfl⟩, hW, hsame.mono (by decide) (by decide)⟩
  · show Steps p.tables e below (s₁.setTop (mkF m 0 #[.val (.int (2 : Int32)), .val (.int (1 : Int32)), .val (.int q2), .val (.int q3), .val (.int q4), .val (.int q5), .unset] [])) _
    refine XS.iloadN X0.here hx rfl (hb hby d37_0) rfl ?_
    refine XS.iloadN X0.here hx rfl (hb hby d37_1) rfl ?_
    refine XS.icmpYes X0.here hx rfl (pc0 := 2) (pc' := 15) rfl (hb hby d37_2) rfl (flt (by decide : ¬ ((2 : Int32) < (1 : Int32)))).2.1 (by decide) (by decide) ?_
    show Steps p.tables e below (s₁.setTop (mkF m 15 #[.val (.int (2 : Int32)), .val (.int (1 : Int32)), .val (.int q2), .val (.int q3), .val (.int q4), .val (.int q5), .unset] [])) _
    refine XS.iloadN X0.here hx rfl (hb hby d37_15) rfl ?_
    refine XS.iloadN X0.here hx rfl (hb hby d37_16) rfl ?_
    refine XS.icmpYes X0.here hx rfl (pc0 := 17) (pc' := 23) rfl (hb hby d37_17) rfl (feq (by decide : ¬ ((2 : Int32) = (1 : Int32)))).2 (by decide) (by decide) ?_
    show Steps p.tables e below (s₁.setTop (mkF m 23 #[.val (.int (2 : Int32)), .val (.int (1 : Int32)), .val (.int q2), .val (.int q3), .val (.int q4), .val (.int q5), .unset] [])) _
    refine XS.iloadN X0.here hx rfl (hb hby d37_23) rfl ?_
    refine XS.iloadN X0.here hx rfl (hb hby d37_24) rfl ?_
    refine XS.isub X0.here hx rfl (hb hby d37_25) rfl ?_
    show Steps p.tables e below (s₁.setTop (mkF m 26 #[.val (.int (2 : Int32)), .val (.int (1 : Int32)), .val (.int q2), .val (.int q3), .val (.int q4), .val (.int q5), .unset] [(.int ((2 : Int32) - (1 : Int32)))])) _
    rw [show ((2 : Int32) - (1 : Int32)) = (1 : Int32) from by decide]
    show Steps p.tables e below (s₁.setTop (mkF m 26 #[.val (.int (2 : Int32)), .val (.int (1 : Int32)), .val (.int q2), .val (.int q3), .val (.int q4), .val (.int q5), .unset] [(.int (1 : Int32))])) _
    refine XS.iconst X0.here hx rfl (hb hby d37_26) ?_
    refine XS.isub X0.here hx rfl (hb hby d37_27) rfl ?_
    show Steps p.tables e below (s₁.setTop (mkF m 28 #[.val (.int (2 : Int32)), .val (.int (1 : Int32)), .val (.int q2), .val (.int q3), .val (.int q4), .val (.int q5), .unset] [(.int ((1 : Int32) - (1 : Int32)))])) _
    rw [show ((1 : Int32) - (1 : Int32)) = (0 : Int32) from by decide]
    show Steps p.tables e below (s₁.setTop (mkF m 28 #[.val (.int (2 : Int32)), .val (.int (1 : Int32)), .val (.int q2), .val (.int q3), .val (.int q4), .val (.int q5), .unset] [(.int (0 : Int32))])) _
    refine XS.istore X0.here hx rfl (hb hby d37_28) rfl (l' := #[.val (.int (2 : Int32)), .val (.int (1 : Int32)), .val (.int q2), .val (.int q3), .val (.int q4), .val (.int q5), .val (.int (0 : Int32))]) rfl ?_
    show Steps p.tables e below (s₁.setTop (mkF m 30 #[.val (.int (2 : Int32)), .val (.int (1 : Int32)), .val (.int q2), .val (.int q3), .val (.int q4), .val (.int q5), .val (.int (0 : Int32))] [])) _
    refine XS.iload X0.here hx rfl (hb hby d37_30) rfl ?_
    refine XS.ifNo X0.here hx rfl (hb hby d37_32) rfl ((if0 _ _).trans (teq (by decide : (0 : Int32) = (0 : Int32))).2) ?_
    show Steps p.tables e below (s₁.setTop (mkF m 35 #[.val (.int (2 : Int32)), .val (.int (1 : Int32)), .val (.int q2), .val (.int q3), .val (.int q4), .val (.int q5), .val (.int (0 : Int32))] [])) _
    refine XS.iload X0.here hx rfl (hb hby d37_35) rfl ?_
    refine XS.goto X0.here hx rfl (pc0 := 37) (pc' := 42) rfl (hb hby d37_37) (by decide) (by decide) ?_
    show Steps p.tables e below (s₁.setTop (mkF m 42 #[.val (.int (2 : Int32)), .val (.int (1 : Int32)), .val (.int q2), .val (.int q3), .val (.int q4), .val (.int q5), .val (.int (0 : Int32))] [(.int q4)])) _
    exact Jvm.RoadKit.retOut X0 hx Bd.returns (own_narC g4) (Or.inl ⟨rfl, by simp, _, rfl⟩) (hb hby d37_42) hr
  · show Q_ex21 Z q2 q3 q4 q5 h0 n0 _ s₁.heap _
    rw [e0]
    unfold Q_ex21
    exact ⟨rfl, N0, rfl⟩
theorem ef_ex31 (m : MethodId) (x0 : Int32) (x1 : Int32) (x2 : Int32) (x3 : Int32) (x4 : Int32) (x5 : Int32) : entryFrame m #[(.int x0), (.int x1), (.int x2), (.int x3), (.int x4), (.int x5)] 7 = mkF m 0 #[.val (.int x0), .val (.int x1), .val (.int x2), .val (.int x3), .val (.int x4), .val (.int x5), .unset] [] := by first | (simp [entryFrame, mkF, argsToLocals, Value.category]; done) | rfl
def Q_ex31 (Z : State) (q2 : Int32) (q3 : Int32) (q4 : Int32) (q5 : Int32) (h0 : Heap) (n0 : Nat) (v : Option Value) (h : Heap) (L : List Loc) : Prop := (v = some (.int q5)) ∧ (Fr n0 L) ∧ (h = h0)
theorem d37_40 : decode method_3_code 40 = .ok (.iload 5, 2) := by decide +kernel
set_option maxRecDepth 65536 in
set_option maxHeartbeats 40000000 in
theorem ex31 (l : Launch) (Z : State) (a0 : Array Value) (hw : ∀ d ∈ tables_1, d.before a0 Z = true) (ws : List Jvm.Cond) (q2 : Int32) (q3 : Int32) (q4 : Int32) (q5 : Int32) (h0 : Heap) (n0 : Nat) (O0 : Old Z n0 h0) (g2 : C8 q2) (g3 : C8 q3) (g4 : C8 q4) (g5 : C8 q5) :
    MetFree l (⟨"com/example/syndex/syndex/SectionKeyPathPinLaw", "exp", "(IICCCC)C"⟩ : MethodName) (head1 (Jvm.Cond.code (⟨"com/example/syndex/syndex/SectionKeyPathPinLaw", "exp", "(IICCCC)C"⟩ : MethodName) method_3_code 7 (some .char) :: ws) ({ frames := 0, cells := 0, slots := 0, locals := 0 } : Room)) (fun a U => a = #[(.int (3 : Int32)), (.int (1 : Int32)), (.int q2), (.int q3), (.int q4), (.int q5)] ∧ Z.Warmed39 U.vm ∧ U.heap = h0) (fun _ _ _ _ _ => True) (fun _ U o U' => ∃ v L, o = .returned v ∧ Q_ex31 Z q2 q3 q4 q5 h0 n0 v U'.heap L ∧ FrameEnd U o U' L ({ frames := 0, cells := 0, slots := 0, locals := 0 } : Room).cells ({ frames := 0, cells := 0, slots := 0, locals := 0 } : Room).slots) := by
  refine MetFree.of_bodySF (plainFor_of_name pn_2) hisR ?_
  intro p e s m args below meth c s₁ Bd hml0 hP hK
  obtain ⟨rfl, hZ, hh⟩ := hP
  have hx := Bd.exec
  have hby := Bd.bytes
  have hml : c.maxLocals = 7 := hml0
  have hown : s.vm.findClass "com/example/syndex/syndex/SectionKeyPathPinLaw" = some m.cls := findClass_of_methodNamed Bd.named
  have hnm := (name_of_methodNamed Bd.named Bd.method).1
  have X0 : Stand p l e ({ frames := 0, cells := 0, slots := 0, locals := 0 } : Room) s m #[(.int (3 : Int32)), (.int (1 : Int32)), (.int q2), (.int q3), (.int q4), (.int q5)] below meth c s₁ [] 0 0 := Stand.of_body Bd
  have e0 : s₁.heap = h0 := by rw [← hh, Bd.state]; rfl
  have N0 := Fr.nil n0
  have Z0 : n0 ≤ h0.size := old_le O0
  have pre0 : ∀ t, Steps p.tables e below (s₁.setTop (mkF m 0 #[.val (.int (3 : Int32)), .val (.int (1 : Int32)), .val (.int q2), .val (.int q3), .val (.int q4), .val (.int q5), .unset] [])) t → Steps p.tables e below (s₁.setTop (entryFrame m #[(.int (3 : Int32)), (.int (1 : Int32)), (.int q2), (.int q3), (.int q4), (.int q5)] 7)) t := fun t k => castTop (ef_ex31 m (3 : Int32) (1 : Int32) q2 q3 q4 q5) k
  obtain ⟨fs, hr, hrun, hended, hW, hsame⟩ := X0.leave (v := some (.int q5)) (fun h => by rw [Bd.returns] at h; cases h)
  refine ⟨_, _, pre0 _ ?_, hrun, hended, _, _, rfl, ?_, ⟨_, rfl⟩, hW, hsame.mono (by decide) (by decide)⟩
  · show Steps p.tables e below (s₁.setTop (mkF m 0 #[.val (.int (3 : Int32)), .val (.int (1 : Int32)), .val (.int q2), .val (.int q3), .val (.int q4), .val (.int q5), .unset] [])) _
    refine XS.iloadN X0.here hx rfl (hb hby d37_0) rfl ?_
    refine XS.iloadN X0.here hx rfl (hb hby d37_1) rfl ?_
    refine XS.icmpYes X0.here hx rfl (pc0 := 2) (pc' := 15) rfl (hb hby d37_2) rfl (flt (by decide : ¬ ((3 : Int32) < (1 : Int32)))).2.1 (by decide) (by decide) ?_
    show Steps p.tables e below (s₁.setTop (mkF m 15 #[.val (.int (3 : Int32)), .val (.int (1 : Int32)), .val (.int q2), .val (.int q3), .val (.int q4), .val (.int q5), .unset] [])) _
    refine XS.iloadN X0.here hx rfl (hb hby d37_15) rfl ?_
    refine XS.iloadN X0.here hx rfl (hb hby d37_16) rfl ?_
    refine XS.icmpYes X0.here hx rfl (pc0 := 17) (pc' := 23) rfl (hb hby d37_17) rfl (feq (by decide : ¬ ((3 : Int32) = (1 : Int32)))).2 (by decide) (by decide) ?_
    show Steps p.tables e below (s₁.setTop (mkF m 23 #[.val (.int (3 : Int32)), .val (.int (1 : Int32)), .val (.int q2), .val (.int q3), .val (.int q4), .val (.int q5), .unset] [])) _
    refine XS.iloadN X0.here hx rfl (hb hby d37_23) rfl ?_
    refine XS.iloadN X0.here hx rfl (hb hby d37_24) rfl ?_
    refine XS.isub X0.here hx rfl (hb hby d37_25) rfl ?_
    show Steps p.tables e below (s₁.setTop (mkF m 26 #[.val (.int (3 : Int32)), .val (.int (1 : Int32)), .val (.int q2), .val (.int q3), .val (.int q4), .val (.int q5), .unset] [(.int ((3 : Int32) - (1 : Int32)))])) _
    rw [show ((3 : Int32) - (1 : Int32)) = (2 : Int32) from by decide]
    show Steps p.tables e below (s₁.setTop (mkF m 26 #[.val (.int (3 : Int32)), .val (.int (1 : Int32)), .val (.int q2), .val (.int q3), .val (.int q4), .val (.int q5), .unset] [(.int (2 : Int32))])) _
    refine XS.iconst X0.here hx rfl (hb hby d37_26) ?_
    refine XS.isub X0.here hx rfl (hb hby d37_27) rfl ?_
    show Steps p.tables e below (s₁.setTop (mkF m 28 #[.val (.int (3 : Int32)), .val (.int (1 : Int32)), .val (.int q2), .val (.int q3), .val (.int q4), .val (.int q5), .unset] [(.int ((2 : Int32) - (1 : Int32)))])) _
    rw [show ((2 : Int32) - (1 : Int32)) = (1 : Int32) from by decide]
    show Steps p.tables e below (s₁.setTop (mkF m 28 #[.val (.int (3 : Int32)), .val (.int (1 : Int32)), .val (.int q2), .val (.int q3), .val (.int q4), .val (.int q5), .unset] [(.int (1 : Int32))])) _
    refine XS.istore X0.here hx rfl (hb hby d37_28) rfl (l' := #[.val (.int (3 : Int32)), .val (.int (1 : Int32)), .val (.int q2), .val (.int q3), .val (.int q4), .val (.int q5), .val (.int (1 : Int32))]) rfl ?_
    show Steps p.tables e below (s₁.setTop (mkF m 30 #[.val (.int (3 : Int32)), .val (.int (1 : Int32)), .val (.int q2), .val (.int q3), .val (.int q4), .val (.int q5), .val (.int (1 : Int32))] [])) _
    refine XS.iload X0.here hx rfl (hb hby d37_30) rfl ?_
    refine XS.ifYes X0.here hx rfl (pc0 := 32) (pc' := 40) rfl (hb hby d37_32) rfl ((if0 _ _).trans (feq (by decide : ¬ ((1 : Int32) = (0 : Int32)))).2) (by decide) (by decide) ?_
    show Steps p.tables e below (s₁.setTop (mkF m 40 #[.val (.int (3 : Int32)), .val (.int (1 : Int32)), .val (.int q2), .val (.int q3), .val (.int q4), .val (.int q5), .val (.int (1 : Int32))] [])) _
    refine XS.iload X0.here hx rfl (hb hby d37_40) rfl ?_
    show Steps p.tables e below (s₁.setTop (mkF m 42 #[.val (.int (3 : Int32)), .val (.int (1 : Int32)), .val (.int q2), .val (.int q3), .val (.int q4), .val (.int q5), .val (.int (1 : Int32))] [(.int q5)])) _
    exact Jvm.RoadKit.retOut X0 hx Bd.returns (own_narC g5) (Or.inl ⟨rfl, by simp, _, rfl⟩) (hb hby d37_42) hr
  · show Q_ex31 Z q2 q3 q4 q5 h0 n0 _ s₁.heap _
    rw [e0]
    unfold Q_ex31
    exact ⟨rfl, N0, rfl⟩
theorem ef_ex02 (m : MethodId) (x0 : Int32) (x1 : Int32) (x2 : Int32) (x3 : Int32) (x4 : Int32) (x5 : Int32) : entryFrame m #[(.int x0), (.int x1), (.int x2), (.int x3), (.int x4), (.int x5)] 7 = mkF m 0 #[.val (.int x0), .val (.int x1), .val (.int x2), .val (.int x3), .val (.int x4), .val (.int x5), .unset] [] := by first | (simp [entryFrame, mkF, argsToLocals, Value.category]; done) | rfl
def Q_ex02 (Z : State) (q2 : Int32) (q3 : Int32) (q4 : Int32) (q5 : Int32) (h0 : Heap) (n0 : Nat) (v : Option Value) (h : Heap) (L : List Loc) : Prop := (v = some (.int q2)) ∧ (Fr n0 L) ∧ (h = h0)
set_option maxRecDepth 65536 in
set_option maxHeartbeats 40000000 in
theorem ex02 (l : Launch) (Z : State) (a0 : Array Value) (hw : ∀ d ∈ tables_1, d.before a0 Z = true) (ws : List Jvm.Cond) (q2 : Int32) (q3 : Int32) (q4 : Int32) (q5 : Int32) (h0 : Heap) (n0 : Nat) (O0 : Old Z n0 h0) (g2 : C8 q2) (g3 : C8 q3) (g4 : C8 q4) (g5 : C8 q5) :
    MetFree l (⟨"com/example/syndex/syndex/SectionKeyPathPinLaw", "exp", "(IICCCC)C"⟩ : MethodName) (head1 (Jvm.Cond.code (⟨"com/example/syndex/syndex/SectionKeyPathPinLaw", "exp", "(IICCCC)C"⟩ : MethodName) method_3_code 7 (some .char) :: ws) ({ frames := 0, cells := 0, slots := 0, locals := 0 } : Room)) (fun a U => a = #[(.int (0 : Int32)), (.int (2 : Int32)), (.int q2), (.int q3), (.int q4), (.int q5)] ∧ Z.Warmed39 U.vm ∧ U.heap = h0) (fun _ _ _ _ _ => True) (fun _ U o U' => ∃ v L, o = .returned v ∧ Q_ex02 Z q2 q3 q4 q5 h0 n0 v U'.heap L ∧ FrameEnd U o U' L ({ frames := 0, cells := 0, slots := 0, locals := 0 } : Room).cells ({ frames := 0, cells := 0, slots := 0, locals := 0 } : Room).slots) := by
  refine MetFree.of_bodySF (plainFor_of_name pn_2) hisR ?_
  intro p e s m args below meth c s₁ Bd hml0 hP hK
  obtain ⟨rfl, hZ, hh⟩ := hP
  have hx := Bd.exec
  have hby := Bd.bytes
  have hml : c.maxLocals = 7 := hml0
  have hown : s.vm.findClass "com/example/syndex/syndex/SectionKeyPathPinLaw" = some m.cls := findClass_of_methodNamed Bd.named
  have hnm := (name_of_methodNamed Bd.named Bd.method).1
  have X0 : Stand p l e ({ frames := 0, cells := 0, slots := 0, locals := 0 } : Room) s m #[(.int (0 : Int32)), (.int (2 : Int32)), (.int q2), (.int q3), (.int q4), (.int q5)] below meth c s₁ [] 0 0 := Stand.of_body Bd
  have e0 : s₁.heap = h0 := by rw [← hh, Bd.state]; rfl
  have N0 := Fr.nil n0
  have Z0 : n0 ≤ h0.size := old_le O0
  have pre0 : ∀ t, Steps p.tables e below (s₁.setTop (mkF m 0 #[.val (.int (0 : Int32)), .val (.int (2 : Int32)), .val (.int q2), .val (.int q3), .val (.int q4), .val (.int q5), .unset] [])) t → Steps p.tables e below (s₁.setTop (entryFrame m #[(.int (0 : Int32)), (.int (2 : Int32)), (.int q2), (.int q3), (.int q4), (.int q5)] 7)) t := fun t k => castTop (ef_ex02 m (0 : Int32) (2 : Int32) q2 q3 q4 q5) k
  obtain ⟨fs, hr, hrun, hended, hW, hsame⟩ := X0.leave (v := some (.int q2)) (fun h => by rw [Bd.returns] at h; cases h)
  refine ⟨_, _, pre0 _ ?_, hrun, hended, _, _, rfl, ?_, ⟨_, rfl⟩, hW, hsame.mono (by decide) (by decide)⟩
  · show Steps p.tables e below (s₁.setTop (mkF m 0 #[.val (.int (0 : Int32)), .val (.int (2 : Int32)), .val (.int q2), .val (.int q3), .val (.int q4), .val (.int q5), .unset] [])) _
    refine XS.iloadN X0.here hx rfl (hb hby d37_0) rfl ?_
    refine XS.iloadN X0.here hx rfl (hb hby d37_1) rfl ?_
    refine XS.icmpNo X0.here hx rfl (hb hby d37_2) rfl (tlt (by decide : (0 : Int32) < (2 : Int32))).2.1 ?_
    show Steps p.tables e below (s₁.setTop (mkF m 5 #[.val (.int (0 : Int32)), .val (.int (2 : Int32)), .val (.int q2), .val (.int q3), .val (.int q4), .val (.int q5), .unset] [])) _
    refine XS.iloadN X0.here hx rfl (hb hby d37_5) rfl ?_
    refine XS.ifNo X0.here hx rfl (hb hby d37_6) rfl ((if0 _ _).trans (teq (by decide : (0 : Int32) = (0 : Int32))).2) ?_
    show Steps p.tables e below (s₁.setTop (mkF m 9 #[.val (.int (0 : Int32)), .val (.int (2 : Int32)), .val (.int q2), .val (.int q3), .val (.int q4), .val (.int q5), .unset] [])) _
    refine XS.iloadN X0.here hx rfl (hb hby d37_9) rfl ?_
    refine XS.goto X0.here hx rfl (pc0 := 10) (pc' := 14) rfl (hb hby d37_10) (by decide) (by decide) ?_
    show Steps p.tables e below (s₁.setTop (mkF m 14 #[.val (.int (0 : Int32)), .val (.int (2 : Int32)), .val (.int q2), .val (.int q3), .val (.int q4), .val (.int q5), .unset] [(.int q2)])) _
    exact Jvm.RoadKit.retOut X0 hx Bd.returns (own_narC g2) (Or.inl ⟨rfl, by simp, _, rfl⟩) (hb hby d37_14) hr
  · show Q_ex02 Z q2 q3 q4 q5 h0 n0 _ s₁.heap _
    rw [e0]
    unfold Q_ex02
    exact ⟨rfl, N0, rfl⟩
theorem ef_ex12 (m : MethodId) (x0 : Int32) (x1 : Int32) (x2 : Int32) (x3 : Int32) (x4 : Int32) (x5 : Int32) : entryFrame m #[(.int x0), (.int x1), (.int x2), (.int x3), (.int x4), (.int x5)] 7 = mkF m 0 #[.val (.int x0), .val (.int x1), .val (.int x2), .val (.int x3), .val (.int x4), .val (.int x5), .unset] [] := by first | (simp [entryFrame, mkF, argsToLocals, Value.category]; done) | rfl
def Q_ex12 (Z : State) (q2 : Int32) (q3 : Int32) (q4 : Int32) (q5 : Int32) (h0 : Heap) (n0 : Nat) (v : Option Value) (h : Heap) (L : List Loc) : Prop := (v = some (.int q3)) ∧ (Fr n0 L) ∧ (h = h0)
theorem d37_13 : decode method_3_code 13 = .ok (.iload_n 3, 1) := by decide +kernel
set_option maxRecDepth 65536 in
set_option maxHeartbeats 40000000 in
theorem ex12 (l : Launch) (Z : State) (a0 : Array Value) (hw : ∀ d ∈ tables_1, d.before a0 Z = true) (ws : List Jvm.Cond) (q2 : Int32) (q3 : Int32) (q4 : Int32) (q5 : Int32) (h0 : Heap) (n0 : Nat) (O0 : Old Z n0 h0) (g2 : C8 q2) (g3 : C8 q3) (g4 : C8 q4) (g5 : C8 q5) :
    MetFree l (⟨"com/example/syndex/syndex/SectionKeyPathPinLaw", "exp", "(IICCCC)C"⟩ : MethodName) (head1 (Jvm.Cond.code (⟨"com/example/syndex/syndex/SectionKeyPathPinLaw", "exp", "(IICCCC)C"⟩ : MethodName) method_3_code 7 (some .char) :: ws) ({ frames := 0, cells := 0, slots := 0, locals := 0 } : Room)) (fun a U => a = #[(.int (1 : Int32)), (.int (2 : Int32)), (.int q2), (.int q3), (.int q4), (.int q5)] ∧ Z.Warmed39 U.vm ∧ U.heap = h0) (fun _ _ _ _ _ => True) (fun _ U o U' => ∃ v L, o = .returned v ∧ Q_ex12 Z q2 q3 q4 q5 h0 n0 v U'.heap L ∧ FrameEnd U o U' L ({ frames := 0, cells := 0, slots := 0, locals := 0 } : Room).cells ({ frames := 0, cells := 0, slots := 0, locals := 0 } : Room).slots) := by
  refine MetFree.of_bodySF (plainFor_of_name pn_2) hisR ?_
  intro p e s m args below meth c s₁ Bd hml0 hP hK
  obtain ⟨rfl, hZ, hh⟩ := hP
  have hx := Bd.exec
  have hby := Bd.bytes
  have hml : c.maxLocals = 7 := hml0
  have hown : s.vm.findClass "com/example/syndex/syndex/SectionKeyPathPinLaw" = some m.cls := findClass_of_methodNamed Bd.named
  have hnm := (name_of_methodNamed Bd.named Bd.method).1
  have X0 : Stand p l e ({ frames := 0, cells := 0, slots := 0, locals := 0 } : Room) s m #[(.int (1 : Int32)), (.int (2 : Int32)), (.int q2), (.int q3), (.int q4), (.int q5)] below meth c s₁ [] 0 0 := Stand.of_body Bd
  have e0 : s₁.heap = h0 := by rw [← hh, Bd.state]; rfl
  have N0 := Fr.nil n0
  have Z0 : n0 ≤ h0.size := old_le O0
  have pre0 : ∀ t, Steps p.tables e below (s₁.setTop (mkF m 0 #[.val (.int (1 : Int32)), .val (.int (2 : Int32)), .val (.int q2), .val (.int q3), .val (.int q4), .val (.int q5), .unset] [])) t → Steps p.tables e below (s₁.setTop (entryFrame m #[(.int (1 : Int32)), (.int (2 : Int32)), (.int q2), (.int q3), (.int q4), (.int q5)] 7)) t := fun t k => castTop (ef_ex12 m (1 : Int32) (2 : Int32) q2 q3 q4 q5) k
  obtain ⟨fs, hr, hrun, hended, hW, hsame⟩ := X0.leave (v := some (.int q3)) (fun h => by rw [Bd.returns] at h; cases h)
  refine ⟨_, _, pre0 _ ?_, hrun, hended, _, _, rfl, ?_, ⟨_, rfl⟩, hW, hsame.mono (by decide) (by decide)⟩
  · show Steps p.tables e below (s₁.setTop (mkF m 0 #[.val (.int (1 : Int32)), .val (.int (2 : Int32)), .val (.int q2), .val (.int q3), .val (.int q4), .val (.int q5), .unset] [])) _
    refine XS.iloadN X0.here hx rfl (hb hby d37_0) rfl ?_
    refine XS.iloadN X0.here hx rfl (hb hby d37_1) rfl ?_
    refine XS.icmpNo X0.here hx rfl (hb hby d37_2) rfl (tlt (by decide : (1 : Int32) < (2 : Int32))).2.1 ?_
    show Steps p.tables e below (s₁.setTop (mkF m 5 #[.val (.int (1 : Int32)), .val (.int (2 : Int32)), .val (.int q2), .val (.int q3), .val (.int q4), .val (.int q5), .unset] [])) _
    refine XS.iloadN X0.here hx rfl (hb hby d37_5) rfl ?_
    refine XS.ifYes X0.here hx rfl (pc0 := 6) (pc' := 13) rfl (hb hby d37_6) rfl ((if0 _ _).trans (feq (by decide : ¬ ((1 : Int32) = (0 : Int32)))).2) (by decide) (by decide) ?_
    show Steps p.tables e below (s₁.setTop (mkF m 13 #[.val (.int (1 : Int32)), .val (.int (2 : Int32)), .val (.int q2), .val (.int q3), .val (.int q4), .val (.int q5), .unset] [])) _
    refine XS.iloadN X0.here hx rfl (hb hby d37_13) rfl ?_
    show Steps p.tables e below (s₁.setTop (mkF m 14 #[.val (.int (1 : Int32)), .val (.int (2 : Int32)), .val (.int q2), .val (.int q3), .val (.int q4), .val (.int q5), .unset] [(.int q3)])) _
    exact Jvm.RoadKit.retOut X0 hx Bd.returns (own_narC g3) (Or.inl ⟨rfl, by simp, _, rfl⟩) (hb hby d37_14) hr
  · show Q_ex12 Z q2 q3 q4 q5 h0 n0 _ s₁.heap _
    rw [e0]
    unfold Q_ex12
    exact ⟨rfl, N0, rfl⟩
theorem ef_ex22 (m : MethodId) (x0 : Int32) (x1 : Int32) (x2 : Int32) (x3 : Int32) (x4 : Int32) (x5 : Int32) : entryFrame m #[(.int x0), (.int x1), (.int x2), (.int x3), (.int x4), (.int x5)] 7 = mkF m 0 #[.val (.int x0), .val (.int x1), .val (.int x2), .val (.int x3), .val (.int x4), .val (.int x5), .unset] [] := by first | (simp [entryFrame, mkF, argsToLocals, Value.category]; done) | rfl
def Q_ex22 (Z : State) (q2 : Int32) (q3 : Int32) (q4 : Int32) (q5 : Int32) (h0 : Heap) (n0 : Nat) (v : Option Value) (h : Heap) (L : List Loc) : Prop := (v = some (.int (46 : Int32))) ∧ (Fr n0 L) ∧ (h = h0)
set_option maxRecDepth 65536 in
set_option maxHeartbeats 40000000 in
theorem ex22 (l : Launch) (Z : State) (a0 : Array Value) (hw : ∀ d ∈ tables_1, d.before a0 Z = true) (ws : List Jvm.Cond) (q2 : Int32) (q3 : Int32) (q4 : Int32) (q5 : Int32) (h0 : Heap) (n0 : Nat) (O0 : Old Z n0 h0) (g2 : C8 q2) (g3 : C8 q3) (g4 : C8 q4) (g5 : C8 q5) :
    MetFree l (⟨"com/example/syndex/syndex/SectionKeyPathPinLaw", "exp", "(IICCCC)C"⟩ : MethodName) (head1 (Jvm.Cond.code (⟨"com/example/syndex/syndex/SectionKeyPathPinLaw", "exp", "(IICCCC)C"⟩ : MethodName) method_3_code 7 (some .char) :: ws) ({ frames := 0, cells := 0, slots := 0, locals := 0 } : Room)) (fun a U => a = #[(.int (2 : Int32)), (.int (2 : Int32)), (.int q2), (.int q3), (.int q4), (.int q5)] ∧ Z.Warmed39 U.vm ∧ U.heap = h0) (fun _ _ _ _ _ => True) (fun _ U o U' => ∃ v L, o = .returned v ∧ Q_ex22 Z q2 q3 q4 q5 h0 n0 v U'.heap L ∧ FrameEnd U o U' L ({ frames := 0, cells := 0, slots := 0, locals := 0 } : Room).cells ({ frames := 0, cells := 0, slots := 0, locals := 0 } : Room).slots) := by
  refine MetFree.of_bodySF (plainFor_of_name pn_2) hisR ?_
  intro p e s m args below meth c s₁ Bd hml0 hP hK
  obtain ⟨rfl, hZ, hh⟩ := hP
  have hx := Bd.exec
  have hby := Bd.bytes
  have hml : c.maxLocals = 7 := hml0
  have hown : s.vm.findClass "com/example/syndex/syndex/SectionKeyPathPinLaw" = some m.cls := findClass_of_methodNamed Bd.named
  have hnm := (name_of_methodNamed Bd.named Bd.method).1
  have X0 : Stand p l e ({ frames := 0, cells := 0, slots := 0, locals := 0 } : Room) s m #[(.int (2 : Int32)), (.int (2 : Int32)), (.int q2), (.int q3), (.int q4), (.int q5)] below meth c s₁ [] 0 0 := Stand.of_body Bd
  have e0 : s₁.heap = h0 := by rw [← hh, Bd.state]; rfl
  have N0 := Fr.nil n0
  have Z0 : n0 ≤ h0.size := old_le O0
  have pre0 : ∀ t, Steps p.tables e below (s₁.setTop (mkF m 0 #[.val (.int (2 : Int32)), .val (.int (2 : Int32)), .val (.int q2), .val (.int q3), .val (.int q4), .val (.int q5), .unset] [])) t → Steps p.tables e below (s₁.setTop (entryFrame m #[(.int (2 : Int32)), (.int (2 : Int32)), (.int q2), (.int q3), (.int q4), (.int q5)] 7)) t := fun t k => castTop (ef_ex22 m (2 : Int32) (2 : Int32) q2 q3 q4 q5) k
  obtain ⟨fs, hr, hrun, hended, hW, hsame⟩ := X0.leave (v := some (.int (46 : Int32))) (fun h => by rw [Bd.returns] at h; cases h)
  refine ⟨_, _, pre0 _ ?_, hrun, hended, _, _, rfl, ?_, ⟨_, rfl⟩, hW, hsame.mono (by decide) (by decide)⟩
  · show Steps p.tables e below (s₁.setTop (mkF m 0 #[.val (.int (2 : Int32)), .val (.int (2 : Int32)), .val (.int q2), .val (.int q3), .val (.int q4), .val (.int q5), .unset] [])) _
    refine XS.iloadN X0.here hx rfl (hb hby d37_0) rfl ?_
    refine XS.iloadN X0.here hx rfl (hb hby d37_1) rfl ?_
    refine XS.icmpYes X0.here hx rfl (pc0 := 2) (pc' := 15) rfl (hb hby d37_2) rfl (flt (by decide : ¬ ((2 : Int32) < (2 : Int32)))).2.1 (by decide) (by decide) ?_
    show Steps p.tables e below (s₁.setTop (mkF m 15 #[.val (.int (2 : Int32)), .val (.int (2 : Int32)), .val (.int q2), .val (.int q3), .val (.int q4), .val (.int q5), .unset] [])) _
    refine XS.iloadN X0.here hx rfl (hb hby d37_15) rfl ?_
    refine XS.iloadN X0.here hx rfl (hb hby d37_16) rfl ?_
    refine XS.icmpNo X0.here hx rfl (hb hby d37_17) rfl (teq (by decide : (2 : Int32) = (2 : Int32))).2 ?_
    show Steps p.tables e below (s₁.setTop (mkF m 20 #[.val (.int (2 : Int32)), .val (.int (2 : Int32)), .val (.int q2), .val (.int q3), .val (.int q4), .val (.int q5), .unset] [])) _
    refine XS.bipush X0.here hx rfl (hb hby d37_20) ?_
    show Steps p.tables e below (s₁.setTop (mkF m 22 #[.val (.int (2 : Int32)), .val (.int (2 : Int32)), .val (.int q2), .val (.int q3), .val (.int q4), .val (.int q5), .unset] [(.int (46 : Int32))])) _
    exact Jvm.RoadKit.retOut X0 hx Bd.returns rfl (Or.inl ⟨rfl, by simp, _, rfl⟩) (hb hby d37_22) hr
  · show Q_ex22 Z q2 q3 q4 q5 h0 n0 _ s₁.heap _
    rw [e0]
    unfold Q_ex22
    exact ⟨rfl, N0, rfl⟩
theorem ef_ex32 (m : MethodId) (x0 : Int32) (x1 : Int32) (x2 : Int32) (x3 : Int32) (x4 : Int32) (x5 : Int32) : entryFrame m #[(.int x0), (.int x1), (.int x2), (.int x3), (.int x4), (.int x5)] 7 = mkF m 0 #[.val (.int x0), .val (.int x1), .val (.int x2), .val (.int x3), .val (.int x4), .val (.int x5), .unset] [] := by first | (simp [entryFrame, mkF, argsToLocals, Value.category]; done) | rfl
def Q_ex32 (Z : State) (q2 : Int32) (q3 : Int32) (q4 : Int32) (q5 : Int32) (h0 : Heap) (n0 : Nat) (v : Option Value) (h : Heap) (L : List Loc) : Prop := (v = some (.int q4)) ∧ (Fr n0 L) ∧ (h = h0)
set_option maxRecDepth 65536 in
set_option maxHeartbeats 40000000 in
theorem ex32 (l : Launch) (Z : State) (a0 : Array Value) (hw : ∀ d ∈ tables_1, d.before a0 Z = true) (ws : List Jvm.Cond) (q2 : Int32) (q3 : Int32) (q4 : Int32) (q5 : Int32) (h0 : Heap) (n0 : Nat) (O0 : Old Z n0 h0) (g2 : C8 q2) (g3 : C8 q3) (g4 : C8 q4) (g5 : C8 q5) :
    MetFree l (⟨"com/example/syndex/syndex/SectionKeyPathPinLaw", "exp", "(IICCCC)C"⟩ : MethodName) (head1 (Jvm.Cond.code (⟨"com/example/syndex/syndex/SectionKeyPathPinLaw", "exp", "(IICCCC)C"⟩ : MethodName) method_3_code 7 (some .char) :: ws) ({ frames := 0, cells := 0, slots := 0, locals := 0 } : Room)) (fun a U => a = #[(.int (3 : Int32)), (.int (2 : Int32)), (.int q2), (.int q3), (.int q4), (.int q5)] ∧ Z.Warmed39 U.vm ∧ U.heap = h0) (fun _ _ _ _ _ => True) (fun _ U o U' => ∃ v L, o = .returned v ∧ Q_ex32 Z q2 q3 q4 q5 h0 n0 v U'.heap L ∧ FrameEnd U o U' L ({ frames := 0, cells := 0, slots := 0, locals := 0 } : Room).cells ({ frames := 0, cells := 0, slots := 0, locals := 0 } : Room).slots) := by
  refine MetFree.of_bodySF (plainFor_of_name pn_2) hisR ?_
  intro p e s m args below meth c s₁ Bd hml0 hP hK
  obtain ⟨rfl, hZ, hh⟩ := hP
  have hx := Bd.exec
  have hby := Bd.bytes
  have hml : c.maxLocals = 7 := hml0
  have hown : s.vm.findClass "com/example/syndex/syndex/SectionKeyPathPinLaw" = some m.cls := findClass_of_methodNamed Bd.named
  have hnm := (name_of_methodNamed Bd.named Bd.method).1
  have X0 : Stand p l e ({ frames := 0, cells := 0, slots := 0, locals := 0 } : Room) s m #[(.int (3 : Int32)), (.int (2 : Int32)), (.int q2), (.int q3), (.int q4), (.int q5)] below meth c s₁ [] 0 0 := Stand.of_body Bd
  have e0 : s₁.heap = h0 := by rw [← hh, Bd.state]; rfl
  have N0 := Fr.nil n0
  have Z0 : n0 ≤ h0.size := old_le O0
  have pre0 : ∀ t, Steps p.tables e below (s₁.setTop (mkF m 0 #[.val (.int (3 : Int32)), .val (.int (2 : Int32)), .val (.int q2), .val (.int q3), .val (.int q4), .val (.int q5), .unset] [])) t → Steps p.tables e below (s₁.setTop (entryFrame m #[(.int (3 : Int32)), (.int (2 : Int32)), (.int q2), (.int q3), (.int q4), (.int q5)] 7)) t := fun t k => castTop (ef_ex32 m (3 : Int32) (2 : Int32) q2 q3 q4 q5) k
  obtain ⟨fs, hr, hrun, hended, hW, hsame⟩ := X0.leave (v := some (.int q4)) (fun h => by rw [Bd.returns] at h; cases h)
  refine ⟨_, _, pre0 _ ?_, hrun, hended, _, _, rfl, ?_, ⟨_, rfl⟩, hW, hsame.mono (by decide) (by decide)⟩
  · show Steps p.tables e below (s₁.setTop (mkF m 0 #[.val (.int (3 : Int32)), .val (.int (2 : Int32)), .val (.int q2), .val (.int q3), .val (.int q4), .val (.int q5), .unset] [])) _
    refine XS.iloadN X0.here hx rfl (hb hby d37_0) rfl ?_
    refine XS.iloadN X0.here hx rfl (hb hby d37_1) rfl ?_
    refine XS.icmpYes X0.here hx rfl (pc0 := 2) (pc' := 15) rfl (hb hby d37_2) rfl (flt (by decide : ¬ ((3 : Int32) < (2 : Int32)))).2.1 (by decide) (by decide) ?_
    show Steps p.tables e below (s₁.setTop (mkF m 15 #[.val (.int (3 : Int32)), .val (.int (2 : Int32)), .val (.int q2), .val (.int q3), .val (.int q4), .val (.int q5), .unset] [])) _
    refine XS.iloadN X0.here hx rfl (hb hby d37_15) rfl ?_
    refine XS.iloadN X0.here hx rfl (hb hby d37_16) rfl ?_
    refine XS.icmpYes X0.here hx rfl (pc0 := 17) (pc' := 23) rfl (hb hby d37_17) rfl (feq (by decide : ¬ ((3 : Int32) = (2 : Int32)))).2 (by decide) (by decide) ?_
    show Steps p.tables e below (s₁.setTop (mkF m 23 #[.val (.int (3 : Int32)), .val (.int (2 : Int32)), .val (.int q2), .val (.int q3), .val (.int q4), .val (.int q5), .unset] [])) _
    refine XS.iloadN X0.here hx rfl (hb hby d37_23) rfl ?_
    refine XS.iloadN X0.here hx rfl (hb hby d37_24) rfl ?_
    refine XS.isub X0.here hx rfl (hb hby d37_25) rfl ?_
    show Steps p.tables e below (s₁.setTop (mkF m 26 #[.val (.int (3 : Int32)), .val (.int (2 : Int32)), .val (.int q2), .val (.int q3), .val (.int q4), .val (.int q5), .unset] [(.int ((3 : Int32) - (2 : Int32)))])) _
    rw [show ((3 : Int32) - (2 : Int32)) = (1 : Int32) from by decide]
    show Steps p.tables e below (s₁.setTop (mkF m 26 #[.val (.int (3 : Int32)), .val (.int (2 : Int32)), .val (.int q2), .val (.int q3), .val (.int q4), .val (.int q5), .unset] [(.int (1 : Int32))])) _
    refine XS.iconst X0.here hx rfl (hb hby d37_26) ?_
    refine XS.isub X0.here hx rfl (hb hby d37_27) rfl ?_
    show Steps p.tables e below (s₁.setTop (mkF m 28 #[.val (.int (3 : Int32)), .val (.int (2 : Int32)), .val (.int q2), .val (.int q3), .val (.int q4), .val (.int q5), .unset] [(.int ((1 : Int32) - (1 : Int32)))])) _
    rw [show ((1 : Int32) - (1 : Int32)) = (0 : Int32) from by decide]
    show Steps p.tables e below (s₁.setTop (mkF m 28 #[.val (.int (3 : Int32)), .val (.int (2 : Int32)), .val (.int q2), .val (.int q3), .val (.int q4), .val (.int q5), .unset] [(.int (0 : Int32))])) _
    refine XS.istore X0.here hx rfl (hb hby d37_28) rfl (l' := #[.val (.int (3 : Int32)), .val (.int (2 : Int32)), .val (.int q2), .val (.int q3), .val (.int q4), .val (.int q5), .val (.int (0 : Int32))]) rfl ?_
    show Steps p.tables e below (s₁.setTop (mkF m 30 #[.val (.int (3 : Int32)), .val (.int (2 : Int32)), .val (.int q2), .val (.int q3), .val (.int q4), .val (.int q5), .val (.int (0 : Int32))] [])) _
    refine XS.iload X0.here hx rfl (hb hby d37_30) rfl ?_
    refine XS.ifNo X0.here hx rfl (hb hby d37_32) rfl ((if0 _ _).trans (teq (by decide : (0 : Int32) = (0 : Int32))).2) ?_
    show Steps p.tables e below (s₁.setTop (mkF m 35 #[.val (.int (3 : Int32)), .val (.int (2 : Int32)), .val (.int q2), .val (.int q3), .val (.int q4), .val (.int q5), .val (.int (0 : Int32))] [])) _
    refine XS.iload X0.here hx rfl (hb hby d37_35) rfl ?_
    refine XS.goto X0.here hx rfl (pc0 := 37) (pc' := 42) rfl (hb hby d37_37) (by decide) (by decide) ?_
    show Steps p.tables e below (s₁.setTop (mkF m 42 #[.val (.int (3 : Int32)), .val (.int (2 : Int32)), .val (.int q2), .val (.int q3), .val (.int q4), .val (.int q5), .val (.int (0 : Int32))] [(.int q4)])) _
    exact Jvm.RoadKit.retOut X0 hx Bd.returns (own_narC g4) (Or.inl ⟨rfl, by simp, _, rfl⟩) (hb hby d37_42) hr
  · show Q_ex32 Z q2 q3 q4 q5 h0 n0 _ s₁.heap _
    rw [e0]
    unfold Q_ex32
    exact ⟨rfl, N0, rfl⟩
theorem ef_ex42 (m : MethodId) (x0 : Int32) (x1 : Int32) (x2 : Int32) (x3 : Int32) (x4 : Int32) (x5 : Int32) : entryFrame m #[(.int x0), (.int x1), (.int x2), (.int x3), (.int x4), (.int x5)] 7 = mkF m 0 #[.val (.int x0), .val (.int x1), .val (.int x2), .val (.int x3), .val (.int x4), .val (.int x5), .unset] [] := by first | (simp [entryFrame, mkF, argsToLocals, Value.category]; done) | rfl
def Q_ex42 (Z : State) (q2 : Int32) (q3 : Int32) (q4 : Int32) (q5 : Int32) (h0 : Heap) (n0 : Nat) (v : Option Value) (h : Heap) (L : List Loc) : Prop := (v = some (.int q5)) ∧ (Fr n0 L) ∧ (h = h0)
set_option maxRecDepth 65536 in
set_option maxHeartbeats 40000000 in
theorem ex42 (l : Launch) (Z : State) (a0 : Array Value) (hw : ∀ d ∈ tables_1, d.before a0 Z = true) (ws : List Jvm.Cond) (q2 : Int32) (q3 : Int32) (q4 : Int32) (q5 : Int32) (h0 : Heap) (n0 : Nat) (O0 : Old Z n0 h0) (g2 : C8 q2) (g3 : C8 q3) (g4 : C8 q4) (g5 : C8 q5) :
    MetFree l (⟨"com/example/syndex/syndex/SectionKeyPathPinLaw", "exp", "(IICCCC)C"⟩ : MethodName) (head1 (Jvm.Cond.code (⟨"com/example/syndex/syndex/SectionKeyPathPinLaw", "exp", "(IICCCC)C"⟩ : MethodName) method_3_code 7 (some .char) :: ws) ({ frames := 0, cells := 0, slots := 0, locals := 0 } : Room)) (fun a U => a = #[(.int (4 : Int32)), (.int (2 : Int32)), (.int q2), (.int q3), (.int q4), (.int q5)] ∧ Z.Warmed39 U.vm ∧ U.heap = h0) (fun _ _ _ _ _ => True) (fun _ U o U' => ∃ v L, o = .returned v ∧ Q_ex42 Z q2 q3 q4 q5 h0 n0 v U'.heap L ∧ FrameEnd U o U' L ({ frames := 0, cells := 0, slots := 0, locals := 0 } : Room).cells ({ frames := 0, cells := 0, slots := 0, locals := 0 } : Room).slots) := by
  refine MetFree.of_bodySF (plainFor_of_name pn_2) hisR ?_
  intro p e s m args below meth c s₁ Bd hml0 hP hK
  obtain ⟨rfl, hZ, hh⟩ := hP
  have hx := Bd.exec
  have hby := Bd.bytes
  have hml : c.maxLocals = 7 := hml0
  have hown : s.vm.findClass "com/example/syndex/syndex/SectionKeyPathPinLaw" = some m.cls := findClass_of_methodNamed Bd.named
  have hnm := (name_of_methodNamed Bd.named Bd.method).1
  have X0 : Stand p l e ({ frames := 0, cells := 0, slots := 0, locals := 0 } : Room) s m #[(.int (4 : Int32)), (.int (2 : Int32)), (.int q2), (.int q3), (.int q4), (.int q5)] below meth c s₁ [] 0 0 := Stand.of_body Bd
  have e0 : s₁.heap = h0 := by rw [← hh, Bd.state]; rfl
  have N0 := Fr.nil n0
  have Z0 : n0 ≤ h0.size := old_le O0
  have pre0 : ∀ t, Steps p.tables e below (s₁.setTop (mkF m 0 #[.val (.int (4 : Int32)), .val (.int (2 : Int32)), .val (.int q2), .val (.int q3), .val (.int q4), .val (.int q5), .unset] [])) t → Steps p.tables e below (s₁.setTop (entryFrame m #[(.int (4 : Int32)), (.int (2 : Int32)), (.int q2), (.int q3), (.int q4), (.int q5)] 7)) t := fun t k => castTop (ef_ex42 m (4 : Int32) (2 : Int32) q2 q3 q4 q5) k
  obtain ⟨fs, hr, hrun, hended, hW, hsame⟩ := X0.leave (v := some (.int q5)) (fun h => by rw [Bd.returns] at h; cases h)
  refine ⟨_, _, pre0 _ ?_, hrun, hended, _, _, rfl, ?_, ⟨_, rfl⟩, hW, hsame.mono (by decide) (by decide)⟩
  · show Steps p.tables e below (s₁.setTop (mkF m 0 #[.val (.int (4 : Int32)), .val (.int (2 : Int32)), .val (.int q2), .val (.int q3), .val (.int q4), .val (.int q5), .unset] [])) _
    refine XS.iloadN X0.here hx rfl (hb hby d37_0) rfl ?_
    refine XS.iloadN X0.here hx rfl (hb hby d37_1) rfl ?_
    refine XS.icmpYes X0.here hx rfl (pc0 := 2) (pc' := 15) rfl (hb hby d37_2) rfl (flt (by decide : ¬ ((4 : Int32) < (2 : Int32)))).2.1 (by decide) (by decide) ?_
    show Steps p.tables e below (s₁.setTop (mkF m 15 #[.val (.int (4 : Int32)), .val (.int (2 : Int32)), .val (.int q2), .val (.int q3), .val (.int q4), .val (.int q5), .unset] [])) _
    refine XS.iloadN X0.here hx rfl (hb hby d37_15) rfl ?_
    refine XS.iloadN X0.here hx rfl (hb hby d37_16) rfl ?_
    refine XS.icmpYes X0.here hx rfl (pc0 := 17) (pc' := 23) rfl (hb hby d37_17) rfl (feq (by decide : ¬ ((4 : Int32) = (2 : Int32)))).2 (by decide) (by decide) ?_
    show Steps p.tables e below (s₁.setTop (mkF m 23 #[.val (.int (4 : Int32)), .val (.int (2 : Int32)), .val (.int q2), .val (.int q3), .val (.int q4), .val (.int q5), .unset] [])) _
    refine XS.iloadN X0.here hx rfl (hb hby d37_23) rfl ?_
    refine XS.iloadN X0.here hx rfl (hb hby d37_24) rfl ?_
    refine XS.isub X0.here hx rfl (hb hby d37_25) rfl ?_
    show Steps p.tables e below (s₁.setTop (mkF m 26 #[.val (.int (4 : Int32)), .val (.int (2 : Int32)), .val (.int q2), .val (.int q3), .val (.int q4), .val (.int q5), .unset] [(.int ((4 : Int32) - (2 : Int32)))])) _
    rw [show ((4 : Int32) - (2 : Int32)) = (2 : Int32) from by decide]
    show Steps p.tables e below (s₁.setTop (mkF m 26 #[.val (.int (4 : Int32)), .val (.int (2 : Int32)), .val (.int q2), .val (.int q3), .val (.int q4), .val (.int q5), .unset] [(.int (2 : Int32))])) _
    refine XS.iconst X0.here hx rfl (hb hby d37_26) ?_
    refine XS.isub X0.here hx rfl (hb hby d37_27) rfl ?_
    show Steps p.tables e below (s₁.setTop (mkF m 28 #[.val (.int (4 : Int32)), .val (.int (2 : Int32)), .val (.int q2), .val (.int q3), .val (.int q4), .val (.int q5), .unset] [(.int ((2 : Int32) - (1 : Int32)))])) _
    rw [show ((2 : Int32) - (1 : Int32)) = (1 : Int32) from by decide]
    show Steps p.tables e below (s₁.setTop (mkF m 28 #[.val (.int (4 : Int32)), .val (.int (2 : Int32)), .val (.int q2), .val (.int q3), .val (.int q4), .val (.int q5), .unset] [(.int (1 : Int32))])) _
    refine XS.istore X0.here hx rfl (hb hby d37_28) rfl (l' := #[.val (.int (4 : Int32)), .val (.int (2 : Int32)), .val (.int q2), .val (.int q3), .val (.int q4), .val (.int q5), .val (.int (1 : Int32))]) rfl ?_
    show Steps p.tables e below (s₁.setTop (mkF m 30 #[.val (.int (4 : Int32)), .val (.int (2 : Int32)), .val (.int q2), .val (.int q3), .val (.int q4), .val (.int q5), .val (.int (1 : Int32))] [])) _
    refine XS.iload X0.here hx rfl (hb hby d37_30) rfl ?_
    refine XS.ifYes X0.here hx rfl (pc0 := 32) (pc' := 40) rfl (hb hby d37_32) rfl ((if0 _ _).trans (feq (by decide : ¬ ((1 : Int32) = (0 : Int32)))).2) (by decide) (by decide) ?_
    show Steps p.tables e below (s₁.setTop (mkF m 40 #[.val (.int (4 : Int32)), .val (.int (2 : Int32)), .val (.int q2), .val (.int q3), .val (.int q4), .val (.int q5), .val (.int (1 : Int32))] [])) _
    refine XS.iload X0.here hx rfl (hb hby d37_40) rfl ?_
    show Steps p.tables e below (s₁.setTop (mkF m 42 #[.val (.int (4 : Int32)), .val (.int (2 : Int32)), .val (.int q2), .val (.int q3), .val (.int q4), .val (.int q5), .val (.int (1 : Int32))] [(.int q5)])) _
    exact Jvm.RoadKit.retOut X0 hx Bd.returns (own_narC g5) (Or.inl ⟨rfl, by simp, _, rfl⟩) (hb hby d37_42) hr
  · show Q_ex42 Z q2 q3 q4 q5 h0 n0 _ s₁.heap _
    rw [e0]
    unfold Q_ex42
    exact ⟨rfl, N0, rfl⟩
theorem ef_rm0 (m : MethodId) (x0 : Int32) (x1 : Int32) : entryFrame m #[(.int x0), (.int x1)] maxLocals = mkF m 0 #[.val (.int x0), .val (.int x1), .unset, .unset, .unset, .unset, .unset, .unset, .unset, .unset, .unset, .unset] [] := by first | (simp [entryFrame, mkF, argsToLocals, Value.category, maxLocals]; done) | rfl
def Q_rm0 (Z : State) (p0 : Int32) (p1 : Int32) (zc : Int32) (fm : Value) (h0 : Heap) (n0 : Nat) (v : Option Value) (h : Heap) (L : List Loc) : Prop := (v = some (.int (1 : Int32))) ∧ (Fr n0 L) ∧ (Keep h0 h [])
theorem pd_23 : parseMethodDescriptor "(ICC)Ljava/lang/String;" = some ⟨[.int, .char, .char], some (.object "java/lang/String")⟩ := by decide +kernel
theorem pd_24 : parseMethodDescriptor "(Ljava/lang/String;Ljava/lang/String;)Ljava/lang/String;" = some ⟨[(.object "java/lang/String"), (.object "java/lang/String")], some (.object "java/lang/String")⟩ := by decide +kernel
theorem pd_25 : parseMethodDescriptor "(Ljava/lang/Object;)Z" = some ⟨[(.object "java/lang/Object")], some .boolean⟩ := by decide +kernel
theorem pd_26 : parseMethodDescriptor "(I)C" = some ⟨[.int], some .char⟩ := by decide +kernel
theorem pd_27 : parseMethodDescriptor "(IICCCC)C" = some ⟨[.int, .int, .char, .char, .char, .char], some .char⟩ := by decide +kernel
set_option maxRecDepth 65536 in
set_option maxHeartbeats 40000000 in
theorem rm0 (l : Launch) (Z : State) (a0 : Array Value) (hw : ∀ d ∈ tables_1, d.before a0 Z = true) (ws : List Jvm.Cond) (p0 : Int32) (p1 : Int32) (zc : Int32) (fm : Value) (h0 : Heap) (n0 : Nat) (O0 : Old Z n0 h0) (SZ : Sta Z Z.heap "java/lang/String" "COMPACT_STRINGS" "Z" (.int zc)) (PZ : ¬ (zc = (0 : Int32))) (SF : Sta Z Z.heap "jdk/internal/util/Preconditions" "SIOOBE_FORMATTER" "Ljava/util/function/BiFunction;" fm) (RF : fm.isRef = true) :
    MetFree l x (head1 (Jvm.Cond.code x code maxLocals ret :: ws) room_1) (fun a U => a = #[(.int p0), (.int p1)] ∧ Z.Warmed39 U.vm ∧ U.heap = h0 ∧ CHv Z consts_1 U.vm h0 ∧ ∀ x ∈ ([] : List Addr), Safe Z consts_1 U.vm h0 x) (fun _ _ _ _ _ => True) (fun _ U o U' => ∃ v L, o = .returned v ∧ Q_rm0 Z p0 p1 zc fm h0 n0 v U'.heap L ∧ CHr Z consts_1 U.vm U.heap U'.vm U'.heap ∧ ReturnedEndW U o U' L room_1.cells room_1.slots) := by
  refine MetFree.of_bodySF (plainFor_of_name pn_2) hisR ?_
  intro p e s m args below meth c s₁ Bd hml0 hP hK
  obtain ⟨rfl, hZ, hh, hH0, hSf⟩ := hP
  have hx := Bd.exec
  have hby := Bd.bytes
  have hml : c.maxLocals = 12 := hml0
  have hEL : EW Z a0 consts_1 := own_EW hw
  have CR0 : CHr Z consts_1 s.vm h0 s.vm h0 := CHr.refl hH0
  have hown : s.vm.findClass "com/example/syndex/syndex/SectionKeyPathPinLaw" = some m.cls := findClass_of_methodNamed Bd.named
  have hnm := (name_of_methodNamed Bd.named Bd.method).1
  have hS0 : s.Since s.vm h0.size := (State.WarmedH.refl s).since _
  have hstr : ∀ a ∈ Bundle.stringAtoms, a.before a0 Z = true := own_str hw
  have X0 : Stand p l e room_1 (s.setVm s.vm) m #[(.int p0), (.int p1)] below meth c s₁ [] 0 0 := Stand.of_body Bd
  have e0 : s₁.heap = h0 := by rw [← hh, Bd.state]; rfl
  have N0 := Fr.nil n0
  have Z0 : n0 ≤ h0.size := old_le O0
  have pre0 : ∀ t, Steps p.tables e below (s₁.setTop (mkF m 0 #[.val (.int p0), .val (.int p1), .unset, .unset, .unset, .unset, .unset, .unset, .unset, .unset, .unset, .unset] [])) t → Steps p.tables e below (s₁.setTop (entryFrame m #[(.int p0), (.int p1)] maxLocals)) t := fun t k => castTop (ef_rm0 m p0 p1) k
  have S103 : ∀ t, Steps p.tables e below (s₁.setTop (mkF m 10 #[.val (.int p0), .val (.int p1), .unset, .unset, .unset, .unset, .unset, .unset, .unset, .unset, .unset, .unset] [(.int ((((p0.toUInt32 >>> ((16 : Int32) &&& 31).toUInt32).toInt32) &&& (255 : Int32)) % (3 : Int32)))])) t → Steps p.tables e below (s₁.setTop (entryFrame m #[(.int p0), (.int p1)] maxLocals)) t := fun t k => by
    refine pre0 t ?_
    show Steps p.tables e below (s₁.setTop (mkF m 0 #[.val (.int p0), .val (.int p1), .unset, .unset, .unset, .unset, .unset, .unset, .unset, .unset, .unset, .unset] [])) _
    refine XS.iloadN X0.here hx rfl (hb hby at_0) rfl ?_
    refine XS.bipush X0.here hx rfl (hb hby at_1) ?_
    refine XS.iushr X0.here hx rfl (hb hby at_3) rfl ?_
    show Steps p.tables e below (s₁.setTop (mkF m 4 #[.val (.int p0), .val (.int p1), .unset, .unset, .unset, .unset, .unset, .unset, .unset, .unset, .unset, .unset] [(.int ((p0.toUInt32 >>> ((16 : Int32) &&& 31).toUInt32).toInt32))])) _
    refine XS.sipush X0.here hx rfl (hb hby at_4) ?_
    refine XS.iand X0.here hx rfl (hb hby at_7) rfl ?_
    show Steps p.tables e below (s₁.setTop (mkF m 8 #[.val (.int p0), .val (.int p1), .unset, .unset, .unset, .unset, .unset, .unset, .unset, .unset, .unset, .unset] [(.int (((p0.toUInt32 >>> ((16 : Int32) &&& 31).toUInt32).toInt32) &&& (255 : Int32)))])) _
    refine XS.iconst X0.here hx rfl (hb hby at_8) ?_
    show Steps p.tables e below (s₁.setTop (mkF m 9 #[.val (.int p0), .val (.int p1), .unset, .unset, .unset, .unset, .unset, .unset, .unset, .unset, .unset, .unset] [(.int (3 : Int32)), (.int (((p0.toUInt32 >>> ((16 : Int32) &&& 31).toUInt32).toInt32) &&& (255 : Int32)))])) _
    refine Jvm.RoadKit.iremM (g := (mkF m 9 #[.val (.int p0), .val (.int p1), .unset, .unset, .unset, .unset, .unset, .unset, .unset, .unset, .unset, .unset] [(.int (3 : Int32)), (.int (((p0.toUInt32 >>> ((16 : Int32) &&& 31).toUInt32).toInt32) &&& (255 : Int32)))])) X0 hx rfl (hb hby at_9) rfl (by decide) ?_
    exact k
  by_cases hr101 : ((((p0.toUInt32 >>> ((16 : Int32) &&& 31).toUInt32).toInt32) &&& (255 : Int32)) % (3 : Int32)) = (0 : Int32)
  · have S106 : ∀ t, Steps p.tables e below (s₁.setTop (mkF m 39 #[.val (.int p0), .val (.int p1), .val (.int (0 : Int32)), .val (.int ((p0 &&& (255 : Int32)).toUInt32.toUInt16.toUInt32.toInt32)), .val (.int ((((p0.toUInt32 >>> ((8 : Int32) &&& 31).toUInt32).toInt32) &&& (255 : Int32)).toUInt32.toUInt16.toUInt32.toInt32)), .unset, .unset, .unset, .unset, .unset, .unset, .unset] [(.int ((((p1.toUInt32 >>> ((16 : Int32) &&& 31).toUInt32).toInt32) &&& (255 : Int32)) % (3 : Int32)))])) t → Steps p.tables e below (s₁.setTop (entryFrame m #[(.int p0), (.int p1)] maxLocals)) t := fun t k => by
      refine S103 t ?_
      show Steps p.tables e below (s₁.setTop (mkF m 10 #[.val (.int p0), .val (.int p1), .unset, .unset, .unset, .unset, .unset, .unset, .unset, .unset, .unset, .unset] [(.int ((((p0.toUInt32 >>> ((16 : Int32) &&& 31).toUInt32).toInt32) &&& (255 : Int32)) % (3 : Int32)))])) _
      rw [hr101]
      show Steps p.tables e below (s₁.setTop (mkF m 10 #[.val (.int p0), .val (.int p1), .unset, .unset, .unset, .unset, .unset, .unset, .unset, .unset, .unset, .unset] [(.int (0 : Int32))])) _
      refine XS.istoreN X0.here hx rfl (hb hby at_10) rfl (l' := #[.val (.int p0), .val (.int p1), .val (.int (0 : Int32)), .unset, .unset, .unset, .unset, .unset, .unset, .unset, .unset, .unset]) rfl ?_
      show Steps p.tables e below (s₁.setTop (mkF m 11 #[.val (.int p0), .val (.int p1), .val (.int (0 : Int32)), .unset, .unset, .unset, .unset, .unset, .unset, .unset, .unset, .unset] [])) _
      refine XS.iloadN X0.here hx rfl (hb hby at_11) rfl ?_
      refine XS.sipush X0.here hx rfl (hb hby at_12) ?_
      refine XS.iand X0.here hx rfl (hb hby at_15) rfl ?_
      show Steps p.tables e below (s₁.setTop (mkF m 16 #[.val (.int p0), .val (.int p1), .val (.int (0 : Int32)), .unset, .unset, .unset, .unset, .unset, .unset, .unset, .unset, .unset] [(.int (p0 &&& (255 : Int32)))])) _
      refine XS.i2c X0.here hx rfl (hb hby at_16) rfl ?_
      show Steps p.tables e below (s₁.setTop (mkF m 17 #[.val (.int p0), .val (.int p1), .val (.int (0 : Int32)), .unset, .unset, .unset, .unset, .unset, .unset, .unset, .unset, .unset] [(.int ((p0 &&& (255 : Int32)).toUInt32.toUInt16.toUInt32.toInt32))])) _
      refine XS.istoreN X0.here hx rfl (hb hby at_17) rfl (l' := #[.val (.int p0), .val (.int p1), .val (.int (0 : Int32)), .val (.int ((p0 &&& (255 : Int32)).toUInt32.toUInt16.toUInt32.toInt32)), .unset, .unset, .unset, .unset, .unset, .unset, .unset, .unset]) rfl ?_
      show Steps p.tables e below (s₁.setTop (mkF m 18 #[.val (.int p0), .val (.int p1), .val (.int (0 : Int32)), .val (.int ((p0 &&& (255 : Int32)).toUInt32.toUInt16.toUInt32.toInt32)), .unset, .unset, .unset, .unset, .unset, .unset, .unset, .unset] [])) _
      refine XS.iloadN X0.here hx rfl (hb hby at_18) rfl ?_
      refine XS.bipush X0.here hx rfl (hb hby at_19) ?_
      refine XS.iushr X0.here hx rfl (hb hby at_21) rfl ?_
      show Steps p.tables e below (s₁.setTop (mkF m 22 #[.val (.int p0), .val (.int p1), .val (.int (0 : Int32)), .val (.int ((p0 &&& (255 : Int32)).toUInt32.toUInt16.toUInt32.toInt32)), .unset, .unset, .unset, .unset, .unset, .unset, .unset, .unset] [(.int ((p0.toUInt32 >>> ((8 : Int32) &&& 31).toUInt32).toInt32))])) _
      refine XS.sipush X0.here hx rfl (hb hby at_22) ?_
      refine XS.iand X0.here hx rfl (hb hby at_25) rfl ?_
      show Steps p.tables e below (s₁.setTop (mkF m 26 #[.val (.int p0), .val (.int p1), .val (.int (0 : Int32)), .val (.int ((p0 &&& (255 : Int32)).toUInt32.toUInt16.toUInt32.toInt32)), .unset, .unset, .unset, .unset, .unset, .unset, .unset, .unset] [(.int (((p0.toUInt32 >>> ((8 : Int32) &&& 31).toUInt32).toInt32) &&& (255 : Int32)))])) _
      refine XS.i2c X0.here hx rfl (hb hby at_26) rfl ?_
      show Steps p.tables e below (s₁.setTop (mkF m 27 #[.val (.int p0), .val (.int p1), .val (.int (0 : Int32)), .val (.int ((p0 &&& (255 : Int32)).toUInt32.toUInt16.toUInt32.toInt32)), .unset, .unset, .unset, .unset, .unset, .unset, .unset, .unset] [(.int ((((p0.toUInt32 >>> ((8 : Int32) &&& 31).toUInt32).toInt32) &&& (255 : Int32)).toUInt32.toUInt16.toUInt32.toInt32))])) _
      refine XS.istore X0.here hx rfl (hb hby at_27) rfl (l' := #[.val (.int p0), .val (.int p1), .val (.int (0 : Int32)), .val (.int ((p0 &&& (255 : Int32)).toUInt32.toUInt16.toUInt32.toInt32)), .val (.int ((((p0.toUInt32 >>> ((8 : Int32) &&& 31).toUInt32).toInt32) &&& (255 : Int32)).toUInt32.toUInt16.toUInt32.toInt32)), .unset, .unset, .unset, .unset, .unset, .unset, .unset]) rfl ?_
      show Steps p.tables e below (s₁.setTop (mkF m 29 #[.val (.int p0), .val (.int p1), .val (.int (0 : Int32)), .val (.int ((p0 &&& (255 : Int32)).toUInt32.toUInt16.toUInt32.toInt32)), .val (.int ((((p0.toUInt32 >>> ((8 : Int32) &&& 31).toUInt32).toInt32) &&& (255 : Int32)).toUInt32.toUInt16.toUInt32.toInt32)), .unset, .unset, .unset, .unset, .unset, .unset, .unset] [])) _
      refine XS.iloadN X0.here hx rfl (hb hby at_29) rfl ?_
      refine XS.bipush X0.here hx rfl (hb hby at_30) ?_
      refine XS.iushr X0.here hx rfl (hb hby at_32) rfl ?_
      show Steps p.tables e below (s₁.setTop (mkF m 33 #[.val (.int p0), .val (.int p1), .val (.int (0 : Int32)), .val (.int ((p0 &&& (255 : Int32)).toUInt32.toUInt16.toUInt32.toInt32)), .val (.int ((((p0.toUInt32 >>> ((8 : Int32) &&& 31).toUInt32).toInt32) &&& (255 : Int32)).toUInt32.toUInt16.toUInt32.toInt32)), .unset, .unset, .unset, .unset, .unset, .unset, .unset] [(.int ((p1.toUInt32 >>> ((16 : Int32) &&& 31).toUInt32).toInt32))])) _
      refine XS.sipush X0.here hx rfl (hb hby at_33) ?_
      refine XS.iand X0.here hx rfl (hb hby at_36) rfl ?_
      show Steps p.tables e below (s₁.setTop (mkF m 37 #[.val (.int p0), .val (.int p1), .val (.int (0 : Int32)), .val (.int ((p0 &&& (255 : Int32)).toUInt32.toUInt16.toUInt32.toInt32)), .val (.int ((((p0.toUInt32 >>> ((8 : Int32) &&& 31).toUInt32).toInt32) &&& (255 : Int32)).toUInt32.toUInt16.toUInt32.toInt32)), .unset, .unset, .unset, .unset, .unset, .unset, .unset] [(.int (((p1.toUInt32 >>> ((16 : Int32) &&& 31).toUInt32).toInt32) &&& (255 : Int32)))])) _
      refine XS.iconst X0.here hx rfl (hb hby at_37) ?_
      show Steps p.tables e below (s₁.setTop (mkF m 38 #[.val (.int p0), .val (.int p1), .val (.int (0 : Int32)), .val (.int ((p0 &&& (255 : Int32)).toUInt32.toUInt16.toUInt32.toInt32)), .val (.int ((((p0.toUInt32 >>> ((8 : Int32) &&& 31).toUInt32).toInt32) &&& (255 : Int32)).toUInt32.toUInt16.toUInt32.toInt32)), .unset, .unset, .unset, .unset, .unset, .unset, .unset] [(.int (3 : Int32)), (.int (((p1.toUInt32 >>> ((16 : Int32) &&& 31).toUInt32).toInt32) &&& (255 : Int32)))])) _
      refine Jvm.RoadKit.iremM (g := (mkF m 38 #[.val (.int p0), .val (.int p1), .val (.int (0 : Int32)), .val (.int ((p0 &&& (255 : Int32)).toUInt32.toUInt16.toUInt32.toInt32)), .val (.int ((((p0.toUInt32 >>> ((8 : Int32) &&& 31).toUInt32).toInt32) &&& (255 : Int32)).toUInt32.toUInt16.toUInt32.toInt32)), .unset, .unset, .unset, .unset, .unset, .unset, .unset] [(.int (3 : Int32)), (.int (((p1.toUInt32 >>> ((16 : Int32) &&& 31).toUInt32).toInt32) &&& (255 : Int32)))])) X0 hx rfl (hb hby at_38) rfl (by decide) ?_
      exact k
    by_cases hr104 : ((((p1.toUInt32 >>> ((16 : Int32) &&& 31).toUInt32).toInt32) &&& (255 : Int32)) % (3 : Int32)) = (0 : Int32)
    · obtain ⟨ch1, ech1, gch1⟩ : ∃ z, z = ((p0 &&& (255 : Int32)).toUInt32.toUInt16.toUInt32.toInt32) ∧ C8 z := ⟨_, rfl, own_ch8 _⟩
      obtain ⟨ch2, ech2, gch2⟩ : ∃ z, z = ((((p0.toUInt32 >>> ((8 : Int32) &&& 31).toUInt32).toInt32) &&& (255 : Int32)).toUInt32.toUInt16.toUInt32.toInt32) ∧ C8 z := ⟨_, rfl, own_ch8 _⟩
      obtain ⟨ch3, ech3, gch3⟩ : ∃ z, z = ((p1 &&& (255 : Int32)).toUInt32.toUInt16.toUInt32.toInt32) ∧ C8 z := ⟨_, rfl, own_ch8 _⟩
      obtain ⟨ch4, ech4, gch4⟩ : ∃ z, z = ((((p1.toUInt32 >>> ((8 : Int32) &&& 31).toUInt32).toInt32) &&& (255 : Int32)).toUInt32.toUInt16.toUInt32.toInt32) ∧ C8 z := ⟨_, rfl, own_ch8 _⟩
      obtain ⟨_, _, ⟨T107, L107, k107, n107⟩, -, X107, hs107', hg107', ⟨Lc107, hQ107, l107, y107, z107, CX107⟩, st107⟩ := Jvm.RoadKit.callSS X0 hx (y := (⟨"com/example/syndex/syndex/SectionKeyPathPinLaw", "mk", "(ICC)Ljava/lang/String;"⟩ : MethodName)) hown (mvT hZ (hwk hw 0 rfl)) (mvT hZ (hwk hw 1 rfl)) (mvT hZ (hwk hw 2 rfl)) (mvT hZ (hwk hw 3 rfl)) (by decide) (own_backSH (W := 0) (mk0 l Z a0 hw [] ch1 ch2 zc h0 n0 O0 gch1 gch2 SZ PZ) hZ (hwk hw 3 rfl) (hwk hw 2 rfl) (by decide) (by decide) hEL CR0.1 (fun _ q => nomatch q)) (g := (mkF m 64 #[.val (.int p0), .val (.int p1), .val (.int (0 : Int32)), .val (.int ch1), .val (.int ch2), .val (.int (0 : Int32)), .val (.int ch3), .val (.int ch4), .unset, .unset, .unset, .unset] [(.int ch2), (.int ch1), (.int (0 : Int32))])) rfl (by rw [hml]; rfl) (argsL := [(.int (0 : Int32)), (.int ch1), (.int ch2)]) (rest := []) (lenOf pd_23 rfl) rfl (by show 2 * 0 + _ ≤ _; exact Nat.le_of_eq rfl) (hb hby at_64) (fun _ _ => ⟨rfl, e0, (by decide : 0 + 6 ≤ _), (by decide : 0 + 12 ≤ _)⟩)
      dsimp only [Pt.U, Pt.locs, Pt.cells, Pt.slots] at X107 l107 y107 z107 st107 hQ107 hs107' hg107' CX107
      subst l107 y107 z107
      obtain ⟨X107b, hS107, hZ107, hown107⟩ := rebS hS0 (show _ ≤ s₁.heap.size from by rw [e0]; exact (Nat.le_refl _)) X107 hs107' hg107' hZ hown
      unfold Q_mk0 at hQ107
      obtain ⟨o_107, t_107, kb_107, rfl, N107q, K107, ge_o_107, f107_0, f107_1, f107_2, f107_3⟩ := hQ107
      have N107 := Fr.app N0 N107q
      have g_o_107 : n0 ≤ o_107 := Nat.le_trans (old_le O0) ge_o_107
      have O108 : Old Z n0 T107.heap := Old.keep O0 K107 all0
      have CR110 : CHr Z consts_1 s.vm h0 T107.vm T107.heap := CHr.trans CR0 CX107
      obtain ⟨_, _, ⟨T109, L109, k109, n109⟩, -, X109, hs109', hg109', ⟨Lc109, hQ109, l109, y109, z109, CX109⟩, st109⟩ := Jvm.RoadKit.callSS X107b hx (y := (⟨"com/example/syndex/syndex/SectionKeyPathPinLaw", "mk", "(ICC)Ljava/lang/String;"⟩ : MethodName)) hown107 (mvT hZ107 (hwk hw 0 rfl)) (mvT hZ107 (hwk hw 1 rfl)) (mvT hZ107 (hwk hw 2 rfl)) (mvT hZ107 (hwk hw 3 rfl)) (by decide) (own_backSH (W := 0) (mk0 l Z a0 hw [] ch3 ch4 zc T107.heap n0 O108 gch3 gch4 SZ PZ) hZ107 (hwk hw 3 rfl) (hwk hw 2 rfl) (by decide) (by decide) hEL CR110.1 (fun _ q => nomatch q)) (g := (mkF m 75 #[.val (.int p0), .val (.int p1), .val (.int (0 : Int32)), .val (.int ch1), .val (.int ch2), .val (.int (0 : Int32)), .val (.int ch3), .val (.int ch4), .val (.ref o_107), .unset, .unset, .unset] [(.int ch4), (.int ch3), (.int (0 : Int32))])) rfl (by rw [hml]; rfl) (argsL := [(.int (0 : Int32)), (.int ch3), (.int ch4)]) (rest := []) (lenOf pd_23 rfl) rfl (by show 2 * 0 + _ ≤ _; exact Nat.le_of_eq rfl) (hb hby at_75) (fun _ _ => ⟨rfl, (rfl : T107.heap = T107.heap), (by decide : 6 + 6 ≤ _), (by decide : 12 + 12 ≤ _)⟩)
      dsimp only [Pt.U, Pt.locs, Pt.cells, Pt.slots] at X109 l109 y109 z109 st109 hQ109 hs109' hg109' CX109
      subst l109 y109 z109
      obtain ⟨X109b, hS109, hZ109, hown109⟩ := rebS hS107 (show _ ≤ T107.heap.size from by rw [(rfl : T107.heap = T107.heap)]; exact (Nat.le_refl _)) X109 hs109' hg109' hZ107 hown107
      unfold Q_mk0 at hQ109
      obtain ⟨o_109, t_109, kb_109, rfl, N109q, K109, ge_o_109, f109_0, f109_1, f109_2, f109_3⟩ := hQ109
      have N109 := Fr.app N107 N109q
      have g_o_109 : n0 ≤ o_109 := Nat.le_trans (old_le O108) ge_o_109
      have c111 : Exa Z T109.heap o_107 "java/lang/String" := (Exa.keep f107_0 K109)
      have c112 : Fld Z T109.heap o_107 "java/lang/String" "value" "[B" (.ref t_107) := (Fld.keep f107_1 K109 nin0)
      have c113 : Fld Z T109.heap o_107 "java/lang/String" "coder" "B" (.int (0 : Int32)) := (Fld.keep f107_2 K109 nin0)
      have c114 : Arv Z T109.heap t_107 kb_107 .byte (0 : Int32) [] (.int (0 : Int32)) := (Arv.keep f107_3 K109 nin0)
      have O115 : Old Z n0 T109.heap := Old.keep O108 K109 all0
      obtain ⟨_, _, ⟨T116, L116, k116, n116⟩, -, X116, ⟨Lc116, hQ116, l116, y116, z116⟩, st116⟩ := Jvm.LawKit.callS X109b hx (y := (⟨"com/example/syndex/syndex/Section", "keyPath", "(Ljava/lang/String;Ljava/lang/String;)Ljava/lang/String;"⟩ : MethodName)) hown109 (mvT hZ109 (hwk hw 26 rfl)) (mvT hZ109 (hwk hw 27 rfl)) (mvT hZ109 (hwk hw 28 rfl)) (mvT hZ109 (hwk hw 29 rfl)) (by decide) (backOf (W := 0) (kp0 l Z a0 hw [] o_107 t_107 kb_107 (0 : Int32) [] o_109 T109.heap n0 O115 c111 c112 c113 c114 rfl) hZ109 (hwk hw 29 rfl) (hwk hw 28 rfl) (by decide) (by decide)) (g := (mkF m 84 #[.val (.int p0), .val (.int p1), .val (.int (0 : Int32)), .val (.int ch1), .val (.int ch2), .val (.int (0 : Int32)), .val (.int ch3), .val (.int ch4), .val (.ref o_107), .val (.ref o_109), .unset, .unset] [(.ref o_109), (.ref o_107)])) rfl (by rw [hml]; rfl) (argsL := [(.ref o_107), (.ref o_109)]) (rest := []) (lenOf pd_24 rfl) rfl (by show 2 * 0 + _ ≤ _; exact Nat.le_of_eq rfl) (hb hby at_84) (fun _ _ => ⟨rfl, (rfl : T109.heap = T109.heap), (by decide : 12 + 0 ≤ _), (by decide : 24 + 0 ≤ _)⟩)
      dsimp only [Pt.U, Pt.locs, Pt.cells, Pt.slots] at X116 l116 y116 z116 st116 hQ116
      subst l116 y116 z116
      unfold Q_kp0 at hQ116
      obtain ⟨rfl, N116q, e116⟩ := hQ116
      have N116 := Fr.app N109 N116q
      obtain ⟨cq117, kq117, q117a, q117b, q117c⟩ := isOf hZ109 e116 f109_0
      obtain ⟨_, _, ⟨T117, L117, k117, n117⟩, -, X117, ⟨Lc117, hQ117, l117, y117, z117⟩, st117⟩ := X116.virtualBack hx (y := (⟨"java/lang/String", "length", "()I"⟩ : MethodName)) (z := (⟨"java/lang/String", "length", "()I"⟩ : MethodName)) hown109 (mvT hZ109 (hwk hw 35 rfl)) (mvT hZ109 (hwk hw 36 rfl)) (notFace_of_selects (args := #[]) (mvT hZ109 (hwk hw 38 rfl))) (mvT hZ109 (hwk hw 38 rfl)) (mvT hZ109 (hwk hw 37 rfl)) (by decide) (backOf (W := 0) (rm7 l Z a0 hw [] o_109 t_109 kb_109 (0 : Int32) [] zc T109.heap n0 O115 f109_0 f109_1 f109_2 f109_3 SZ PZ) hZ109 (hwk hw 39 rfl) (hwk hw 6 rfl) (by decide) (by decide)) q117a q117c (g := (mkF m 102 #[.val (.int p0), .val (.int p1), .val (.int (0 : Int32)), .val (.int ch1), .val (.int ch2), .val (.int (0 : Int32)), .val (.int ch3), .val (.int ch4), .val (.ref o_107), .val (.ref o_109), .val (.ref o_109), .unset] [(.ref o_109)])) rfl (by rw [hml]; rfl) (Steps.refl _) (argsL := []) (rest := []) (lenOf pd_10 rfl) rfl (by show 2 * 0 + _ ≤ _; exact Nat.le_of_eq rfl) (hb hby at_102) (fun _ _ => ⟨rfl, e116, (by decide : 12 + 0 ≤ _), (by decide : 24 + 0 ≤ _)⟩)
      dsimp only [Pt.U, Pt.locs, Pt.cells, Pt.slots] at X117 l117 y117 z117 st117 hQ117
      subst l117 y117 z117
      unfold Q_rm7 at hQ117
      obtain ⟨rfl, N117q, e117⟩ := hQ117
      have N117 := Fr.app N116 N117q
      obtain ⟨cq118, kq118, q118a, q118b, q118c⟩ := isOf hZ109 e117 f109_0
      obtain ⟨_, _, ⟨T118, L118, k118, n118⟩, -, X118, ⟨Lc118, hQ118, l118, y118, z118⟩, st118⟩ := X117.virtualBack hx (y := (⟨"java/lang/String", "equals", "(Ljava/lang/Object;)Z"⟩ : MethodName)) (z := (⟨"java/lang/String", "equals", "(Ljava/lang/Object;)Z"⟩ : MethodName)) hown109 (mvT hZ109 (hwk hw 46 rfl)) (mvT hZ109 (hwk hw 47 rfl)) (notFace_of_selects (args := #[]) (mvT hZ109 (hwk hw 49 rfl))) (mvT hZ109 (hwk hw 49 rfl)) (mvT hZ109 (hwk hw 48 rfl)) (by decide) (backOf (W := 0) (rm9 l Z a0 hw [] o_109 T109.heap n0 O115 ) hZ109 (hwk hw 50 rfl) (hwk hw 6 rfl) (by decide) (by decide)) q118a q118c (g := (mkF m 114 #[.val (.int p0), .val (.int p1), .val (.int (0 : Int32)), .val (.int ch1), .val (.int ch2), .val (.int (0 : Int32)), .val (.int ch3), .val (.int ch4), .val (.ref o_107), .val (.ref o_109), .val (.ref o_109), .unset] [(.ref o_109), (.ref o_109)])) rfl (by rw [hml]; rfl) (Steps.refl _) (argsL := [(.ref o_109)]) (rest := []) (lenOf pd_25 rfl) rfl (by show 2 * 0 + _ ≤ _; exact Nat.le_of_eq rfl) (hb hby at_114) (fun _ _ => ⟨rfl, e117, (by decide : 12 + 0 ≤ _), (by decide : 24 + 0 ≤ _)⟩)
      dsimp only [Pt.U, Pt.locs, Pt.cells, Pt.slots] at X118 l118 y118 z118 st118 hQ118
      subst l118 y118 z118
      unfold Q_rm9 at hQ118
      obtain ⟨rfl, N118q, e118⟩ := hQ118
      have N118 := Fr.app N117 N118q
      have K119 : Keep h0 T107.heap [] := Keep.trans (Keep.refl h0 []) K107 all0
      have K120 : Keep h0 T109.heap [] := Keep.trans K119 K109 all0
      have CR121 : CHr Z consts_1 s.vm h0 T109.vm T109.heap := CHr.trans CR110 CX109
      obtain ⟨fs, hr, hrun, hended, hRE⟩ := X118.leaveW hS109 (show _ ≤ T118.heap.size from by rw [e118]; exact (Nat.le_refl _)) (v := some (.int (1 : Int32))) (fun h => by rw [Bd.returns] at h; cases h)
      have CRl : CHr Z consts_1 s.vm s.heap (T118.setFrames fs).vm (T118.setFrames fs).heap := by
        have q := CHr.trans CR121 (CHv.at X118 hZ109 hEL CR121.1)
        rw [← hh, ← e118] at q
        exact q
      refine ⟨_, _, S106 _ ?_, hrun, hended, _, _, rfl, ?_, CRl, hRE.1, hRE.2.1, hRE.2.2.1, hRE.2.2.2.mono (by decide) (by decide)⟩
      · show Steps p.tables e below (s₁.setTop (mkF m 39 #[.val (.int p0), .val (.int p1), .val (.int (0 : Int32)), .val (.int ((p0 &&& (255 : Int32)).toUInt32.toUInt16.toUInt32.toInt32)), .val (.int ((((p0.toUInt32 >>> ((8 : Int32) &&& 31).toUInt32).toInt32) &&& (255 : Int32)).toUInt32.toUInt16.toUInt32.toInt32)), .unset, .unset, .unset, .unset, .unset, .unset, .unset] [(.int ((((p1.toUInt32 >>> ((16 : Int32) &&& 31).toUInt32).toInt32) &&& (255 : Int32)) % (3 : Int32)))])) _
        rw [hr104]
        show Steps p.tables e below (s₁.setTop (mkF m 39 #[.val (.int p0), .val (.int p1), .val (.int (0 : Int32)), .val (.int ((p0 &&& (255 : Int32)).toUInt32.toUInt16.toUInt32.toInt32)), .val (.int ((((p0.toUInt32 >>> ((8 : Int32) &&& 31).toUInt32).toInt32) &&& (255 : Int32)).toUInt32.toUInt16.toUInt32.toInt32)), .unset, .unset, .unset, .unset, .unset, .unset, .unset] [(.int (0 : Int32))])) _
        refine XS.istore X0.here hx rfl (hb hby at_39) rfl (l' := #[.val (.int p0), .val (.int p1), .val (.int (0 : Int32)), .val (.int ((p0 &&& (255 : Int32)).toUInt32.toUInt16.toUInt32.toInt32)), .val (.int ((((p0.toUInt32 >>> ((8 : Int32) &&& 31).toUInt32).toInt32) &&& (255 : Int32)).toUInt32.toUInt16.toUInt32.toInt32)), .val (.int (0 : Int32)), .unset, .unset, .unset, .unset, .unset, .unset]) rfl ?_
        show Steps p.tables e below (s₁.setTop (mkF m 41 #[.val (.int p0), .val (.int p1), .val (.int (0 : Int32)), .val (.int ((p0 &&& (255 : Int32)).toUInt32.toUInt16.toUInt32.toInt32)), .val (.int ((((p0.toUInt32 >>> ((8 : Int32) &&& 31).toUInt32).toInt32) &&& (255 : Int32)).toUInt32.toUInt16.toUInt32.toInt32)), .val (.int (0 : Int32)), .unset, .unset, .unset, .unset, .unset, .unset] [])) _
        refine XS.iloadN X0.here hx rfl (hb hby at_41) rfl ?_
        refine XS.sipush X0.here hx rfl (hb hby at_42) ?_
        refine XS.iand X0.here hx rfl (hb hby at_45) rfl ?_
        show Steps p.tables e below (s₁.setTop (mkF m 46 #[.val (.int p0), .val (.int p1), .val (.int (0 : Int32)), .val (.int ((p0 &&& (255 : Int32)).toUInt32.toUInt16.toUInt32.toInt32)), .val (.int ((((p0.toUInt32 >>> ((8 : Int32) &&& 31).toUInt32).toInt32) &&& (255 : Int32)).toUInt32.toUInt16.toUInt32.toInt32)), .val (.int (0 : Int32)), .unset, .unset, .unset, .unset, .unset, .unset] [(.int (p1 &&& (255 : Int32)))])) _
        refine XS.i2c X0.here hx rfl (hb hby at_46) rfl ?_
        show Steps p.tables e below (s₁.setTop (mkF m 47 #[.val (.int p0), .val (.int p1), .val (.int (0 : Int32)), .val (.int ((p0 &&& (255 : Int32)).toUInt32.toUInt16.toUInt32.toInt32)), .val (.int ((((p0.toUInt32 >>> ((8 : Int32) &&& 31).toUInt32).toInt32) &&& (255 : Int32)).toUInt32.toUInt16.toUInt32.toInt32)), .val (.int (0 : Int32)), .unset, .unset, .unset, .unset, .unset, .unset] [(.int ((p1 &&& (255 : Int32)).toUInt32.toUInt16.toUInt32.toInt32))])) _
        refine XS.istore X0.here hx rfl (hb hby at_47) rfl (l' := #[.val (.int p0), .val (.int p1), .val (.int (0 : Int32)), .val (.int ((p0 &&& (255 : Int32)).toUInt32.toUInt16.toUInt32.toInt32)), .val (.int ((((p0.toUInt32 >>> ((8 : Int32) &&& 31).toUInt32).toInt32) &&& (255 : Int32)).toUInt32.toUInt16.toUInt32.toInt32)), .val (.int (0 : Int32)), .val (.int ((p1 &&& (255 : Int32)).toUInt32.toUInt16.toUInt32.toInt32)), .unset, .unset, .unset, .unset, .unset]) rfl ?_
        show Steps p.tables e below (s₁.setTop (mkF m 49 #[.val (.int p0), .val (.int p1), .val (.int (0 : Int32)), .val (.int ((p0 &&& (255 : Int32)).toUInt32.toUInt16.toUInt32.toInt32)), .val (.int ((((p0.toUInt32 >>> ((8 : Int32) &&& 31).toUInt32).toInt32) &&& (255 : Int32)).toUInt32.toUInt16.toUInt32.toInt32)), .val (.int (0 : Int32)), .val (.int ((p1 &&& (255 : Int32)).toUInt32.toUInt16.toUInt32.toInt32)), .unset, .unset, .unset, .unset, .unset] [])) _
        refine XS.iloadN X0.here hx rfl (hb hby at_49) rfl ?_
        refine XS.bipush X0.here hx rfl (hb hby at_50) ?_
        refine XS.iushr X0.here hx rfl (hb hby at_52) rfl ?_
        show Steps p.tables e below (s₁.setTop (mkF m 53 #[.val (.int p0), .val (.int p1), .val (.int (0 : Int32)), .val (.int ((p0 &&& (255 : Int32)).toUInt32.toUInt16.toUInt32.toInt32)), .val (.int ((((p0.toUInt32 >>> ((8 : Int32) &&& 31).toUInt32).toInt32) &&& (255 : Int32)).toUInt32.toUInt16.toUInt32.toInt32)), .val (.int (0 : Int32)), .val (.int ((p1 &&& (255 : Int32)).toUInt32.toUInt16.toUInt32.toInt32)), .unset, .unset, .unset, .unset, .unset] [(.int ((p1.toUInt32 >>> ((8 : Int32) &&& 31).toUInt32).toInt32))])) _
        refine XS.sipush X0.here hx rfl (hb hby at_53) ?_
        refine XS.iand X0.here hx rfl (hb hby at_56) rfl ?_
        show Steps p.tables e below (s₁.setTop (mkF m 57 #[.val (.int p0), .val (.int p1), .val (.int (0 : Int32)), .val (.int ((p0 &&& (255 : Int32)).toUInt32.toUInt16.toUInt32.toInt32)), .val (.int ((((p0.toUInt32 >>> ((8 : Int32) &&& 31).toUInt32).toInt32) &&& (255 : Int32)).toUInt32.toUInt16.toUInt32.toInt32)), .val (.int (0 : Int32)), .val (.int ((p1 &&& (255 : Int32)).toUInt32.toUInt16.toUInt32.toInt32)), .unset, .unset, .unset, .unset, .unset] [(.int (((p1.toUInt32 >>> ((8 : Int32) &&& 31).toUInt32).toInt32) &&& (255 : Int32)))])) _
        refine XS.i2c X0.here hx rfl (hb hby at_57) rfl ?_
        show Steps p.tables e below (s₁.setTop (mkF m 58 #[.val (.int p0), .val (.int p1), .val (.int (0 : Int32)), .val (.int ((p0 &&& (255 : Int32)).toUInt32.toUInt16.toUInt32.toInt32)), .val (.int ((((p0.toUInt32 >>> ((8 : Int32) &&& 31).toUInt32).toInt32) &&& (255 : Int32)).toUInt32.toUInt16.toUInt32.toInt32)), .val (.int (0 : Int32)), .val (.int ((p1 &&& (255 : Int32)).toUInt32.toUInt16.toUInt32.toInt32)), .unset, .unset, .unset, .unset, .unset] [(.int ((((p1.toUInt32 >>> ((8 : Int32) &&& 31).toUInt32).toInt32) &&& (255 : Int32)).toUInt32.toUInt16.toUInt32.toInt32))])) _
        refine XS.istore X0.here hx rfl (hb hby at_58) rfl (l' := #[.val (.int p0), .val (.int p1), .val (.int (0 : Int32)), .val (.int ((p0 &&& (255 : Int32)).toUInt32.toUInt16.toUInt32.toInt32)), .val (.int ((((p0.toUInt32 >>> ((8 : Int32) &&& 31).toUInt32).toInt32) &&& (255 : Int32)).toUInt32.toUInt16.toUInt32.toInt32)), .val (.int (0 : Int32)), .val (.int ((p1 &&& (255 : Int32)).toUInt32.toUInt16.toUInt32.toInt32)), .val (.int ((((p1.toUInt32 >>> ((8 : Int32) &&& 31).toUInt32).toInt32) &&& (255 : Int32)).toUInt32.toUInt16.toUInt32.toInt32)), .unset, .unset, .unset, .unset]) rfl ?_
        show Steps p.tables e below (s₁.setTop (mkF m 60 #[.val (.int p0), .val (.int p1), .val (.int (0 : Int32)), .val (.int ((p0 &&& (255 : Int32)).toUInt32.toUInt16.toUInt32.toInt32)), .val (.int ((((p0.toUInt32 >>> ((8 : Int32) &&& 31).toUInt32).toInt32) &&& (255 : Int32)).toUInt32.toUInt16.toUInt32.toInt32)), .val (.int (0 : Int32)), .val (.int ((p1 &&& (255 : Int32)).toUInt32.toUInt16.toUInt32.toInt32)), .val (.int ((((p1.toUInt32 >>> ((8 : Int32) &&& 31).toUInt32).toInt32) &&& (255 : Int32)).toUInt32.toUInt16.toUInt32.toInt32)), .unset, .unset, .unset, .unset] [])) _
        rw [← ech1]
        show Steps p.tables e below (s₁.setTop (mkF m 60 #[.val (.int p0), .val (.int p1), .val (.int (0 : Int32)), .val (.int ch1), .val (.int ((((p0.toUInt32 >>> ((8 : Int32) &&& 31).toUInt32).toInt32) &&& (255 : Int32)).toUInt32.toUInt16.toUInt32.toInt32)), .val (.int (0 : Int32)), .val (.int ((p1 &&& (255 : Int32)).toUInt32.toUInt16.toUInt32.toInt32)), .val (.int ((((p1.toUInt32 >>> ((8 : Int32) &&& 31).toUInt32).toInt32) &&& (255 : Int32)).toUInt32.toUInt16.toUInt32.toInt32)), .unset, .unset, .unset, .unset] [])) _
        rw [← ech2]
        show Steps p.tables e below (s₁.setTop (mkF m 60 #[.val (.int p0), .val (.int p1), .val (.int (0 : Int32)), .val (.int ch1), .val (.int ch2), .val (.int (0 : Int32)), .val (.int ((p1 &&& (255 : Int32)).toUInt32.toUInt16.toUInt32.toInt32)), .val (.int ((((p1.toUInt32 >>> ((8 : Int32) &&& 31).toUInt32).toInt32) &&& (255 : Int32)).toUInt32.toUInt16.toUInt32.toInt32)), .unset, .unset, .unset, .unset] [])) _
        rw [← ech3]
        show Steps p.tables e below (s₁.setTop (mkF m 60 #[.val (.int p0), .val (.int p1), .val (.int (0 : Int32)), .val (.int ch1), .val (.int ch2), .val (.int (0 : Int32)), .val (.int ch3), .val (.int ((((p1.toUInt32 >>> ((8 : Int32) &&& 31).toUInt32).toInt32) &&& (255 : Int32)).toUInt32.toUInt16.toUInt32.toInt32)), .unset, .unset, .unset, .unset] [])) _
        rw [← ech4]
        show Steps p.tables e below (s₁.setTop (mkF m 60 #[.val (.int p0), .val (.int p1), .val (.int (0 : Int32)), .val (.int ch1), .val (.int ch2), .val (.int (0 : Int32)), .val (.int ch3), .val (.int ch4), .unset, .unset, .unset, .unset] [])) _
        refine XS.iloadN X0.here hx rfl (hb hby at_60) rfl ?_
        refine XS.iloadN X0.here hx rfl (hb hby at_61) rfl ?_
        refine XS.iload X0.here hx rfl (hb hby at_62) rfl ?_
        show Steps p.tables e below (s₁.setTop (mkF m 64 #[.val (.int p0), .val (.int p1), .val (.int (0 : Int32)), .val (.int ch1), .val (.int ch2), .val (.int (0 : Int32)), .val (.int ch3), .val (.int ch4), .unset, .unset, .unset, .unset] [(.int ch2), (.int ch1), (.int (0 : Int32))])) _
        refine st107.trans ?_
        show Steps p.tables e below (T107.setTop (mkF m 67 #[.val (.int p0), .val (.int p1), .val (.int (0 : Int32)), .val (.int ch1), .val (.int ch2), .val (.int (0 : Int32)), .val (.int ch3), .val (.int ch4), .unset, .unset, .unset, .unset] [(.ref o_107)])) _
        refine XS.astore X107b.here hx rfl (hb hby at_67) rfl rfl (l' := #[.val (.int p0), .val (.int p1), .val (.int (0 : Int32)), .val (.int ch1), .val (.int ch2), .val (.int (0 : Int32)), .val (.int ch3), .val (.int ch4), .val (.ref o_107), .unset, .unset, .unset]) rfl ?_
        show Steps p.tables e below (T107.setTop (mkF m 69 #[.val (.int p0), .val (.int p1), .val (.int (0 : Int32)), .val (.int ch1), .val (.int ch2), .val (.int (0 : Int32)), .val (.int ch3), .val (.int ch4), .val (.ref o_107), .unset, .unset, .unset] [])) _
        refine XS.iload X107b.here hx rfl (hb hby at_69) rfl ?_
        refine XS.iload X107b.here hx rfl (hb hby at_71) rfl ?_
        refine XS.iload X107b.here hx rfl (hb hby at_73) rfl ?_
        show Steps p.tables e below (T107.setTop (mkF m 75 #[.val (.int p0), .val (.int p1), .val (.int (0 : Int32)), .val (.int ch1), .val (.int ch2), .val (.int (0 : Int32)), .val (.int ch3), .val (.int ch4), .val (.ref o_107), .unset, .unset, .unset] [(.int ch4), (.int ch3), (.int (0 : Int32))])) _
        refine st109.trans ?_
        show Steps p.tables e below (T109.setTop (mkF m 78 #[.val (.int p0), .val (.int p1), .val (.int (0 : Int32)), .val (.int ch1), .val (.int ch2), .val (.int (0 : Int32)), .val (.int ch3), .val (.int ch4), .val (.ref o_107), .unset, .unset, .unset] [(.ref o_109)])) _
        refine XS.astore X109b.here hx rfl (hb hby at_78) rfl rfl (l' := #[.val (.int p0), .val (.int p1), .val (.int (0 : Int32)), .val (.int ch1), .val (.int ch2), .val (.int (0 : Int32)), .val (.int ch3), .val (.int ch4), .val (.ref o_107), .val (.ref o_109), .unset, .unset]) rfl ?_
        show Steps p.tables e below (T109.setTop (mkF m 80 #[.val (.int p0), .val (.int p1), .val (.int (0 : Int32)), .val (.int ch1), .val (.int ch2), .val (.int (0 : Int32)), .val (.int ch3), .val (.int ch4), .val (.ref o_107), .val (.ref o_109), .unset, .unset] [])) _
        refine XS.aload X109b.here hx rfl (hb hby at_80) rfl rfl ?_
        refine XS.aload X109b.here hx rfl (hb hby at_82) rfl rfl ?_
        show Steps p.tables e below (T109.setTop (mkF m 84 #[.val (.int p0), .val (.int p1), .val (.int (0 : Int32)), .val (.int ch1), .val (.int ch2), .val (.int (0 : Int32)), .val (.int ch3), .val (.int ch4), .val (.ref o_107), .val (.ref o_109), .unset, .unset] [(.ref o_109), (.ref o_107)])) _
        refine st116 _ ?_
        show Steps p.tables e below (T116.setTop (mkF m 87 #[.val (.int p0), .val (.int p1), .val (.int (0 : Int32)), .val (.int ch1), .val (.int ch2), .val (.int (0 : Int32)), .val (.int ch3), .val (.int ch4), .val (.ref o_107), .val (.ref o_109), .unset, .unset] [(.ref o_109)])) _
        refine XS.astore X116.here hx rfl (hb hby at_87) rfl rfl (l' := #[.val (.int p0), .val (.int p1), .val (.int (0 : Int32)), .val (.int ch1), .val (.int ch2), .val (.int (0 : Int32)), .val (.int ch3), .val (.int ch4), .val (.ref o_107), .val (.ref o_109), .val (.ref o_109), .unset]) rfl ?_
        show Steps p.tables e below (T116.setTop (mkF m 89 #[.val (.int p0), .val (.int p1), .val (.int (0 : Int32)), .val (.int ch1), .val (.int ch2), .val (.int (0 : Int32)), .val (.int ch3), .val (.int ch4), .val (.ref o_107), .val (.ref o_109), .val (.ref o_109), .unset] [])) _
        refine XS.aload X116.here hx rfl (hb hby at_89) rfl rfl ?_
        refine XS.ifnonnullYes X116.here hx rfl (pc0 := 91) (pc' := 96) rfl (hb hby at_91) rfl (by decide) (by decide) ?_
        show Steps p.tables e below (T116.setTop (mkF m 96 #[.val (.int p0), .val (.int p1), .val (.int (0 : Int32)), .val (.int ch1), .val (.int ch2), .val (.int (0 : Int32)), .val (.int ch3), .val (.int ch4), .val (.ref o_107), .val (.ref o_109), .val (.ref o_109), .unset] [])) _
        refine XS.iloadN X116.here hx rfl (hb hby at_96) rfl ?_
        refine XS.ifNo X116.here hx rfl (hb hby at_97) rfl ((if0 _ _).trans (teq (by decide : (0 : Int32) = (0 : Int32))).2) ?_
        show Steps p.tables e below (T116.setTop (mkF m 100 #[.val (.int p0), .val (.int p1), .val (.int (0 : Int32)), .val (.int ch1), .val (.int ch2), .val (.int (0 : Int32)), .val (.int ch3), .val (.int ch4), .val (.ref o_107), .val (.ref o_109), .val (.ref o_109), .unset] [])) _
        refine XS.aload X116.here hx rfl (hb hby at_100) rfl rfl ?_
        show Steps p.tables e below (T116.setTop (mkF m 102 #[.val (.int p0), .val (.int p1), .val (.int (0 : Int32)), .val (.int ch1), .val (.int ch2), .val (.int (0 : Int32)), .val (.int ch3), .val (.int ch4), .val (.ref o_107), .val (.ref o_109), .val (.ref o_109), .unset] [(.ref o_109)])) _
        refine st117.trans ?_
        show Steps p.tables e below (T117.setTop (mkF m 105 #[.val (.int p0), .val (.int p1), .val (.int (0 : Int32)), .val (.int ch1), .val (.int ch2), .val (.int (0 : Int32)), .val (.int ch3), .val (.int ch4), .val (.ref o_107), .val (.ref o_109), .val (.ref o_109), .unset] [(.int (0 : Int32))])) _
        refine XS.iload X117.here hx rfl (hb hby at_105) rfl ?_
        refine XS.icmpNo X117.here hx rfl (hb hby at_107) rfl (teq (by decide : (0 : Int32) = (0 : Int32))).2 ?_
        show Steps p.tables e below (T117.setTop (mkF m 110 #[.val (.int p0), .val (.int p1), .val (.int (0 : Int32)), .val (.int ch1), .val (.int ch2), .val (.int (0 : Int32)), .val (.int ch3), .val (.int ch4), .val (.ref o_107), .val (.ref o_109), .val (.ref o_109), .unset] [])) _
        refine XS.aload X117.here hx rfl (hb hby at_110) rfl rfl ?_
        refine XS.aload X117.here hx rfl (hb hby at_112) rfl rfl ?_
        show Steps p.tables e below (T117.setTop (mkF m 114 #[.val (.int p0), .val (.int p1), .val (.int (0 : Int32)), .val (.int ch1), .val (.int ch2), .val (.int (0 : Int32)), .val (.int ch3), .val (.int ch4), .val (.ref o_107), .val (.ref o_109), .val (.ref o_109), .unset] [(.ref o_109), (.ref o_109)])) _
        refine st118.trans ?_
        show Steps p.tables e below (T118.setTop (mkF m 117 #[.val (.int p0), .val (.int p1), .val (.int (0 : Int32)), .val (.int ch1), .val (.int ch2), .val (.int (0 : Int32)), .val (.int ch3), .val (.int ch4), .val (.ref o_107), .val (.ref o_109), .val (.ref o_109), .unset] [(.int (1 : Int32))])) _
        refine XS.ifNo X118.here hx rfl (hb hby at_117) rfl ((if0 _ _).trans (feq (by decide : ¬ ((1 : Int32) = (0 : Int32)))).1) ?_
        show Steps p.tables e below (T118.setTop (mkF m 120 #[.val (.int p0), .val (.int p1), .val (.int (0 : Int32)), .val (.int ch1), .val (.int ch2), .val (.int (0 : Int32)), .val (.int ch3), .val (.int ch4), .val (.ref o_107), .val (.ref o_109), .val (.ref o_109), .unset] [])) _
        refine XS.iconst X118.here hx rfl (hb hby at_120) ?_
        refine XS.goto X118.here hx rfl (pc0 := 121) (pc' := 125) rfl (hb hby at_121) (by decide) (by decide) ?_
        show Steps p.tables e below (T118.setTop (mkF m 125 #[.val (.int p0), .val (.int p1), .val (.int (0 : Int32)), .val (.int ch1), .val (.int ch2), .val (.int (0 : Int32)), .val (.int ch3), .val (.int ch4), .val (.ref o_107), .val (.ref o_109), .val (.ref o_109), .unset] [(.int (1 : Int32))])) _
        exact Jvm.RoadKit.retOut X118 hx Bd.returns rfl (Or.inl ⟨rfl, by simp, _, rfl⟩) (hb hby at_125) hr
      · show Q_rm0 Z p0 p1 zc fm h0 n0 _ T118.heap _
        rw [e118]
        unfold Q_rm0
        exact ⟨rfl, N118, K120⟩
    · by_cases hr105 : ((((p1.toUInt32 >>> ((16 : Int32) &&& 31).toUInt32).toInt32) &&& (255 : Int32)) % (3 : Int32)) = (1 : Int32)
      · obtain ⟨ch1, ech1, gch1⟩ : ∃ z, z = ((p0 &&& (255 : Int32)).toUInt32.toUInt16.toUInt32.toInt32) ∧ C8 z := ⟨_, rfl, own_ch8 _⟩
        obtain ⟨ch2, ech2, gch2⟩ : ∃ z, z = ((((p0.toUInt32 >>> ((8 : Int32) &&& 31).toUInt32).toInt32) &&& (255 : Int32)).toUInt32.toUInt16.toUInt32.toInt32) ∧ C8 z := ⟨_, rfl, own_ch8 _⟩
        obtain ⟨ch3, ech3, gch3⟩ : ∃ z, z = ((p1 &&& (255 : Int32)).toUInt32.toUInt16.toUInt32.toInt32) ∧ C8 z := ⟨_, rfl, own_ch8 _⟩
        obtain ⟨ch4, ech4, gch4⟩ : ∃ z, z = ((((p1.toUInt32 >>> ((8 : Int32) &&& 31).toUInt32).toInt32) &&& (255 : Int32)).toUInt32.toUInt16.toUInt32.toInt32) ∧ C8 z := ⟨_, rfl, own_ch8 _⟩
        obtain ⟨_, _, ⟨T122, L122, k122, n122⟩, -, X122, hs122', hg122', ⟨Lc122, hQ122, l122, y122, z122, CX122⟩, st122⟩ := Jvm.RoadKit.callSS X0 hx (y := (⟨"com/example/syndex/syndex/SectionKeyPathPinLaw", "mk", "(ICC)Ljava/lang/String;"⟩ : MethodName)) hown (mvT hZ (hwk hw 0 rfl)) (mvT hZ (hwk hw 1 rfl)) (mvT hZ (hwk hw 2 rfl)) (mvT hZ (hwk hw 3 rfl)) (by decide) (own_backSH (W := 0) (mk0 l Z a0 hw [] ch1 ch2 zc h0 n0 O0 gch1 gch2 SZ PZ) hZ (hwk hw 3 rfl) (hwk hw 2 rfl) (by decide) (by decide) hEL CR0.1 (fun _ q => nomatch q)) (g := (mkF m 64 #[.val (.int p0), .val (.int p1), .val (.int (0 : Int32)), .val (.int ch1), .val (.int ch2), .val (.int (1 : Int32)), .val (.int ch3), .val (.int ch4), .unset, .unset, .unset, .unset] [(.int ch2), (.int ch1), (.int (0 : Int32))])) rfl (by rw [hml]; rfl) (argsL := [(.int (0 : Int32)), (.int ch1), (.int ch2)]) (rest := []) (lenOf pd_23 rfl) rfl (by show 2 * 0 + _ ≤ _; exact Nat.le_of_eq rfl) (hb hby at_64) (fun _ _ => ⟨rfl, e0, (by decide : 0 + 6 ≤ _), (by decide : 0 + 12 ≤ _)⟩)
        dsimp only [Pt.U, Pt.locs, Pt.cells, Pt.slots] at X122 l122 y122 z122 st122 hQ122 hs122' hg122' CX122
        subst l122 y122 z122
        obtain ⟨X122b, hS122, hZ122, hown122⟩ := rebS hS0 (show _ ≤ s₁.heap.size from by rw [e0]; exact (Nat.le_refl _)) X122 hs122' hg122' hZ hown
        unfold Q_mk0 at hQ122
        obtain ⟨o_122, t_122, kb_122, rfl, N122q, K122, ge_o_122, f122_0, f122_1, f122_2, f122_3⟩ := hQ122
        have N122 := Fr.app N0 N122q
        have g_o_122 : n0 ≤ o_122 := Nat.le_trans (old_le O0) ge_o_122
        have O123 : Old Z n0 T122.heap := Old.keep O0 K122 all0
        obtain ⟨_, _, ⟨T124, L124, k124, n124⟩, -, X124, ⟨Lc124, hQ124, l124, y124, z124⟩, st124⟩ := Jvm.LawKit.callS X122b hx (y := (⟨"com/example/syndex/syndex/SectionKeyPathPinLaw", "mk", "(ICC)Ljava/lang/String;"⟩ : MethodName)) hown122 (mvT hZ122 (hwk hw 0 rfl)) (mvT hZ122 (hwk hw 1 rfl)) (mvT hZ122 (hwk hw 2 rfl)) (mvT hZ122 (hwk hw 3 rfl)) (by decide) (backOf (W := 0) (mk1 l Z a0 hw [] ch3 ch4 zc T122.heap n0 O123 gch3 gch4 SZ PZ) hZ122 (hwk hw 3 rfl) (hwk hw 2 rfl) (by decide) (by decide)) (g := (mkF m 75 #[.val (.int p0), .val (.int p1), .val (.int (0 : Int32)), .val (.int ch1), .val (.int ch2), .val (.int (1 : Int32)), .val (.int ch3), .val (.int ch4), .val (.ref o_122), .unset, .unset, .unset] [(.int ch4), (.int ch3), (.int (1 : Int32))])) rfl (by rw [hml]; rfl) (argsL := [(.int (1 : Int32)), (.int ch3), (.int ch4)]) (rest := []) (lenOf pd_23 rfl) rfl (by show 2 * 0 + _ ≤ _; exact Nat.le_of_eq rfl) (hb hby at_75) (fun _ _ => ⟨rfl, (rfl : T122.heap = T122.heap), (by decide : 6 + 2 ≤ _), (by decide : 12 + 5 ≤ _)⟩)
        dsimp only [Pt.U, Pt.locs, Pt.cells, Pt.slots] at X124 l124 y124 z124 st124 hQ124
        subst l124 y124 z124
        unfold Q_mk1 at hQ124
        obtain ⟨o_124, t_124, kb_124, rfl, N124q, K124, ge_o_124, f124_0, f124_1, f124_2, f124_3⟩ := hQ124
        have N124 := Fr.app N122 N124q
        have g_o_124 : n0 ≤ o_124 := Nat.le_trans (old_le O123) ge_o_124
        have c125 : Exa Z T124.heap o_122 "java/lang/String" := (Exa.keep f122_0 K124)
        have c126 : Fld Z T124.heap o_122 "java/lang/String" "value" "[B" (.ref t_122) := (Fld.keep f122_1 K124 nin0)
        have c127 : Fld Z T124.heap o_122 "java/lang/String" "coder" "B" (.int (0 : Int32)) := (Fld.keep f122_2 K124 nin0)
        have c128 : Arv Z T124.heap t_122 kb_122 .byte (0 : Int32) [] (.int (0 : Int32)) := (Arv.keep f122_3 K124 nin0)
        have O129 : Old Z n0 T124.heap := Old.keep O123 K124 all0
        obtain ⟨_, _, ⟨T130, L130, k130, n130⟩, -, X130, ⟨Lc130, hQ130, l130, y130, z130⟩, st130⟩ := Jvm.LawKit.callS X124 hx (y := (⟨"com/example/syndex/syndex/Section", "keyPath", "(Ljava/lang/String;Ljava/lang/String;)Ljava/lang/String;"⟩ : MethodName)) hown122 (mvT hZ122 (hwk hw 26 rfl)) (mvT hZ122 (hwk hw 27 rfl)) (mvT hZ122 (hwk hw 28 rfl)) (mvT hZ122 (hwk hw 29 rfl)) (by decide) (backOf (W := 0) (kp0 l Z a0 hw [] o_122 t_122 kb_122 (0 : Int32) [] o_124 T124.heap n0 O129 c125 c126 c127 c128 rfl) hZ122 (hwk hw 29 rfl) (hwk hw 28 rfl) (by decide) (by decide)) (g := (mkF m 84 #[.val (.int p0), .val (.int p1), .val (.int (0 : Int32)), .val (.int ch1), .val (.int ch2), .val (.int (1 : Int32)), .val (.int ch3), .val (.int ch4), .val (.ref o_122), .val (.ref o_124), .unset, .unset] [(.ref o_124), (.ref o_122)])) rfl (by rw [hml]; rfl) (argsL := [(.ref o_122), (.ref o_124)]) (rest := []) (lenOf pd_24 rfl) rfl (by show 2 * 0 + _ ≤ _; exact Nat.le_of_eq rfl) (hb hby at_84) (fun _ _ => ⟨rfl, (rfl : T124.heap = T124.heap), (by decide : 8 + 0 ≤ _), (by decide : 17 + 0 ≤ _)⟩)
        dsimp only [Pt.U, Pt.locs, Pt.cells, Pt.slots] at X130 l130 y130 z130 st130 hQ130
        subst l130 y130 z130
        unfold Q_kp0 at hQ130
        obtain ⟨rfl, N130q, e130⟩ := hQ130
        have N130 := Fr.app N124 N130q
        obtain ⟨cq131, kq131, q131a, q131b, q131c⟩ := isOf hZ122 e130 f124_0
        obtain ⟨_, _, ⟨T131, L131, k131, n131⟩, -, X131, ⟨Lc131, hQ131, l131, y131, z131⟩, st131⟩ := X130.virtualBack hx (y := (⟨"java/lang/String", "length", "()I"⟩ : MethodName)) (z := (⟨"java/lang/String", "length", "()I"⟩ : MethodName)) hown122 (mvT hZ122 (hwk hw 35 rfl)) (mvT hZ122 (hwk hw 36 rfl)) (notFace_of_selects (args := #[]) (mvT hZ122 (hwk hw 38 rfl))) (mvT hZ122 (hwk hw 38 rfl)) (mvT hZ122 (hwk hw 37 rfl)) (by decide) (backOf (W := 0) (rm7 l Z a0 hw [] o_124 t_124 kb_124 (1 : Int32) ([(.int (BY ch3))]) zc T124.heap n0 O129 f124_0 f124_1 f124_2 f124_3 SZ PZ) hZ122 (hwk hw 39 rfl) (hwk hw 6 rfl) (by decide) (by decide)) q131a q131c (g := (mkF m 102 #[.val (.int p0), .val (.int p1), .val (.int (0 : Int32)), .val (.int ch1), .val (.int ch2), .val (.int (1 : Int32)), .val (.int ch3), .val (.int ch4), .val (.ref o_122), .val (.ref o_124), .val (.ref o_124), .unset] [(.ref o_124)])) rfl (by rw [hml]; rfl) (Steps.refl _) (argsL := []) (rest := []) (lenOf pd_10 rfl) rfl (by show 2 * 0 + _ ≤ _; exact Nat.le_of_eq rfl) (hb hby at_102) (fun _ _ => ⟨rfl, e130, (by decide : 8 + 0 ≤ _), (by decide : 17 + 0 ≤ _)⟩)
        dsimp only [Pt.U, Pt.locs, Pt.cells, Pt.slots] at X131 l131 y131 z131 st131 hQ131
        subst l131 y131 z131
        unfold Q_rm7 at hQ131
        obtain ⟨rfl, N131q, e131⟩ := hQ131
        have N131 := Fr.app N130 N131q
        obtain ⟨cq132, kq132, q132a, q132b, q132c⟩ := isOf hZ122 e131 f124_0
        obtain ⟨_, _, ⟨T132, L132, k132, n132⟩, -, X132, ⟨Lc132, hQ132, l132, y132, z132⟩, st132⟩ := X131.virtualBack hx (y := (⟨"java/lang/String", "equals", "(Ljava/lang/Object;)Z"⟩ : MethodName)) (z := (⟨"java/lang/String", "equals", "(Ljava/lang/Object;)Z"⟩ : MethodName)) hown122 (mvT hZ122 (hwk hw 46 rfl)) (mvT hZ122 (hwk hw 47 rfl)) (notFace_of_selects (args := #[]) (mvT hZ122 (hwk hw 49 rfl))) (mvT hZ122 (hwk hw 49 rfl)) (mvT hZ122 (hwk hw 48 rfl)) (by decide) (backOf (W := 0) (rm9 l Z a0 hw [] o_124 T124.heap n0 O129 ) hZ122 (hwk hw 50 rfl) (hwk hw 6 rfl) (by decide) (by decide)) q132a q132c (g := (mkF m 114 #[.val (.int p0), .val (.int p1), .val (.int (0 : Int32)), .val (.int ch1), .val (.int ch2), .val (.int (1 : Int32)), .val (.int ch3), .val (.int ch4), .val (.ref o_122), .val (.ref o_124), .val (.ref o_124), .unset] [(.ref o_124), (.ref o_124)])) rfl (by rw [hml]; rfl) (Steps.refl _) (argsL := [(.ref o_124)]) (rest := []) (lenOf pd_25 rfl) rfl (by show 2 * 0 + _ ≤ _; exact Nat.le_of_eq rfl) (hb hby at_114) (fun _ _ => ⟨rfl, e131, (by decide : 8 + 0 ≤ _), (by decide : 17 + 0 ≤ _)⟩)
        dsimp only [Pt.U, Pt.locs, Pt.cells, Pt.slots] at X132 l132 y132 z132 st132 hQ132
        subst l132 y132 z132
        unfold Q_rm9 at hQ132
        obtain ⟨rfl, N132q, e132⟩ := hQ132
        have N132 := Fr.app N131 N132q
        have K133 : Keep h0 T122.heap [] := Keep.trans (Keep.refl h0 []) K122 all0
        have K134 : Keep h0 T124.heap [] := Keep.trans K133 K124 all0
        have CR135 : CHr Z consts_1 s.vm h0 T122.vm T122.heap := CHr.trans CR0 CX122
        have CR136 : CHr Z consts_1 s.vm h0 T122.vm T124.heap := CHr.trans CR135 (CHr.keep K124 all0 CR135.1)
        obtain ⟨fs, hr, hrun, hended, hRE⟩ := X132.leaveW hS122 (show _ ≤ T132.heap.size from by rw [e132]; exact (Nat.le_trans (Nat.le_refl _) (Nat.le_trans (Nat.le_refl _) K124.1))) (v := some (.int (1 : Int32))) (fun h => by rw [Bd.returns] at h; cases h)
        have CRl : CHr Z consts_1 s.vm s.heap (T132.setFrames fs).vm (T132.setFrames fs).heap := by
          have q := CHr.trans CR136 (CHv.at X132 hZ122 hEL CR136.1)
          rw [← hh, ← e132] at q
          exact q
        refine ⟨_, _, S106 _ ?_, hrun, hended, _, _, rfl, ?_, CRl, hRE.1, hRE.2.1, hRE.2.2.1, hRE.2.2.2.mono (by decide) (by decide)⟩
        · show Steps p.tables e below (s₁.setTop (mkF m 39 #[.val (.int p0), .val (.int p1), .val (.int (0 : Int32)), .val (.int ((p0 &&& (255 : Int32)).toUInt32.toUInt16.toUInt32.toInt32)), .val (.int ((((p0.toUInt32 >>> ((8 : Int32) &&& 31).toUInt32).toInt32) &&& (255 : Int32)).toUInt32.toUInt16.toUInt32.toInt32)), .unset, .unset, .unset, .unset, .unset, .unset, .unset] [(.int ((((p1.toUInt32 >>> ((16 : Int32) &&& 31).toUInt32).toInt32) &&& (255 : Int32)) % (3 : Int32)))])) _
          rw [hr105]
          show Steps p.tables e below (s₁.setTop (mkF m 39 #[.val (.int p0), .val (.int p1), .val (.int (0 : Int32)), .val (.int ((p0 &&& (255 : Int32)).toUInt32.toUInt16.toUInt32.toInt32)), .val (.int ((((p0.toUInt32 >>> ((8 : Int32) &&& 31).toUInt32).toInt32) &&& (255 : Int32)).toUInt32.toUInt16.toUInt32.toInt32)), .unset, .unset, .unset, .unset, .unset, .unset, .unset] [(.int (1 : Int32))])) _
          refine XS.istore X0.here hx rfl (hb hby at_39) rfl (l' := #[.val (.int p0), .val (.int p1), .val (.int (0 : Int32)), .val (.int ((p0 &&& (255 : Int32)).toUInt32.toUInt16.toUInt32.toInt32)), .val (.int ((((p0.toUInt32 >>> ((8 : Int32) &&& 31).toUInt32).toInt32) &&& (255 : Int32)).toUInt32.toUInt16.toUInt32.toInt32)), .val (.int (1 : Int32)), .unset, .unset, .unset, .unset, .unset, .unset]) rfl ?_
          show Steps p.tables e below (s₁.setTop (mkF m 41 #[.val (.int p0), .val (.int p1), .val (.int (0 : Int32)), .val (.int ((p0 &&& (255 : Int32)).toUInt32.toUInt16.toUInt32.toInt32)), .val (.int ((((p0.toUInt32 >>> ((8 : Int32) &&& 31).toUInt32).toInt32) &&& (255 : Int32)).toUInt32.toUInt16.toUInt32.toInt32)), .val (.int (1 : Int32)), .unset, .unset, .unset, .unset, .unset, .unset] [])) _
          refine XS.iloadN X0.here hx rfl (hb hby at_41) rfl ?_
          refine XS.sipush X0.here hx rfl (hb hby at_42) ?_
          refine XS.iand X0.here hx rfl (hb hby at_45) rfl ?_
          show Steps p.tables e below (s₁.setTop (mkF m 46 #[.val (.int p0), .val (.int p1), .val (.int (0 : Int32)), .val (.int ((p0 &&& (255 : Int32)).toUInt32.toUInt16.toUInt32.toInt32)), .val (.int ((((p0.toUInt32 >>> ((8 : Int32) &&& 31).toUInt32).toInt32) &&& (255 : Int32)).toUInt32.toUInt16.toUInt32.toInt32)), .val (.int (1 : Int32)), .unset, .unset, .unset, .unset, .unset, .unset] [(.int (p1 &&& (255 : Int32)))])) _
          refine XS.i2c X0.here hx rfl (hb hby at_46) rfl ?_
          show Steps p.tables e below (s₁.setTop (mkF m 47 #[.val (.int p0), .val (.int p1), .val (.int (0 : Int32)), .val (.int ((p0 &&& (255 : Int32)).toUInt32.toUInt16.toUInt32.toInt32)), .val (.int ((((p0.toUInt32 >>> ((8 : Int32) &&& 31).toUInt32).toInt32) &&& (255 : Int32)).toUInt32.toUInt16.toUInt32.toInt32)), .val (.int (1 : Int32)), .unset, .unset, .unset, .unset, .unset, .unset] [(.int ((p1 &&& (255 : Int32)).toUInt32.toUInt16.toUInt32.toInt32))])) _
          refine XS.istore X0.here hx rfl (hb hby at_47) rfl (l' := #[.val (.int p0), .val (.int p1), .val (.int (0 : Int32)), .val (.int ((p0 &&& (255 : Int32)).toUInt32.toUInt16.toUInt32.toInt32)), .val (.int ((((p0.toUInt32 >>> ((8 : Int32) &&& 31).toUInt32).toInt32) &&& (255 : Int32)).toUInt32.toUInt16.toUInt32.toInt32)), .val (.int (1 : Int32)), .val (.int ((p1 &&& (255 : Int32)).toUInt32.toUInt16.toUInt32.toInt32)), .unset, .unset, .unset, .unset, .unset]) rfl ?_
          show Steps p.tables e below (s₁.setTop (mkF m 49 #[.val (.int p0), .val (.int p1), .val (.int (0 : Int32)), .val (.int ((p0 &&& (255 : Int32)).toUInt32.toUInt16.toUInt32.toInt32)), .val (.int ((((p0.toUInt32 >>> ((8 : Int32) &&& 31).toUInt32).toInt32) &&& (255 : Int32)).toUInt32.toUInt16.toUInt32.toInt32)), .val (.int (1 : Int32)), .val (.int ((p1 &&& (255 : Int32)).toUInt32.toUInt16.toUInt32.toInt32)), .unset, .unset, .unset, .unset, .unset] [])) _
          refine XS.iloadN X0.here hx rfl (hb hby at_49) rfl ?_
          refine XS.bipush X0.here hx rfl (hb hby at_50) ?_
          refine XS.iushr X0.here hx rfl (hb hby at_52) rfl ?_
          show Steps p.tables e below (s₁.setTop (mkF m 53 #[.val (.int p0), .val (.int p1), .val (.int (0 : Int32)), .val (.int ((p0 &&& (255 : Int32)).toUInt32.toUInt16.toUInt32.toInt32)), .val (.int ((((p0.toUInt32 >>> ((8 : Int32) &&& 31).toUInt32).toInt32) &&& (255 : Int32)).toUInt32.toUInt16.toUInt32.toInt32)), .val (.int (1 : Int32)), .val (.int ((p1 &&& (255 : Int32)).toUInt32.toUInt16.toUInt32.toInt32)), .unset, .unset, .unset, .unset, .unset] [(.int ((p1.toUInt32 >>> ((8 : Int32) &&& 31).toUInt32).toInt32))])) _
          refine XS.sipush X0.here hx rfl (hb hby at_53) ?_
          refine XS.iand X0.here hx rfl (hb hby at_56) rfl ?_
          show Steps p.tables e below (s₁.setTop (mkF m 57 #[.val (.int p0), .val (.int p1), .val (.int (0 : Int32)), .val (.int ((p0 &&& (255 : Int32)).toUInt32.toUInt16.toUInt32.toInt32)), .val (.int ((((p0.toUInt32 >>> ((8 : Int32) &&& 31).toUInt32).toInt32) &&& (255 : Int32)).toUInt32.toUInt16.toUInt32.toInt32)), .val (.int (1 : Int32)), .val (.int ((p1 &&& (255 : Int32)).toUInt32.toUInt16.toUInt32.toInt32)), .unset, .unset, .unset, .unset, .unset] [(.int (((p1.toUInt32 >>> ((8 : Int32) &&& 31).toUInt32).toInt32) &&& (255 : Int32)))])) _
          refine XS.i2c X0.here hx rfl (hb hby at_57) rfl ?_
          show Steps p.tables e below (s₁.setTop (mkF m 58 #[.val (.int p0), .val (.int p1), .val (.int (0 : Int32)), .val (.int ((p0 &&& (255 : Int32)).toUInt32.toUInt16.toUInt32.toInt32)), .val (.int ((((p0.toUInt32 >>> ((8 : Int32) &&& 31).toUInt32).toInt32) &&& (255 : Int32)).toUInt32.toUInt16.toUInt32.toInt32)), .val (.int (1 : Int32)), .val (.int ((p1 &&& (255 : Int32)).toUInt32.toUInt16.toUInt32.toInt32)), .unset, .unset, .unset, .unset, .unset] [(.int ((((p1.toUInt32 >>> ((8 : Int32) &&& 31).toUInt32).toInt32) &&& (255 : Int32)).toUInt32.toUInt16.toUInt32.toInt32))])) _
          refine XS.istore X0.here hx rfl (hb hby at_58) rfl (l' := #[.val (.int p0), .val (.int p1), .val (.int (0 : Int32)), .val (.int ((p0 &&& (255 : Int32)).toUInt32.toUInt16.toUInt32.toInt32)), .val (.int ((((p0.toUInt32 >>> ((8 : Int32) &&& 31).toUInt32).toInt32) &&& (255 : Int32)).toUInt32.toUInt16.toUInt32.toInt32)), .val (.int (1 : Int32)), .val (.int ((p1 &&& (255 : Int32)).toUInt32.toUInt16.toUInt32.toInt32)), .val (.int ((((p1.toUInt32 >>> ((8 : Int32) &&& 31).toUInt32).toInt32) &&& (255 : Int32)).toUInt32.toUInt16.toUInt32.toInt32)), .unset, .unset, .unset, .unset]) rfl ?_
          show Steps p.tables e below (s₁.setTop (mkF m 60 #[.val (.int p0), .val (.int p1), .val (.int (0 : Int32)), .val (.int ((p0 &&& (255 : Int32)).toUInt32.toUInt16.toUInt32.toInt32)), .val (.int ((((p0.toUInt32 >>> ((8 : Int32) &&& 31).toUInt32).toInt32) &&& (255 : Int32)).toUInt32.toUInt16.toUInt32.toInt32)), .val (.int (1 : Int32)), .val (.int ((p1 &&& (255 : Int32)).toUInt32.toUInt16.toUInt32.toInt32)), .val (.int ((((p1.toUInt32 >>> ((8 : Int32) &&& 31).toUInt32).toInt32) &&& (255 : Int32)).toUInt32.toUInt16.toUInt32.toInt32)), .unset, .unset, .unset, .unset] [])) _
          rw [← ech1]
          show Steps p.tables e below (s₁.setTop (mkF m 60 #[.val (.int p0), .val (.int p1), .val (.int (0 : Int32)), .val (.int ch1), .val (.int ((((p0.toUInt32 >>> ((8 : Int32) &&& 31).toUInt32).toInt32) &&& (255 : Int32)).toUInt32.toUInt16.toUInt32.toInt32)), .val (.int (1 : Int32)), .val (.int ((p1 &&& (255 : Int32)).toUInt32.toUInt16.toUInt32.toInt32)), .val (.int ((((p1.toUInt32 >>> ((8 : Int32) &&& 31).toUInt32).toInt32) &&& (255 : Int32)).toUInt32.toUInt16.toUInt32.toInt32)), .unset, .unset, .unset, .unset] [])) _
          rw [← ech2]
          show Steps p.tables e below (s₁.setTop (mkF m 60 #[.val (.int p0), .val (.int p1), .val (.int (0 : Int32)), .val (.int ch1), .val (.int ch2), .val (.int (1 : Int32)), .val (.int ((p1 &&& (255 : Int32)).toUInt32.toUInt16.toUInt32.toInt32)), .val (.int ((((p1.toUInt32 >>> ((8 : Int32) &&& 31).toUInt32).toInt32) &&& (255 : Int32)).toUInt32.toUInt16.toUInt32.toInt32)), .unset, .unset, .unset, .unset] [])) _
          rw [← ech3]
          show Steps p.tables e below (s₁.setTop (mkF m 60 #[.val (.int p0), .val (.int p1), .val (.int (0 : Int32)), .val (.int ch1), .val (.int ch2), .val (.int (1 : Int32)), .val (.int ch3), .val (.int ((((p1.toUInt32 >>> ((8 : Int32) &&& 31).toUInt32).toInt32) &&& (255 : Int32)).toUInt32.toUInt16.toUInt32.toInt32)), .unset, .unset, .unset, .unset] [])) _
          rw [← ech4]
          show Steps p.tables e below (s₁.setTop (mkF m 60 #[.val (.int p0), .val (.int p1), .val (.int (0 : Int32)), .val (.int ch1), .val (.int ch2), .val (.int (1 : Int32)), .val (.int ch3), .val (.int ch4), .unset, .unset, .unset, .unset] [])) _
          refine XS.iloadN X0.here hx rfl (hb hby at_60) rfl ?_
          refine XS.iloadN X0.here hx rfl (hb hby at_61) rfl ?_
          refine XS.iload X0.here hx rfl (hb hby at_62) rfl ?_
          show Steps p.tables e below (s₁.setTop (mkF m 64 #[.val (.int p0), .val (.int p1), .val (.int (0 : Int32)), .val (.int ch1), .val (.int ch2), .val (.int (1 : Int32)), .val (.int ch3), .val (.int ch4), .unset, .unset, .unset, .unset] [(.int ch2), (.int ch1), (.int (0 : Int32))])) _
          refine st122.trans ?_
          show Steps p.tables e below (T122.setTop (mkF m 67 #[.val (.int p0), .val (.int p1), .val (.int (0 : Int32)), .val (.int ch1), .val (.int ch2), .val (.int (1 : Int32)), .val (.int ch3), .val (.int ch4), .unset, .unset, .unset, .unset] [(.ref o_122)])) _
          refine XS.astore X122b.here hx rfl (hb hby at_67) rfl rfl (l' := #[.val (.int p0), .val (.int p1), .val (.int (0 : Int32)), .val (.int ch1), .val (.int ch2), .val (.int (1 : Int32)), .val (.int ch3), .val (.int ch4), .val (.ref o_122), .unset, .unset, .unset]) rfl ?_
          show Steps p.tables e below (T122.setTop (mkF m 69 #[.val (.int p0), .val (.int p1), .val (.int (0 : Int32)), .val (.int ch1), .val (.int ch2), .val (.int (1 : Int32)), .val (.int ch3), .val (.int ch4), .val (.ref o_122), .unset, .unset, .unset] [])) _
          refine XS.iload X122b.here hx rfl (hb hby at_69) rfl ?_
          refine XS.iload X122b.here hx rfl (hb hby at_71) rfl ?_
          refine XS.iload X122b.here hx rfl (hb hby at_73) rfl ?_
          show Steps p.tables e below (T122.setTop (mkF m 75 #[.val (.int p0), .val (.int p1), .val (.int (0 : Int32)), .val (.int ch1), .val (.int ch2), .val (.int (1 : Int32)), .val (.int ch3), .val (.int ch4), .val (.ref o_122), .unset, .unset, .unset] [(.int ch4), (.int ch3), (.int (1 : Int32))])) _
          refine st124 _ ?_
          show Steps p.tables e below (T124.setTop (mkF m 78 #[.val (.int p0), .val (.int p1), .val (.int (0 : Int32)), .val (.int ch1), .val (.int ch2), .val (.int (1 : Int32)), .val (.int ch3), .val (.int ch4), .val (.ref o_122), .unset, .unset, .unset] [(.ref o_124)])) _
          refine XS.astore X124.here hx rfl (hb hby at_78) rfl rfl (l' := #[.val (.int p0), .val (.int p1), .val (.int (0 : Int32)), .val (.int ch1), .val (.int ch2), .val (.int (1 : Int32)), .val (.int ch3), .val (.int ch4), .val (.ref o_122), .val (.ref o_124), .unset, .unset]) rfl ?_
          show Steps p.tables e below (T124.setTop (mkF m 80 #[.val (.int p0), .val (.int p1), .val (.int (0 : Int32)), .val (.int ch1), .val (.int ch2), .val (.int (1 : Int32)), .val (.int ch3), .val (.int ch4), .val (.ref o_122), .val (.ref o_124), .unset, .unset] [])) _
          refine XS.aload X124.here hx rfl (hb hby at_80) rfl rfl ?_
          refine XS.aload X124.here hx rfl (hb hby at_82) rfl rfl ?_
          show Steps p.tables e below (T124.setTop (mkF m 84 #[.val (.int p0), .val (.int p1), .val (.int (0 : Int32)), .val (.int ch1), .val (.int ch2), .val (.int (1 : Int32)), .val (.int ch3), .val (.int ch4), .val (.ref o_122), .val (.ref o_124), .unset, .unset] [(.ref o_124), (.ref o_122)])) _
          refine st130 _ ?_
          show Steps p.tables e below (T130.setTop (mkF m 87 #[.val (.int p0), .val (.int p1), .val (.int (0 : Int32)), .val (.int ch1), .val (.int ch2), .val (.int (1 : Int32)), .val (.int ch3), .val (.int ch4), .val (.ref o_122), .val (.ref o_124), .unset, .unset] [(.ref o_124)])) _
          refine XS.astore X130.here hx rfl (hb hby at_87) rfl rfl (l' := #[.val (.int p0), .val (.int p1), .val (.int (0 : Int32)), .val (.int ch1), .val (.int ch2), .val (.int (1 : Int32)), .val (.int ch3), .val (.int ch4), .val (.ref o_122), .val (.ref o_124), .val (.ref o_124), .unset]) rfl ?_
          show Steps p.tables e below (T130.setTop (mkF m 89 #[.val (.int p0), .val (.int p1), .val (.int (0 : Int32)), .val (.int ch1), .val (.int ch2), .val (.int (1 : Int32)), .val (.int ch3), .val (.int ch4), .val (.ref o_122), .val (.ref o_124), .val (.ref o_124), .unset] [])) _
          refine XS.aload X130.here hx rfl (hb hby at_89) rfl rfl ?_
          refine XS.ifnonnullYes X130.here hx rfl (pc0 := 91) (pc' := 96) rfl (hb hby at_91) rfl (by decide) (by decide) ?_
          show Steps p.tables e below (T130.setTop (mkF m 96 #[.val (.int p0), .val (.int p1), .val (.int (0 : Int32)), .val (.int ch1), .val (.int ch2), .val (.int (1 : Int32)), .val (.int ch3), .val (.int ch4), .val (.ref o_122), .val (.ref o_124), .val (.ref o_124), .unset] [])) _
          refine XS.iloadN X130.here hx rfl (hb hby at_96) rfl ?_
          refine XS.ifNo X130.here hx rfl (hb hby at_97) rfl ((if0 _ _).trans (teq (by decide : (0 : Int32) = (0 : Int32))).2) ?_
          show Steps p.tables e below (T130.setTop (mkF m 100 #[.val (.int p0), .val (.int p1), .val (.int (0 : Int32)), .val (.int ch1), .val (.int ch2), .val (.int (1 : Int32)), .val (.int ch3), .val (.int ch4), .val (.ref o_122), .val (.ref o_124), .val (.ref o_124), .unset] [])) _
          refine XS.aload X130.here hx rfl (hb hby at_100) rfl rfl ?_
          show Steps p.tables e below (T130.setTop (mkF m 102 #[.val (.int p0), .val (.int p1), .val (.int (0 : Int32)), .val (.int ch1), .val (.int ch2), .val (.int (1 : Int32)), .val (.int ch3), .val (.int ch4), .val (.ref o_122), .val (.ref o_124), .val (.ref o_124), .unset] [(.ref o_124)])) _
          refine st131.trans ?_
          show Steps p.tables e below (T131.setTop (mkF m 105 #[.val (.int p0), .val (.int p1), .val (.int (0 : Int32)), .val (.int ch1), .val (.int ch2), .val (.int (1 : Int32)), .val (.int ch3), .val (.int ch4), .val (.ref o_122), .val (.ref o_124), .val (.ref o_124), .unset] [(.int (1 : Int32))])) _
          refine XS.iload X131.here hx rfl (hb hby at_105) rfl ?_
          refine XS.icmpNo X131.here hx rfl (hb hby at_107) rfl (teq (by decide : (1 : Int32) = (1 : Int32))).2 ?_
          show Steps p.tables e below (T131.setTop (mkF m 110 #[.val (.int p0), .val (.int p1), .val (.int (0 : Int32)), .val (.int ch1), .val (.int ch2), .val (.int (1 : Int32)), .val (.int ch3), .val (.int ch4), .val (.ref o_122), .val (.ref o_124), .val (.ref o_124), .unset] [])) _
          refine XS.aload X131.here hx rfl (hb hby at_110) rfl rfl ?_
          refine XS.aload X131.here hx rfl (hb hby at_112) rfl rfl ?_
          show Steps p.tables e below (T131.setTop (mkF m 114 #[.val (.int p0), .val (.int p1), .val (.int (0 : Int32)), .val (.int ch1), .val (.int ch2), .val (.int (1 : Int32)), .val (.int ch3), .val (.int ch4), .val (.ref o_122), .val (.ref o_124), .val (.ref o_124), .unset] [(.ref o_124), (.ref o_124)])) _
          refine st132.trans ?_
          show Steps p.tables e below (T132.setTop (mkF m 117 #[.val (.int p0), .val (.int p1), .val (.int (0 : Int32)), .val (.int ch1), .val (.int ch2), .val (.int (1 : Int32)), .val (.int ch3), .val (.int ch4), .val (.ref o_122), .val (.ref o_124), .val (.ref o_124), .unset] [(.int (1 : Int32))])) _
          refine XS.ifNo X132.here hx rfl (hb hby at_117) rfl ((if0 _ _).trans (feq (by decide : ¬ ((1 : Int32) = (0 : Int32)))).1) ?_
          show Steps p.tables e below (T132.setTop (mkF m 120 #[.val (.int p0), .val (.int p1), .val (.int (0 : Int32)), .val (.int ch1), .val (.int ch2), .val (.int (1 : Int32)), .val (.int ch3), .val (.int ch4), .val (.ref o_122), .val (.ref o_124), .val (.ref o_124), .unset] [])) _
          refine XS.iconst X132.here hx rfl (hb hby at_120) ?_
          refine XS.goto X132.here hx rfl (pc0 := 121) (pc' := 125) rfl (hb hby at_121) (by decide) (by decide) ?_
          show Steps p.tables e below (T132.setTop (mkF m 125 #[.val (.int p0), .val (.int p1), .val (.int (0 : Int32)), .val (.int ch1), .val (.int ch2), .val (.int (1 : Int32)), .val (.int ch3), .val (.int ch4), .val (.ref o_122), .val (.ref o_124), .val (.ref o_124), .unset] [(.int (1 : Int32))])) _
          exact Jvm.RoadKit.retOut X132 hx Bd.returns rfl (Or.inl ⟨rfl, by simp, _, rfl⟩) (hb hby at_125) hr
        · show Q_rm0 Z p0 p1 zc fm h0 n0 _ T132.heap _
          rw [e132]
          unfold Q_rm0
          exact ⟨rfl, N132, K134⟩
      · obtain ⟨ch1, ech1, gch1⟩ : ∃ z, z = ((p0 &&& (255 : Int32)).toUInt32.toUInt16.toUInt32.toInt32) ∧ C8 z := ⟨_, rfl, own_ch8 _⟩
        obtain ⟨ch2, ech2, gch2⟩ : ∃ z, z = ((((p0.toUInt32 >>> ((8 : Int32) &&& 31).toUInt32).toInt32) &&& (255 : Int32)).toUInt32.toUInt16.toUInt32.toInt32) ∧ C8 z := ⟨_, rfl, own_ch8 _⟩
        obtain ⟨ch3, ech3, gch3⟩ : ∃ z, z = ((p1 &&& (255 : Int32)).toUInt32.toUInt16.toUInt32.toInt32) ∧ C8 z := ⟨_, rfl, own_ch8 _⟩
        obtain ⟨ch4, ech4, gch4⟩ : ∃ z, z = ((((p1.toUInt32 >>> ((8 : Int32) &&& 31).toUInt32).toInt32) &&& (255 : Int32)).toUInt32.toUInt16.toUInt32.toInt32) ∧ C8 z := ⟨_, rfl, own_ch8 _⟩
        obtain ⟨_, _, ⟨T137, L137, k137, n137⟩, -, X137, hs137', hg137', ⟨Lc137, hQ137, l137, y137, z137, CX137⟩, st137⟩ := Jvm.RoadKit.callSS X0 hx (y := (⟨"com/example/syndex/syndex/SectionKeyPathPinLaw", "mk", "(ICC)Ljava/lang/String;"⟩ : MethodName)) hown (mvT hZ (hwk hw 0 rfl)) (mvT hZ (hwk hw 1 rfl)) (mvT hZ (hwk hw 2 rfl)) (mvT hZ (hwk hw 3 rfl)) (by decide) (own_backSH (W := 0) (mk0 l Z a0 hw [] ch1 ch2 zc h0 n0 O0 gch1 gch2 SZ PZ) hZ (hwk hw 3 rfl) (hwk hw 2 rfl) (by decide) (by decide) hEL CR0.1 (fun _ q => nomatch q)) (g := (mkF m 64 #[.val (.int p0), .val (.int p1), .val (.int (0 : Int32)), .val (.int ch1), .val (.int ch2), .val (.int (2 : Int32)), .val (.int ch3), .val (.int ch4), .unset, .unset, .unset, .unset] [(.int ch2), (.int ch1), (.int (0 : Int32))])) rfl (by rw [hml]; rfl) (argsL := [(.int (0 : Int32)), (.int ch1), (.int ch2)]) (rest := []) (lenOf pd_23 rfl) rfl (by show 2 * 0 + _ ≤ _; exact Nat.le_of_eq rfl) (hb hby at_64) (fun _ _ => ⟨rfl, e0, (by decide : 0 + 6 ≤ _), (by decide : 0 + 12 ≤ _)⟩)
        dsimp only [Pt.U, Pt.locs, Pt.cells, Pt.slots] at X137 l137 y137 z137 st137 hQ137 hs137' hg137' CX137
        subst l137 y137 z137
        obtain ⟨X137b, hS137, hZ137, hown137⟩ := rebS hS0 (show _ ≤ s₁.heap.size from by rw [e0]; exact (Nat.le_refl _)) X137 hs137' hg137' hZ hown
        unfold Q_mk0 at hQ137
        obtain ⟨o_137, t_137, kb_137, rfl, N137q, K137, ge_o_137, f137_0, f137_1, f137_2, f137_3⟩ := hQ137
        have N137 := Fr.app N0 N137q
        have g_o_137 : n0 ≤ o_137 := Nat.le_trans (old_le O0) ge_o_137
        have O138 : Old Z n0 T137.heap := Old.keep O0 K137 all0
        obtain ⟨_, _, ⟨T139, L139, k139, n139⟩, -, X139, ⟨Lc139, hQ139, l139, y139, z139⟩, st139⟩ := Jvm.LawKit.callS X137b hx (y := (⟨"com/example/syndex/syndex/SectionKeyPathPinLaw", "mk", "(ICC)Ljava/lang/String;"⟩ : MethodName)) hown137 (mvT hZ137 (hwk hw 0 rfl)) (mvT hZ137 (hwk hw 1 rfl)) (mvT hZ137 (hwk hw 2 rfl)) (mvT hZ137 (hwk hw 3 rfl)) (by decide) (backOf (W := 0) (mk2 l Z a0 hw [] ch3 ch4 zc T137.heap n0 O138 gch3 gch4 SZ PZ) hZ137 (hwk hw 3 rfl) (hwk hw 2 rfl) (by decide) (by decide)) (g := (mkF m 75 #[.val (.int p0), .val (.int p1), .val (.int (0 : Int32)), .val (.int ch1), .val (.int ch2), .val (.int (2 : Int32)), .val (.int ch3), .val (.int ch4), .val (.ref o_137), .unset, .unset, .unset] [(.int ch4), (.int ch3), (.int (2 : Int32))])) rfl (by rw [hml]; rfl) (argsL := [(.int (2 : Int32)), (.int ch3), (.int ch4)]) (rest := []) (lenOf pd_23 rfl) rfl (by show 2 * 0 + _ ≤ _; exact Nat.le_of_eq rfl) (hb hby at_75) (fun _ _ => ⟨rfl, (rfl : T137.heap = T137.heap), (by decide : 6 + 3 ≤ _), (by decide : 12 + 8 ≤ _)⟩)
        dsimp only [Pt.U, Pt.locs, Pt.cells, Pt.slots] at X139 l139 y139 z139 st139 hQ139
        subst l139 y139 z139
        unfold Q_mk2 at hQ139
        obtain ⟨o_139, t_139, kb_139, rfl, N139q, K139, ge_o_139, f139_0, f139_1, f139_2, f139_3⟩ := hQ139
        have N139 := Fr.app N137 N139q
        have g_o_139 : n0 ≤ o_139 := Nat.le_trans (old_le O138) ge_o_139
        have c140 : Exa Z T139.heap o_137 "java/lang/String" := (Exa.keep f137_0 K139)
        have c141 : Fld Z T139.heap o_137 "java/lang/String" "value" "[B" (.ref t_137) := (Fld.keep f137_1 K139 nin0)
        have c142 : Fld Z T139.heap o_137 "java/lang/String" "coder" "B" (.int (0 : Int32)) := (Fld.keep f137_2 K139 nin0)
        have c143 : Arv Z T139.heap t_137 kb_137 .byte (0 : Int32) [] (.int (0 : Int32)) := (Arv.keep f137_3 K139 nin0)
        have O144 : Old Z n0 T139.heap := Old.keep O138 K139 all0
        obtain ⟨_, _, ⟨T145, L145, k145, n145⟩, -, X145, ⟨Lc145, hQ145, l145, y145, z145⟩, st145⟩ := Jvm.LawKit.callS X139 hx (y := (⟨"com/example/syndex/syndex/Section", "keyPath", "(Ljava/lang/String;Ljava/lang/String;)Ljava/lang/String;"⟩ : MethodName)) hown137 (mvT hZ137 (hwk hw 26 rfl)) (mvT hZ137 (hwk hw 27 rfl)) (mvT hZ137 (hwk hw 28 rfl)) (mvT hZ137 (hwk hw 29 rfl)) (by decide) (backOf (W := 0) (kp0 l Z a0 hw [] o_137 t_137 kb_137 (0 : Int32) [] o_139 T139.heap n0 O144 c140 c141 c142 c143 rfl) hZ137 (hwk hw 29 rfl) (hwk hw 28 rfl) (by decide) (by decide)) (g := (mkF m 84 #[.val (.int p0), .val (.int p1), .val (.int (0 : Int32)), .val (.int ch1), .val (.int ch2), .val (.int (2 : Int32)), .val (.int ch3), .val (.int ch4), .val (.ref o_137), .val (.ref o_139), .unset, .unset] [(.ref o_139), (.ref o_137)])) rfl (by rw [hml]; rfl) (argsL := [(.ref o_137), (.ref o_139)]) (rest := []) (lenOf pd_24 rfl) rfl (by show 2 * 0 + _ ≤ _; exact Nat.le_of_eq rfl) (hb hby at_84) (fun _ _ => ⟨rfl, (rfl : T139.heap = T139.heap), (by decide : 9 + 0 ≤ _), (by decide : 20 + 0 ≤ _)⟩)
        dsimp only [Pt.U, Pt.locs, Pt.cells, Pt.slots] at X145 l145 y145 z145 st145 hQ145
        subst l145 y145 z145
        unfold Q_kp0 at hQ145
        obtain ⟨rfl, N145q, e145⟩ := hQ145
        have N145 := Fr.app N139 N145q
        obtain ⟨cq146, kq146, q146a, q146b, q146c⟩ := isOf hZ137 e145 f139_0
        obtain ⟨_, _, ⟨T146, L146, k146, n146⟩, -, X146, ⟨Lc146, hQ146, l146, y146, z146⟩, st146⟩ := X145.virtualBack hx (y := (⟨"java/lang/String", "length", "()I"⟩ : MethodName)) (z := (⟨"java/lang/String", "length", "()I"⟩ : MethodName)) hown137 (mvT hZ137 (hwk hw 35 rfl)) (mvT hZ137 (hwk hw 36 rfl)) (notFace_of_selects (args := #[]) (mvT hZ137 (hwk hw 38 rfl))) (mvT hZ137 (hwk hw 38 rfl)) (mvT hZ137 (hwk hw 37 rfl)) (by decide) (backOf (W := 0) (rm7 l Z a0 hw [] o_139 t_139 kb_139 (2 : Int32) ([(.int (BY ch3)), (.int (BY ch4))]) zc T139.heap n0 O144 f139_0 f139_1 f139_2 f139_3 SZ PZ) hZ137 (hwk hw 39 rfl) (hwk hw 6 rfl) (by decide) (by decide)) q146a q146c (g := (mkF m 102 #[.val (.int p0), .val (.int p1), .val (.int (0 : Int32)), .val (.int ch1), .val (.int ch2), .val (.int (2 : Int32)), .val (.int ch3), .val (.int ch4), .val (.ref o_137), .val (.ref o_139), .val (.ref o_139), .unset] [(.ref o_139)])) rfl (by rw [hml]; rfl) (Steps.refl _) (argsL := []) (rest := []) (lenOf pd_10 rfl) rfl (by show 2 * 0 + _ ≤ _; exact Nat.le_of_eq rfl) (hb hby at_102) (fun _ _ => ⟨rfl, e145, (by decide : 9 + 0 ≤ _), (by decide : 20 + 0 ≤ _)⟩)
        dsimp only [Pt.U, Pt.locs, Pt.cells, Pt.slots] at X146 l146 y146 z146 st146 hQ146
        subst l146 y146 z146
        unfold Q_rm7 at hQ146
        obtain ⟨rfl, N146q, e146⟩ := hQ146
        have N146 := Fr.app N145 N146q
        obtain ⟨cq147, kq147, q147a, q147b, q147c⟩ := isOf hZ137 e146 f139_0
        obtain ⟨_, _, ⟨T147, L147, k147, n147⟩, -, X147, ⟨Lc147, hQ147, l147, y147, z147⟩, st147⟩ := X146.virtualBack hx (y := (⟨"java/lang/String", "equals", "(Ljava/lang/Object;)Z"⟩ : MethodName)) (z := (⟨"java/lang/String", "equals", "(Ljava/lang/Object;)Z"⟩ : MethodName)) hown137 (mvT hZ137 (hwk hw 46 rfl)) (mvT hZ137 (hwk hw 47 rfl)) (notFace_of_selects (args := #[]) (mvT hZ137 (hwk hw 49 rfl))) (mvT hZ137 (hwk hw 49 rfl)) (mvT hZ137 (hwk hw 48 rfl)) (by decide) (backOf (W := 0) (rm9 l Z a0 hw [] o_139 T139.heap n0 O144 ) hZ137 (hwk hw 50 rfl) (hwk hw 6 rfl) (by decide) (by decide)) q147a q147c (g := (mkF m 114 #[.val (.int p0), .val (.int p1), .val (.int (0 : Int32)), .val (.int ch1), .val (.int ch2), .val (.int (2 : Int32)), .val (.int ch3), .val (.int ch4), .val (.ref o_137), .val (.ref o_139), .val (.ref o_139), .unset] [(.ref o_139), (.ref o_139)])) rfl (by rw [hml]; rfl) (Steps.refl _) (argsL := [(.ref o_139)]) (rest := []) (lenOf pd_25 rfl) rfl (by show 2 * 0 + _ ≤ _; exact Nat.le_of_eq rfl) (hb hby at_114) (fun _ _ => ⟨rfl, e146, (by decide : 9 + 0 ≤ _), (by decide : 20 + 0 ≤ _)⟩)
        dsimp only [Pt.U, Pt.locs, Pt.cells, Pt.slots] at X147 l147 y147 z147 st147 hQ147
        subst l147 y147 z147
        unfold Q_rm9 at hQ147
        obtain ⟨rfl, N147q, e147⟩ := hQ147
        have N147 := Fr.app N146 N147q
        have K148 : Keep h0 T137.heap [] := Keep.trans (Keep.refl h0 []) K137 all0
        have K149 : Keep h0 T139.heap [] := Keep.trans K148 K139 all0
        have CR150 : CHr Z consts_1 s.vm h0 T137.vm T137.heap := CHr.trans CR0 CX137
        have CR151 : CHr Z consts_1 s.vm h0 T137.vm T139.heap := CHr.trans CR150 (CHr.keep K139 all0 CR150.1)
        obtain ⟨fs, hr, hrun, hended, hRE⟩ := X147.leaveW hS137 (show _ ≤ T147.heap.size from by rw [e147]; exact (Nat.le_trans (Nat.le_refl _) (Nat.le_trans (Nat.le_refl _) K139.1))) (v := some (.int (1 : Int32))) (fun h => by rw [Bd.returns] at h; cases h)
        have CRl : CHr Z consts_1 s.vm s.heap (T147.setFrames fs).vm (T147.setFrames fs).heap := by
          have q := CHr.trans CR151 (CHv.at X147 hZ137 hEL CR151.1)
          rw [← hh, ← e147] at q
          exact q
        refine ⟨_, _, S106 _ ?_, hrun, hended, _, _, rfl, ?_, CRl, hRE.1, hRE.2.1, hRE.2.2.1, hRE.2.2.2.mono (by decide) (by decide)⟩
        · show Steps p.tables e below (s₁.setTop (mkF m 39 #[.val (.int p0), .val (.int p1), .val (.int (0 : Int32)), .val (.int ((p0 &&& (255 : Int32)).toUInt32.toUInt16.toUInt32.toInt32)), .val (.int ((((p0.toUInt32 >>> ((8 : Int32) &&& 31).toUInt32).toInt32) &&& (255 : Int32)).toUInt32.toUInt16.toUInt32.toInt32)), .unset, .unset, .unset, .unset, .unset, .unset, .unset] [(.int ((((p1.toUInt32 >>> ((16 : Int32) &&& 31).toUInt32).toInt32) &&& (255 : Int32)) % (3 : Int32)))])) _
          rw [(show ((((p1.toUInt32 >>> ((16 : Int32) &&& 31).toUInt32).toInt32) &&& (255 : Int32)) % (3 : Int32)) = (2 : Int32) from ((own_r3 ((p1.toUInt32 >>> ((16 : Int32) &&& 31).toUInt32).toInt32)).resolve_left hr104).resolve_left hr105)]
          show Steps p.tables e below (s₁.setTop (mkF m 39 #[.val (.int p0), .val (.int p1), .val (.int (0 : Int32)), .val (.int ((p0 &&& (255 : Int32)).toUInt32.toUInt16.toUInt32.toInt32)), .val (.int ((((p0.toUInt32 >>> ((8 : Int32) &&& 31).toUInt32).toInt32) &&& (255 : Int32)).toUInt32.toUInt16.toUInt32.toInt32)), .unset, .unset, .unset, .unset, .unset, .unset, .unset] [(.int (2 : Int32))])) _
          refine XS.istore X0.here hx rfl (hb hby at_39) rfl (l' := #[.val (.int p0), .val (.int p1), .val (.int (0 : Int32)), .val (.int ((p0 &&& (255 : Int32)).toUInt32.toUInt16.toUInt32.toInt32)), .val (.int ((((p0.toUInt32 >>> ((8 : Int32) &&& 31).toUInt32).toInt32) &&& (255 : Int32)).toUInt32.toUInt16.toUInt32.toInt32)), .val (.int (2 : Int32)), .unset, .unset, .unset, .unset, .unset, .unset]) rfl ?_
          show Steps p.tables e below (s₁.setTop (mkF m 41 #[.val (.int p0), .val (.int p1), .val (.int (0 : Int32)), .val (.int ((p0 &&& (255 : Int32)).toUInt32.toUInt16.toUInt32.toInt32)), .val (.int ((((p0.toUInt32 >>> ((8 : Int32) &&& 31).toUInt32).toInt32) &&& (255 : Int32)).toUInt32.toUInt16.toUInt32.toInt32)), .val (.int (2 : Int32)), .unset, .unset, .unset, .unset, .unset, .unset] [])) _
          refine XS.iloadN X0.here hx rfl (hb hby at_41) rfl ?_
          refine XS.sipush X0.here hx rfl (hb hby at_42) ?_
          refine XS.iand X0.here hx rfl (hb hby at_45) rfl ?_
          show Steps p.tables e below (s₁.setTop (mkF m 46 #[.val (.int p0), .val (.int p1), .val (.int (0 : Int32)), .val (.int ((p0 &&& (255 : Int32)).toUInt32.toUInt16.toUInt32.toInt32)), .val (.int ((((p0.toUInt32 >>> ((8 : Int32) &&& 31).toUInt32).toInt32) &&& (255 : Int32)).toUInt32.toUInt16.toUInt32.toInt32)), .val (.int (2 : Int32)), .unset, .unset, .unset, .unset, .unset, .unset] [(.int (p1 &&& (255 : Int32)))])) _
          refine XS.i2c X0.here hx rfl (hb hby at_46) rfl ?_
          show Steps p.tables e below (s₁.setTop (mkF m 47 #[.val (.int p0), .val (.int p1), .val (.int (0 : Int32)), .val (.int ((p0 &&& (255 : Int32)).toUInt32.toUInt16.toUInt32.toInt32)), .val (.int ((((p0.toUInt32 >>> ((8 : Int32) &&& 31).toUInt32).toInt32) &&& (255 : Int32)).toUInt32.toUInt16.toUInt32.toInt32)), .val (.int (2 : Int32)), .unset, .unset, .unset, .unset, .unset, .unset] [(.int ((p1 &&& (255 : Int32)).toUInt32.toUInt16.toUInt32.toInt32))])) _
          refine XS.istore X0.here hx rfl (hb hby at_47) rfl (l' := #[.val (.int p0), .val (.int p1), .val (.int (0 : Int32)), .val (.int ((p0 &&& (255 : Int32)).toUInt32.toUInt16.toUInt32.toInt32)), .val (.int ((((p0.toUInt32 >>> ((8 : Int32) &&& 31).toUInt32).toInt32) &&& (255 : Int32)).toUInt32.toUInt16.toUInt32.toInt32)), .val (.int (2 : Int32)), .val (.int ((p1 &&& (255 : Int32)).toUInt32.toUInt16.toUInt32.toInt32)), .unset, .unset, .unset, .unset, .unset]) rfl ?_
          show Steps p.tables e below (s₁.setTop (mkF m 49 #[.val (.int p0), .val (.int p1), .val (.int (0 : Int32)), .val (.int ((p0 &&& (255 : Int32)).toUInt32.toUInt16.toUInt32.toInt32)), .val (.int ((((p0.toUInt32 >>> ((8 : Int32) &&& 31).toUInt32).toInt32) &&& (255 : Int32)).toUInt32.toUInt16.toUInt32.toInt32)), .val (.int (2 : Int32)), .val (.int ((p1 &&& (255 : Int32)).toUInt32.toUInt16.toUInt32.toInt32)), .unset, .unset, .unset, .unset, .unset] [])) _
          refine XS.iloadN X0.here hx rfl (hb hby at_49) rfl ?_
          refine XS.bipush X0.here hx rfl (hb hby at_50) ?_
          refine XS.iushr X0.here hx rfl (hb hby at_52) rfl ?_
          show Steps p.tables e below (s₁.setTop (mkF m 53 #[.val (.int p0), .val (.int p1), .val (.int (0 : Int32)), .val (.int ((p0 &&& (255 : Int32)).toUInt32.toUInt16.toUInt32.toInt32)), .val (.int ((((p0.toUInt32 >>> ((8 : Int32) &&& 31).toUInt32).toInt32) &&& (255 : Int32)).toUInt32.toUInt16.toUInt32.toInt32)), .val (.int (2 : Int32)), .val (.int ((p1 &&& (255 : Int32)).toUInt32.toUInt16.toUInt32.toInt32)), .unset, .unset, .unset, .unset, .unset] [(.int ((p1.toUInt32 >>> ((8 : Int32) &&& 31).toUInt32).toInt32))])) _
          refine XS.sipush X0.here hx rfl (hb hby at_53) ?_
          refine XS.iand X0.here hx rfl (hb hby at_56) rfl ?_
          show Steps p.tables e below (s₁.setTop (mkF m 57 #[.val (.int p0), .val (.int p1), .val (.int (0 : Int32)), .val (.int ((p0 &&& (255 : Int32)).toUInt32.toUInt16.toUInt32.toInt32)), .val (.int ((((p0.toUInt32 >>> ((8 : Int32) &&& 31).toUInt32).toInt32) &&& (255 : Int32)).toUInt32.toUInt16.toUInt32.toInt32)), .val (.int (2 : Int32)), .val (.int ((p1 &&& (255 : Int32)).toUInt32.toUInt16.toUInt32.toInt32)), .unset, .unset, .unset, .unset, .unset] [(.int (((p1.toUInt32 >>> ((8 : Int32) &&& 31).toUInt32).toInt32) &&& (255 : Int32)))])) _
          refine XS.i2c X0.here hx rfl (hb hby at_57) rfl ?_
          show Steps p.tables e below (s₁.setTop (mkF m 58 #[.val (.int p0), .val (.int p1), .val (.int (0 : Int32)), .val (.int ((p0 &&& (255 : Int32)).toUInt32.toUInt16.toUInt32.toInt32)), .val (.int ((((p0.toUInt32 >>> ((8 : Int32) &&& 31).toUInt32).toInt32) &&& (255 : Int32)).toUInt32.toUInt16.toUInt32.toInt32)), .val (.int (2 : Int32)), .val (.int ((p1 &&& (255 : Int32)).toUInt32.toUInt16.toUInt32.toInt32)), .unset, .unset, .unset, .unset, .unset] [(.int ((((p1.toUInt32 >>> ((8 : Int32) &&& 31).toUInt32).toInt32) &&& (255 : Int32)).toUInt32.toUInt16.toUInt32.toInt32))])) _
          refine XS.istore X0.here hx rfl (hb hby at_58) rfl (l' := #[.val (.int p0), .val (.int p1), .val (.int (0 : Int32)), .val (.int ((p0 &&& (255 : Int32)).toUInt32.toUInt16.toUInt32.toInt32)), .val (.int ((((p0.toUInt32 >>> ((8 : Int32) &&& 31).toUInt32).toInt32) &&& (255 : Int32)).toUInt32.toUInt16.toUInt32.toInt32)), .val (.int (2 : Int32)), .val (.int ((p1 &&& (255 : Int32)).toUInt32.toUInt16.toUInt32.toInt32)), .val (.int ((((p1.toUInt32 >>> ((8 : Int32) &&& 31).toUInt32).toInt32) &&& (255 : Int32)).toUInt32.toUInt16.toUInt32.toInt32)), .unset, .unset, .unset, .unset]) rfl ?_
          show Steps p.tables e below (s₁.setTop (mkF m 60 #[.val (.int p0), .val (.int p1), .val (.int (0 : Int32)), .val (.int ((p0 &&& (255 : Int32)).toUInt32.toUInt16.toUInt32.toInt32)), .val (.int ((((p0.toUInt32 >>> ((8 : Int32) &&& 31).toUInt32).toInt32) &&& (255 : Int32)).toUInt32.toUInt16.toUInt32.toInt32)), .val (.int (2 : Int32)), .val (.int ((p1 &&& (255 : Int32)).toUInt32.toUInt16.toUInt32.toInt32)), .val (.int ((((p1.toUInt32 >>> ((8 : Int32) &&& 31).toUInt32).toInt32) &&& (255 : Int32)).toUInt32.toUInt16.toUInt32.toInt32)), .unset, .unset, .unset, .unset] [])) _
          rw [← ech1]
          show Steps p.tables e below (s₁.setTop (mkF m 60 #[.val (.int p0), .val (.int p1), .val (.int (0 : Int32)), .val (.int ch1), .val (.int ((((p0.toUInt32 >>> ((8 : Int32) &&& 31).toUInt32).toInt32) &&& (255 : Int32)).toUInt32.toUInt16.toUInt32.toInt32)), .val (.int (2 : Int32)), .val (.int ((p1 &&& (255 : Int32)).toUInt32.toUInt16.toUInt32.toInt32)), .val (.int ((((p1.toUInt32 >>> ((8 : Int32) &&& 31).toUInt32).toInt32) &&& (255 : Int32)).toUInt32.toUInt16.toUInt32.toInt32)), .unset, .unset, .unset, .unset] [])) _
          rw [← ech2]
          show Steps p.tables e below (s₁.setTop (mkF m 60 #[.val (.int p0), .val (.int p1), .val (.int (0 : Int32)), .val (.int ch1), .val (.int ch2), .val (.int (2 : Int32)), .val (.int ((p1 &&& (255 : Int32)).toUInt32.toUInt16.toUInt32.toInt32)), .val (.int ((((p1.toUInt32 >>> ((8 : Int32) &&& 31).toUInt32).toInt32) &&& (255 : Int32)).toUInt32.toUInt16.toUInt32.toInt32)), .unset, .unset, .unset, .unset] [])) _
          rw [← ech3]
          show Steps p.tables e below (s₁.setTop (mkF m 60 #[.val (.int p0), .val (.int p1), .val (.int (0 : Int32)), .val (.int ch1), .val (.int ch2), .val (.int (2 : Int32)), .val (.int ch3), .val (.int ((((p1.toUInt32 >>> ((8 : Int32) &&& 31).toUInt32).toInt32) &&& (255 : Int32)).toUInt32.toUInt16.toUInt32.toInt32)), .unset, .unset, .unset, .unset] [])) _
          rw [← ech4]
          show Steps p.tables e below (s₁.setTop (mkF m 60 #[.val (.int p0), .val (.int p1), .val (.int (0 : Int32)), .val (.int ch1), .val (.int ch2), .val (.int (2 : Int32)), .val (.int ch3), .val (.int ch4), .unset, .unset, .unset, .unset] [])) _
          refine XS.iloadN X0.here hx rfl (hb hby at_60) rfl ?_
          refine XS.iloadN X0.here hx rfl (hb hby at_61) rfl ?_
          refine XS.iload X0.here hx rfl (hb hby at_62) rfl ?_
          show Steps p.tables e below (s₁.setTop (mkF m 64 #[.val (.int p0), .val (.int p1), .val (.int (0 : Int32)), .val (.int ch1), .val (.int ch2), .val (.int (2 : Int32)), .val (.int ch3), .val (.int ch4), .unset, .unset, .unset, .unset] [(.int ch2), (.int ch1), (.int (0 : Int32))])) _
          refine st137.trans ?_
          show Steps p.tables e below (T137.setTop (mkF m 67 #[.val (.int p0), .val (.int p1), .val (.int (0 : Int32)), .val (.int ch1), .val (.int ch2), .val (.int (2 : Int32)), .val (.int ch3), .val (.int ch4), .unset, .unset, .unset, .unset] [(.ref o_137)])) _
          refine XS.astore X137b.here hx rfl (hb hby at_67) rfl rfl (l' := #[.val (.int p0), .val (.int p1), .val (.int (0 : Int32)), .val (.int ch1), .val (.int ch2), .val (.int (2 : Int32)), .val (.int ch3), .val (.int ch4), .val (.ref o_137), .unset, .unset, .unset]) rfl ?_
          show Steps p.tables e below (T137.setTop (mkF m 69 #[.val (.int p0), .val (.int p1), .val (.int (0 : Int32)), .val (.int ch1), .val (.int ch2), .val (.int (2 : Int32)), .val (.int ch3), .val (.int ch4), .val (.ref o_137), .unset, .unset, .unset] [])) _
          refine XS.iload X137b.here hx rfl (hb hby at_69) rfl ?_
          refine XS.iload X137b.here hx rfl (hb hby at_71) rfl ?_
          refine XS.iload X137b.here hx rfl (hb hby at_73) rfl ?_
          show Steps p.tables e below (T137.setTop (mkF m 75 #[.val (.int p0), .val (.int p1), .val (.int (0 : Int32)), .val (.int ch1), .val (.int ch2), .val (.int (2 : Int32)), .val (.int ch3), .val (.int ch4), .val (.ref o_137), .unset, .unset, .unset] [(.int ch4), (.int ch3), (.int (2 : Int32))])) _
          refine st139 _ ?_
          show Steps p.tables e below (T139.setTop (mkF m 78 #[.val (.int p0), .val (.int p1), .val (.int (0 : Int32)), .val (.int ch1), .val (.int ch2), .val (.int (2 : Int32)), .val (.int ch3), .val (.int ch4), .val (.ref o_137), .unset, .unset, .unset] [(.ref o_139)])) _
          refine XS.astore X139.here hx rfl (hb hby at_78) rfl rfl (l' := #[.val (.int p0), .val (.int p1), .val (.int (0 : Int32)), .val (.int ch1), .val (.int ch2), .val (.int (2 : Int32)), .val (.int ch3), .val (.int ch4), .val (.ref o_137), .val (.ref o_139), .unset, .unset]) rfl ?_
          show Steps p.tables e below (T139.setTop (mkF m 80 #[.val (.int p0), .val (.int p1), .val (.int (0 : Int32)), .val (.int ch1), .val (.int ch2), .val (.int (2 : Int32)), .val (.int ch3), .val (.int ch4), .val (.ref o_137), .val (.ref o_139), .unset, .unset] [])) _
          refine XS.aload X139.here hx rfl (hb hby at_80) rfl rfl ?_
          refine XS.aload X139.here hx rfl (hb hby at_82) rfl rfl ?_
          show Steps p.tables e below (T139.setTop (mkF m 84 #[.val (.int p0), .val (.int p1), .val (.int (0 : Int32)), .val (.int ch1), .val (.int ch2), .val (.int (2 : Int32)), .val (.int ch3), .val (.int ch4), .val (.ref o_137), .val (.ref o_139), .unset, .unset] [(.ref o_139), (.ref o_137)])) _
          refine st145 _ ?_
          show Steps p.tables e below (T145.setTop (mkF m 87 #[.val (.int p0), .val (.int p1), .val (.int (0 : Int32)), .val (.int ch1), .val (.int ch2), .val (.int (2 : Int32)), .val (.int ch3), .val (.int ch4), .val (.ref o_137), .val (.ref o_139), .unset, .unset] [(.ref o_139)])) _
          refine XS.astore X145.here hx rfl (hb hby at_87) rfl rfl (l' := #[.val (.int p0), .val (.int p1), .val (.int (0 : Int32)), .val (.int ch1), .val (.int ch2), .val (.int (2 : Int32)), .val (.int ch3), .val (.int ch4), .val (.ref o_137), .val (.ref o_139), .val (.ref o_139), .unset]) rfl ?_
          show Steps p.tables e below (T145.setTop (mkF m 89 #[.val (.int p0), .val (.int p1), .val (.int (0 : Int32)), .val (.int ch1), .val (.int ch2), .val (.int (2 : Int32)), .val (.int ch3), .val (.int ch4), .val (.ref o_137), .val (.ref o_139), .val (.ref o_139), .unset] [])) _
          refine XS.aload X145.here hx rfl (hb hby at_89) rfl rfl ?_
          refine XS.ifnonnullYes X145.here hx rfl (pc0 := 91) (pc' := 96) rfl (hb hby at_91) rfl (by decide) (by decide) ?_
          show Steps p.tables e below (T145.setTop (mkF m 96 #[.val (.int p0), .val (.int p1), .val (.int (0 : Int32)), .val (.int ch1), .val (.int ch2), .val (.int (2 : Int32)), .val (.int ch3), .val (.int ch4), .val (.ref o_137), .val (.ref o_139), .val (.ref o_139), .unset] [])) _
          refine XS.iloadN X145.here hx rfl (hb hby at_96) rfl ?_
          refine XS.ifNo X145.here hx rfl (hb hby at_97) rfl ((if0 _ _).trans (teq (by decide : (0 : Int32) = (0 : Int32))).2) ?_
          show Steps p.tables e below (T145.setTop (mkF m 100 #[.val (.int p0), .val (.int p1), .val (.int (0 : Int32)), .val (.int ch1), .val (.int ch2), .val (.int (2 : Int32)), .val (.int ch3), .val (.int ch4), .val (.ref o_137), .val (.ref o_139), .val (.ref o_139), .unset] [])) _
          refine XS.aload X145.here hx rfl (hb hby at_100) rfl rfl ?_
          show Steps p.tables e below (T145.setTop (mkF m 102 #[.val (.int p0), .val (.int p1), .val (.int (0 : Int32)), .val (.int ch1), .val (.int ch2), .val (.int (2 : Int32)), .val (.int ch3), .val (.int ch4), .val (.ref o_137), .val (.ref o_139), .val (.ref o_139), .unset] [(.ref o_139)])) _
          refine st146.trans ?_
          show Steps p.tables e below (T146.setTop (mkF m 105 #[.val (.int p0), .val (.int p1), .val (.int (0 : Int32)), .val (.int ch1), .val (.int ch2), .val (.int (2 : Int32)), .val (.int ch3), .val (.int ch4), .val (.ref o_137), .val (.ref o_139), .val (.ref o_139), .unset] [(.int (2 : Int32))])) _
          refine XS.iload X146.here hx rfl (hb hby at_105) rfl ?_
          refine XS.icmpNo X146.here hx rfl (hb hby at_107) rfl (teq (by decide : (2 : Int32) = (2 : Int32))).2 ?_
          show Steps p.tables e below (T146.setTop (mkF m 110 #[.val (.int p0), .val (.int p1), .val (.int (0 : Int32)), .val (.int ch1), .val (.int ch2), .val (.int (2 : Int32)), .val (.int ch3), .val (.int ch4), .val (.ref o_137), .val (.ref o_139), .val (.ref o_139), .unset] [])) _
          refine XS.aload X146.here hx rfl (hb hby at_110) rfl rfl ?_
          refine XS.aload X146.here hx rfl (hb hby at_112) rfl rfl ?_
          show Steps p.tables e below (T146.setTop (mkF m 114 #[.val (.int p0), .val (.int p1), .val (.int (0 : Int32)), .val (.int ch1), .val (.int ch2), .val (.int (2 : Int32)), .val (.int ch3), .val (.int ch4), .val (.ref o_137), .val (.ref o_139), .val (.ref o_139), .unset] [(.ref o_139), (.ref o_139)])) _
          refine st147.trans ?_
          show Steps p.tables e below (T147.setTop (mkF m 117 #[.val (.int p0), .val (.int p1), .val (.int (0 : Int32)), .val (.int ch1), .val (.int ch2), .val (.int (2 : Int32)), .val (.int ch3), .val (.int ch4), .val (.ref o_137), .val (.ref o_139), .val (.ref o_139), .unset] [(.int (1 : Int32))])) _
          refine XS.ifNo X147.here hx rfl (hb hby at_117) rfl ((if0 _ _).trans (feq (by decide : ¬ ((1 : Int32) = (0 : Int32)))).1) ?_
          show Steps p.tables e below (T147.setTop (mkF m 120 #[.val (.int p0), .val (.int p1), .val (.int (0 : Int32)), .val (.int ch1), .val (.int ch2), .val (.int (2 : Int32)), .val (.int ch3), .val (.int ch4), .val (.ref o_137), .val (.ref o_139), .val (.ref o_139), .unset] [])) _
          refine XS.iconst X147.here hx rfl (hb hby at_120) ?_
          refine XS.goto X147.here hx rfl (pc0 := 121) (pc' := 125) rfl (hb hby at_121) (by decide) (by decide) ?_
          show Steps p.tables e below (T147.setTop (mkF m 125 #[.val (.int p0), .val (.int p1), .val (.int (0 : Int32)), .val (.int ch1), .val (.int ch2), .val (.int (2 : Int32)), .val (.int ch3), .val (.int ch4), .val (.ref o_137), .val (.ref o_139), .val (.ref o_139), .unset] [(.int (1 : Int32))])) _
          exact Jvm.RoadKit.retOut X147 hx Bd.returns rfl (Or.inl ⟨rfl, by simp, _, rfl⟩) (hb hby at_125) hr
        · show Q_rm0 Z p0 p1 zc fm h0 n0 _ T147.heap _
          rw [e147]
          unfold Q_rm0
          exact ⟨rfl, N147, K149⟩
  · by_cases hr102 : ((((p0.toUInt32 >>> ((16 : Int32) &&& 31).toUInt32).toInt32) &&& (255 : Int32)) % (3 : Int32)) = (1 : Int32)
    · have S154 : ∀ t, Steps p.tables e below (s₁.setTop (mkF m 39 #[.val (.int p0), .val (.int p1), .val (.int (1 : Int32)), .val (.int ((p0 &&& (255 : Int32)).toUInt32.toUInt16.toUInt32.toInt32)), .val (.int ((((p0.toUInt32 >>> ((8 : Int32) &&& 31).toUInt32).toInt32) &&& (255 : Int32)).toUInt32.toUInt16.toUInt32.toInt32)), .unset, .unset, .unset, .unset, .unset, .unset, .unset] [(.int ((((p1.toUInt32 >>> ((16 : Int32) &&& 31).toUInt32).toInt32) &&& (255 : Int32)) % (3 : Int32)))])) t → Steps p.tables e below (s₁.setTop (entryFrame m #[(.int p0), (.int p1)] maxLocals)) t := fun t k => by
        refine S103 t ?_
        show Steps p.tables e below (s₁.setTop (mkF m 10 #[.val (.int p0), .val (.int p1), .unset, .unset, .unset, .unset, .unset, .unset, .unset, .unset, .unset, .unset] [(.int ((((p0.toUInt32 >>> ((16 : Int32) &&& 31).toUInt32).toInt32) &&& (255 : Int32)) % (3 : Int32)))])) _
        rw [hr102]
        show Steps p.tables e below (s₁.setTop (mkF m 10 #[.val (.int p0), .val (.int p1), .unset, .unset, .unset, .unset, .unset, .unset, .unset, .unset, .unset, .unset] [(.int (1 : Int32))])) _
        refine XS.istoreN X0.here hx rfl (hb hby at_10) rfl (l' := #[.val (.int p0), .val (.int p1), .val (.int (1 : Int32)), .unset, .unset, .unset, .unset, .unset, .unset, .unset, .unset, .unset]) rfl ?_
        show Steps p.tables e below (s₁.setTop (mkF m 11 #[.val (.int p0), .val (.int p1), .val (.int (1 : Int32)), .unset, .unset, .unset, .unset, .unset, .unset, .unset, .unset, .unset] [])) _
        refine XS.iloadN X0.here hx rfl (hb hby at_11) rfl ?_
        refine XS.sipush X0.here hx rfl (hb hby at_12) ?_
        refine XS.iand X0.here hx rfl (hb hby at_15) rfl ?_
        show Steps p.tables e below (s₁.setTop (mkF m 16 #[.val (.int p0), .val (.int p1), .val (.int (1 : Int32)), .unset, .unset, .unset, .unset, .unset, .unset, .unset, .unset, .unset] [(.int (p0 &&& (255 : Int32)))])) _
        refine XS.i2c X0.here hx rfl (hb hby at_16) rfl ?_
        show Steps p.tables e below (s₁.setTop (mkF m 17 #[.val (.int p0), .val (.int p1), .val (.int (1 : Int32)), .unset, .unset, .unset, .unset, .unset, .unset, .unset, .unset, .unset] [(.int ((p0 &&& (255 : Int32)).toUInt32.toUInt16.toUInt32.toInt32))])) _
        refine XS.istoreN X0.here hx rfl (hb hby at_17) rfl (l' := #[.val (.int p0), .val (.int p1), .val (.int (1 : Int32)), .val (.int ((p0 &&& (255 : Int32)).toUInt32.toUInt16.toUInt32.toInt32)), .unset, .unset, .unset, .unset, .unset, .unset, .unset, .unset]) rfl ?_
        show Steps p.tables e below (s₁.setTop (mkF m 18 #[.val (.int p0), .val (.int p1), .val (.int (1 : Int32)), .val (.int ((p0 &&& (255 : Int32)).toUInt32.toUInt16.toUInt32.toInt32)), .unset, .unset, .unset, .unset, .unset, .unset, .unset, .unset] [])) _
        refine XS.iloadN X0.here hx rfl (hb hby at_18) rfl ?_
        refine XS.bipush X0.here hx rfl (hb hby at_19) ?_
        refine XS.iushr X0.here hx rfl (hb hby at_21) rfl ?_
        show Steps p.tables e below (s₁.setTop (mkF m 22 #[.val (.int p0), .val (.int p1), .val (.int (1 : Int32)), .val (.int ((p0 &&& (255 : Int32)).toUInt32.toUInt16.toUInt32.toInt32)), .unset, .unset, .unset, .unset, .unset, .unset, .unset, .unset] [(.int ((p0.toUInt32 >>> ((8 : Int32) &&& 31).toUInt32).toInt32))])) _
        refine XS.sipush X0.here hx rfl (hb hby at_22) ?_
        refine XS.iand X0.here hx rfl (hb hby at_25) rfl ?_
        show Steps p.tables e below (s₁.setTop (mkF m 26 #[.val (.int p0), .val (.int p1), .val (.int (1 : Int32)), .val (.int ((p0 &&& (255 : Int32)).toUInt32.toUInt16.toUInt32.toInt32)), .unset, .unset, .unset, .unset, .unset, .unset, .unset, .unset] [(.int (((p0.toUInt32 >>> ((8 : Int32) &&& 31).toUInt32).toInt32) &&& (255 : Int32)))])) _
        refine XS.i2c X0.here hx rfl (hb hby at_26) rfl ?_
        show Steps p.tables e below (s₁.setTop (mkF m 27 #[.val (.int p0), .val (.int p1), .val (.int (1 : Int32)), .val (.int ((p0 &&& (255 : Int32)).toUInt32.toUInt16.toUInt32.toInt32)), .unset, .unset, .unset, .unset, .unset, .unset, .unset, .unset] [(.int ((((p0.toUInt32 >>> ((8 : Int32) &&& 31).toUInt32).toInt32) &&& (255 : Int32)).toUInt32.toUInt16.toUInt32.toInt32))])) _
        refine XS.istore X0.here hx rfl (hb hby at_27) rfl (l' := #[.val (.int p0), .val (.int p1), .val (.int (1 : Int32)), .val (.int ((p0 &&& (255 : Int32)).toUInt32.toUInt16.toUInt32.toInt32)), .val (.int ((((p0.toUInt32 >>> ((8 : Int32) &&& 31).toUInt32).toInt32) &&& (255 : Int32)).toUInt32.toUInt16.toUInt32.toInt32)), .unset, .unset, .unset, .unset, .unset, .unset, .unset]) rfl ?_
        show Steps p.tables e below (s₁.setTop (mkF m 29 #[.val (.int p0), .val (.int p1), .val (.int (1 : Int32)), .val (.int ((p0 &&& (255 : Int32)).toUInt32.toUInt16.toUInt32.toInt32)), .val (.int ((((p0.toUInt32 >>> ((8 : Int32) &&& 31).toUInt32).toInt32) &&& (255 : Int32)).toUInt32.toUInt16.toUInt32.toInt32)), .unset, .unset, .unset, .unset, .unset, .unset, .unset] [])) _
        refine XS.iloadN X0.here hx rfl (hb hby at_29) rfl ?_
        refine XS.bipush X0.here hx rfl (hb hby at_30) ?_
        refine XS.iushr X0.here hx rfl (hb hby at_32) rfl ?_
        show Steps p.tables e below (s₁.setTop (mkF m 33 #[.val (.int p0), .val (.int p1), .val (.int (1 : Int32)), .val (.int ((p0 &&& (255 : Int32)).toUInt32.toUInt16.toUInt32.toInt32)), .val (.int ((((p0.toUInt32 >>> ((8 : Int32) &&& 31).toUInt32).toInt32) &&& (255 : Int32)).toUInt32.toUInt16.toUInt32.toInt32)), .unset, .unset, .unset, .unset, .unset, .unset, .unset] [(.int ((p1.toUInt32 >>> ((16 : Int32) &&& 31).toUInt32).toInt32))])) _
        refine XS.sipush X0.here hx rfl (hb hby at_33) ?_
        refine XS.iand X0.here hx rfl (hb hby at_36) rfl ?_
        show Steps p.tables e below (s₁.setTop (mkF m 37 #[.val (.int p0), .val (.int p1), .val (.int (1 : Int32)), .val (.int ((p0 &&& (255 : Int32)).toUInt32.toUInt16.toUInt32.toInt32)), .val (.int ((((p0.toUInt32 >>> ((8 : Int32) &&& 31).toUInt32).toInt32) &&& (255 : Int32)).toUInt32.toUInt16.toUInt32.toInt32)), .unset, .unset, .unset, .unset, .unset, .unset, .unset] [(.int (((p1.toUInt32 >>> ((16 : Int32) &&& 31).toUInt32).toInt32) &&& (255 : Int32)))])) _
        refine XS.iconst X0.here hx rfl (hb hby at_37) ?_
        show Steps p.tables e below (s₁.setTop (mkF m 38 #[.val (.int p0), .val (.int p1), .val (.int (1 : Int32)), .val (.int ((p0 &&& (255 : Int32)).toUInt32.toUInt16.toUInt32.toInt32)), .val (.int ((((p0.toUInt32 >>> ((8 : Int32) &&& 31).toUInt32).toInt32) &&& (255 : Int32)).toUInt32.toUInt16.toUInt32.toInt32)), .unset, .unset, .unset, .unset, .unset, .unset, .unset] [(.int (3 : Int32)), (.int (((p1.toUInt32 >>> ((16 : Int32) &&& 31).toUInt32).toInt32) &&& (255 : Int32)))])) _
        refine Jvm.RoadKit.iremM (g := (mkF m 38 #[.val (.int p0), .val (.int p1), .val (.int (1 : Int32)), .val (.int ((p0 &&& (255 : Int32)).toUInt32.toUInt16.toUInt32.toInt32)), .val (.int ((((p0.toUInt32 >>> ((8 : Int32) &&& 31).toUInt32).toInt32) &&& (255 : Int32)).toUInt32.toUInt16.toUInt32.toInt32)), .unset, .unset, .unset, .unset, .unset, .unset, .unset] [(.int (3 : Int32)), (.int (((p1.toUInt32 >>> ((16 : Int32) &&& 31).toUInt32).toInt32) &&& (255 : Int32)))])) X0 hx rfl (hb hby at_38) rfl (by decide) ?_
        exact k
      by_cases hr152 : ((((p1.toUInt32 >>> ((16 : Int32) &&& 31).toUInt32).toInt32) &&& (255 : Int32)) % (3 : Int32)) = (0 : Int32)
      · obtain ⟨ch1, ech1, gch1⟩ : ∃ z, z = ((p0 &&& (255 : Int32)).toUInt32.toUInt16.toUInt32.toInt32) ∧ C8 z := ⟨_, rfl, own_ch8 _⟩
        obtain ⟨ch2, ech2, gch2⟩ : ∃ z, z = ((((p0.toUInt32 >>> ((8 : Int32) &&& 31).toUInt32).toInt32) &&& (255 : Int32)).toUInt32.toUInt16.toUInt32.toInt32) ∧ C8 z := ⟨_, rfl, own_ch8 _⟩
        obtain ⟨ch3, ech3, gch3⟩ : ∃ z, z = ((p1 &&& (255 : Int32)).toUInt32.toUInt16.toUInt32.toInt32) ∧ C8 z := ⟨_, rfl, own_ch8 _⟩
        obtain ⟨ch4, ech4, gch4⟩ : ∃ z, z = ((((p1.toUInt32 >>> ((8 : Int32) &&& 31).toUInt32).toInt32) &&& (255 : Int32)).toUInt32.toUInt16.toUInt32.toInt32) ∧ C8 z := ⟨_, rfl, own_ch8 _⟩
        obtain ⟨_, _, ⟨T155, L155, k155, n155⟩, -, X155, ⟨Lc155, hQ155, l155, y155, z155⟩, st155⟩ := Jvm.LawKit.callS X0 hx (y := (⟨"com/example/syndex/syndex/SectionKeyPathPinLaw", "mk", "(ICC)Ljava/lang/String;"⟩ : MethodName)) hown (mvT hZ (hwk hw 0 rfl)) (mvT hZ (hwk hw 1 rfl)) (mvT hZ (hwk hw 2 rfl)) (mvT hZ (hwk hw 3 rfl)) (by decide) (backOf (W := 0) (mk1 l Z a0 hw [] ch1 ch2 zc h0 n0 O0 gch1 gch2 SZ PZ) hZ (hwk hw 3 rfl) (hwk hw 2 rfl) (by decide) (by decide)) (g := (mkF m 64 #[.val (.int p0), .val (.int p1), .val (.int (1 : Int32)), .val (.int ch1), .val (.int ch2), .val (.int (0 : Int32)), .val (.int ch3), .val (.int ch4), .unset, .unset, .unset, .unset] [(.int ch2), (.int ch1), (.int (1 : Int32))])) rfl (by rw [hml]; rfl) (argsL := [(.int (1 : Int32)), (.int ch1), (.int ch2)]) (rest := []) (lenOf pd_23 rfl) rfl (by show 2 * 0 + _ ≤ _; exact Nat.le_of_eq rfl) (hb hby at_64) (fun _ _ => ⟨rfl, e0, (by decide : 0 + 2 ≤ _), (by decide : 0 + 5 ≤ _)⟩)
        dsimp only [Pt.U, Pt.locs, Pt.cells, Pt.slots] at X155 l155 y155 z155 st155 hQ155
        subst l155 y155 z155
        unfold Q_mk1 at hQ155
        obtain ⟨o_155, t_155, kb_155, rfl, N155q, K155, ge_o_155, f155_0, f155_1, f155_2, f155_3⟩ := hQ155
        have N155 := Fr.app N0 N155q
        have g_o_155 : n0 ≤ o_155 := Nat.le_trans (old_le O0) ge_o_155
        have O156 : Old Z n0 T155.heap := Old.keep O0 K155 all0
        have CR158 : CHr Z consts_1 s.vm h0 s.vm T155.heap := CHr.trans CR0 (CHr.keep K155 all0 CR0.1)
        obtain ⟨_, _, ⟨T157, L157, k157, n157⟩, -, X157, hs157', hg157', ⟨Lc157, hQ157, l157, y157, z157, CX157⟩, st157⟩ := Jvm.RoadKit.callSS X155 hx (y := (⟨"com/example/syndex/syndex/SectionKeyPathPinLaw", "mk", "(ICC)Ljava/lang/String;"⟩ : MethodName)) hown (mvT hZ (hwk hw 0 rfl)) (mvT hZ (hwk hw 1 rfl)) (mvT hZ (hwk hw 2 rfl)) (mvT hZ (hwk hw 3 rfl)) (by decide) (own_backSH (W := 0) (mk0 l Z a0 hw [] ch3 ch4 zc T155.heap n0 O156 gch3 gch4 SZ PZ) hZ (hwk hw 3 rfl) (hwk hw 2 rfl) (by decide) (by decide) hEL CR158.1 (fun _ q => nomatch q)) (g := (mkF m 75 #[.val (.int p0), .val (.int p1), .val (.int (1 : Int32)), .val (.int ch1), .val (.int ch2), .val (.int (0 : Int32)), .val (.int ch3), .val (.int ch4), .val (.ref o_155), .unset, .unset, .unset] [(.int ch4), (.int ch3), (.int (0 : Int32))])) rfl (by rw [hml]; rfl) (argsL := [(.int (0 : Int32)), (.int ch3), (.int ch4)]) (rest := []) (lenOf pd_23 rfl) rfl (by show 2 * 0 + _ ≤ _; exact Nat.le_of_eq rfl) (hb hby at_75) (fun _ _ => ⟨rfl, (rfl : T155.heap = T155.heap), (by decide : 2 + 6 ≤ _), (by decide : 5 + 12 ≤ _)⟩)
        dsimp only [Pt.U, Pt.locs, Pt.cells, Pt.slots] at X157 l157 y157 z157 st157 hQ157 hs157' hg157' CX157
        subst l157 y157 z157
        obtain ⟨X157b, hS157, hZ157, hown157⟩ := rebS hS0 (show _ ≤ T155.heap.size from by rw [(rfl : T155.heap = T155.heap)]; exact (Nat.le_trans (Nat.le_refl _) (Nat.le_trans (Nat.le_refl _) K155.1))) X157 hs157' hg157' hZ hown
        unfold Q_mk0 at hQ157
        obtain ⟨o_157, t_157, kb_157, rfl, N157q, K157, ge_o_157, f157_0, f157_1, f157_2, f157_3⟩ := hQ157
        have N157 := Fr.app N155 N157q
        have g_o_157 : n0 ≤ o_157 := Nat.le_trans (old_le O156) ge_o_157
        have c159 : Exa Z T157.heap o_155 "java/lang/String" := (Exa.keep f155_0 K157)
        have c160 : Fld Z T157.heap o_155 "java/lang/String" "value" "[B" (.ref t_155) := (Fld.keep f155_1 K157 nin0)
        have c161 : Fld Z T157.heap o_155 "java/lang/String" "coder" "B" (.int (0 : Int32)) := (Fld.keep f155_2 K157 nin0)
        have c162 : Arv Z T157.heap t_155 kb_155 .byte (1 : Int32) [(.int (BY ch1))] (.int (0 : Int32)) := (Arv.keep f155_3 K157 nin0)
        have O163 : Old Z n0 T157.heap := Old.keep O156 K157 all0
        have CR165 : CHr Z consts_1 s.vm h0 T157.vm T157.heap := CHr.trans CR158 CX157
        obtain ⟨_, _, ⟨T164, L164, k164, n164⟩, -, X164, hs164', hg164', ⟨Lc164, hQ164, l164, y164, z164, CX164⟩, st164⟩ := Jvm.RoadKit.callSS X157b hx (y := (⟨"com/example/syndex/syndex/Section", "keyPath", "(Ljava/lang/String;Ljava/lang/String;)Ljava/lang/String;"⟩ : MethodName)) hown157 (mvT hZ157 (hwk hw 26 rfl)) (mvT hZ157 (hwk hw 27 rfl)) (mvT hZ157 (hwk hw 28 rfl)) (mvT hZ157 (hwk hw 29 rfl)) (by decide) (own_backSH (W := 0) (kp1 l Z a0 hw [] o_155 t_155 kb_155 (1 : Int32) ([(.int (BY ch1))]) o_157 t_157 kb_157 (0 : Int32) [] zc T157.heap n0 O163 c159 c160 c161 c162 f157_0 f157_1 f157_2 f157_3 (by decide) (by decide) rfl rfl SZ PZ) hZ157 (hwk hw 29 rfl) (hwk hw 28 rfl) (by decide) (by decide) hEL CR165.1 (fun _ q => nomatch q)) (g := (mkF m 84 #[.val (.int p0), .val (.int p1), .val (.int (1 : Int32)), .val (.int ch1), .val (.int ch2), .val (.int (0 : Int32)), .val (.int ch3), .val (.int ch4), .val (.ref o_155), .val (.ref o_157), .unset, .unset] [(.ref o_157), (.ref o_155)])) rfl (by rw [hml]; rfl) (argsL := [(.ref o_155), (.ref o_157)]) (rest := []) (lenOf pd_24 rfl) rfl (by show 2 * 0 + _ ≤ _; exact Nat.le_of_eq rfl) (hb hby at_84) (fun _ _ => ⟨rfl, (rfl : T157.heap = T157.heap), (by decide : 8 + 6 ≤ _), (by decide : 17 + 48 ≤ _)⟩)
        dsimp only [Pt.U, Pt.locs, Pt.cells, Pt.slots] at X164 l164 y164 z164 st164 hQ164 hs164' hg164' CX164
        subst l164 y164 z164
        obtain ⟨X164b, hS164, hZ164, hown164⟩ := rebS hS157 (show _ ≤ T157.heap.size from by rw [(rfl : T157.heap = T157.heap)]; exact (Nat.le_refl _)) X164 hs164' hg164' hZ157 hown157
        unfold Q_kp1 at hQ164
        obtain ⟨o_164, t_164, kb_164, rfl, N164q, K164, ge_o_164, f164_0, f164_1, f164_2, f164_3⟩ := hQ164
        have N164 := Fr.app N157 N164q
        have g_o_164 : n0 ≤ o_164 := Nat.le_trans (old_le O163) ge_o_164
        have W168 : Arv Z T164.heap t_164 kb_164 .byte (2 : Int32) [(.int (BY ch1)), (.int (46 : Int32))] (.int (0 : Int32)) := own_arv f164_3 rfl
        have hc167 : ∀ c ∈ ([ch1, (46 : Int32)] : List Int32), ¬ c < 0 ∧ ¬ (255 : Int32) < c := by
          intro c hc
          simp only [List.mem_cons, List.not_mem_nil, or_false] at hc
          rcases hc with rfl | rfl
          · exact gch1
          · exact (by decide)
        have OS166 : OwnStr [ch1, (46 : Int32)] (2 : Int32) [(.int (BY ch1)), (.int (46 : Int32))] := own_s255 hc167 (Nat.le_of_ble_eq_true rfl)
        have O169 : Old Z n0 T164.heap := Old.keep O163 K164 all0
        obtain ⟨cq170, kq170, q170a, q170b, q170c⟩ := isOf hZ164 (rfl : T164.heap = T164.heap) f164_0
        obtain ⟨_, _, ⟨T170, L170, k170, n170⟩, -, X170, ⟨Lc170, hQ170, l170, y170, z170⟩, st170⟩ := X164b.virtualBack hx (y := (⟨"java/lang/String", "length", "()I"⟩ : MethodName)) (z := (⟨"java/lang/String", "length", "()I"⟩ : MethodName)) hown164 (mvT hZ164 (hwk hw 35 rfl)) (mvT hZ164 (hwk hw 36 rfl)) (notFace_of_selects (args := #[]) (mvT hZ164 (hwk hw 38 rfl))) (mvT hZ164 (hwk hw 38 rfl)) (mvT hZ164 (hwk hw 37 rfl)) (by decide) (backOf (W := 0) (rm7 l Z a0 hw [] o_164 t_164 kb_164 (2 : Int32) ([(.int (BY ch1)), (.int (46 : Int32))]) zc T164.heap n0 O169 f164_0 f164_1 f164_2 W168 SZ PZ) hZ164 (hwk hw 39 rfl) (hwk hw 6 rfl) (by decide) (by decide)) q170a q170c (g := (mkF m 136 #[.val (.int p0), .val (.int p1), .val (.int (1 : Int32)), .val (.int ch1), .val (.int ch2), .val (.int (0 : Int32)), .val (.int ch3), .val (.int ch4), .val (.ref o_155), .val (.ref o_157), .val (.ref o_164), .val (.int (2 : Int32))] [(.ref o_164)])) rfl (by rw [hml]; rfl) (Steps.refl _) (argsL := []) (rest := []) (lenOf pd_10 rfl) rfl (by show 2 * 0 + _ ≤ _; exact Nat.le_of_eq rfl) (hb hby at_136) (fun _ _ => ⟨rfl, (rfl : T164.heap = T164.heap), (by decide : 14 + 0 ≤ _), (by decide : 65 + 0 ≤ _)⟩)
        dsimp only [Pt.U, Pt.locs, Pt.cells, Pt.slots] at X170 l170 y170 z170 st170 hQ170
        subst l170 y170 z170
        unfold Q_rm7 at hQ170
        obtain ⟨rfl, N170q, e170⟩ := hQ170
        have N170 := Fr.app N164 N170q
        have hws171 : ∀ d ∈ StrChars.Road.wordsChN, d.before a0 Z = true := fun d hd => hw d ((by decide +kernel : ∀ d ∈ StrChars.Road.wordsChN, d ∈ tables_1) d hd)
        have c172 : Sta Z T164.heap "java/lang/String" "COMPACT_STRINGS" "Z" (.int zc) := Sta.ext (O169).2 SZ
        have c173 : Sta Z T164.heap "jdk/internal/util/Preconditions" "SIOOBE_FORMATTER" "Ljava/util/function/BiFunction;" fm := Sta.ext (O169).2 SF
        obtain ⟨cq174, kq174, q174a, q174b, q174c⟩ := isOf hZ164 e170 f164_0
        obtain ⟨_, _, ⟨T174, L174, k174, n174⟩, -, X174, ⟨Lc174, hQ174, l174, y174, z174⟩, st174⟩ := X170.virtualBack hx (y := (⟨"java/lang/String", "charAt", "(I)C"⟩ : MethodName)) (z := (⟨"java/lang/String", "charAt", "(I)C"⟩ : MethodName)) hown164 (mvT hZ164 (hwk hw 163 rfl)) (mvT hZ164 (hwk hw 164 rfl)) (notFace_of_selects (args := #[]) (mvT hZ164 (hwk hw 166 rfl))) (mvT hZ164 (hwk hw 166 rfl)) (mvT hZ164 (hwk hw 165 rfl)) (by decide) (StrChars.Road.chN (W := 0) hZ164 hws171 (kI := 4) (hwk hw 5 rfl) (i := 0) f164_0 f164_1 f164_2 W168 OS166.1 OS166.2.1 c172 PZ c173 RF OS166.2.2 (Nat.le_of_ble_eq_true rfl) (by decide) (by decide) (by decide)) q174a q174c (g := (mkF m 155 #[.val (.int p0), .val (.int p1), .val (.int (1 : Int32)), .val (.int ch1), .val (.int ch2), .val (.int (0 : Int32)), .val (.int ch3), .val (.int ch4), .val (.ref o_155), .val (.ref o_157), .val (.ref o_164), .val (.int (2 : Int32))] [(.int (0 : Int32)), (.ref o_164)])) rfl (by rw [hml]; rfl) (Steps.refl _) (argsL := [(.int (0 : Int32))]) (rest := []) (lenOf pd_26 rfl) rfl (by show 2 * 0 + _ ≤ _; exact Nat.le_of_eq rfl) (hb hby at_155) (fun _ _ => ⟨rfl, e170, (by decide : 14 + 0 ≤ _), (by decide : 65 + 0 ≤ _)⟩)
        dsimp only [Pt.U, Pt.locs, Pt.cells, Pt.slots] at X174 l174 y174 z174 st174 hQ174
        subst l174 y174 z174
        obtain ⟨hv174, hl174, e174⟩ := hQ174
        cases (show _ = some (Value.int ch1) from hv174)
        have N174 := Fr.app N170 (own_frnil hl174)
        obtain ⟨_, _, ⟨T175, L175, k175, n175⟩, -, X175, ⟨Lc175, hQ175, l175, y175, z175⟩, st175⟩ := Jvm.LawKit.callS X174 hx (y := (⟨"com/example/syndex/syndex/SectionKeyPathPinLaw", "exp", "(IICCCC)C"⟩ : MethodName)) hown164 (mvT hZ164 (hwk hw 185 rfl)) (mvT hZ164 (hwk hw 186 rfl)) (mvT hZ164 (hwk hw 2 rfl)) (mvT hZ164 (hwk hw 187 rfl)) (by decide) (backOf (W := 1) (ex01 l Z a0 hw [] ch1 ch2 ch3 ch4 T164.heap n0 O169 gch1 gch2 gch3 gch4) hZ164 (hwk hw 187 rfl) (hwk hw 2 rfl) (by decide) (by decide)) (g := (mkF m 167 #[.val (.int p0), .val (.int p1), .val (.int (1 : Int32)), .val (.int ch1), .val (.int ch2), .val (.int (0 : Int32)), .val (.int ch3), .val (.int ch4), .val (.ref o_155), .val (.ref o_157), .val (.ref o_164), .val (.int (2 : Int32))] [(.int ch4), (.int ch3), (.int ch2), (.int ch1), (.int (1 : Int32)), (.int (0 : Int32)), (.int ch1)])) rfl (by rw [hml]; rfl) (argsL := [(.int (0 : Int32)), (.int (1 : Int32)), (.int ch1), (.int ch2), (.int ch3), (.int ch4)]) (rest := [(.int ch1)]) (lenOf pd_27 rfl) rfl (by show 2 * 0 + _ ≤ _; exact Nat.le_of_eq rfl) (hb hby at_167) (fun _ _ => ⟨rfl, e174, (by decide : 14 + 0 ≤ _), (by decide : 65 + 0 ≤ _)⟩)
        dsimp only [Pt.U, Pt.locs, Pt.cells, Pt.slots] at X175 l175 y175 z175 st175 hQ175
        subst l175 y175 z175
        unfold Q_ex01 at hQ175
        obtain ⟨rfl, N175q, e175⟩ := hQ175
        have N175 := Fr.app N174 N175q
        have hws176 : ∀ d ∈ StrChars.Road.wordsChN, d.before a0 Z = true := fun d hd => hw d ((by decide +kernel : ∀ d ∈ StrChars.Road.wordsChN, d ∈ tables_1) d hd)
        obtain ⟨cq177, kq177, q177a, q177b, q177c⟩ := isOf hZ164 e175 f164_0
        obtain ⟨_, _, ⟨T177, L177, k177, n177⟩, -, X177, ⟨Lc177, hQ177, l177, y177, z177⟩, st177⟩ := X175.virtualBack hx (y := (⟨"java/lang/String", "charAt", "(I)C"⟩ : MethodName)) (z := (⟨"java/lang/String", "charAt", "(I)C"⟩ : MethodName)) hown164 (mvT hZ164 (hwk hw 163 rfl)) (mvT hZ164 (hwk hw 164 rfl)) (notFace_of_selects (args := #[]) (mvT hZ164 (hwk hw 166 rfl))) (mvT hZ164 (hwk hw 166 rfl)) (mvT hZ164 (hwk hw 165 rfl)) (by decide) (StrChars.Road.chN (W := 0) hZ164 hws176 (kI := 4) (hwk hw 5 rfl) (i := 1) f164_0 f164_1 f164_2 W168 OS166.1 OS166.2.1 c172 PZ c173 RF OS166.2.2 (Nat.le_of_ble_eq_true rfl) (by decide) (by decide) (by decide)) q177a q177c (g := (mkF m 184 #[.val (.int p0), .val (.int p1), .val (.int (1 : Int32)), .val (.int ch1), .val (.int ch2), .val (.int (0 : Int32)), .val (.int ch3), .val (.int ch4), .val (.ref o_155), .val (.ref o_157), .val (.ref o_164), .val (.int (2 : Int32))] [(.int (1 : Int32)), (.ref o_164)])) rfl (by rw [hml]; rfl) (Steps.refl _) (argsL := [(.int (1 : Int32))]) (rest := []) (lenOf pd_26 rfl) rfl (by show 2 * 0 + _ ≤ _; exact Nat.le_of_eq rfl) (hb hby at_184) (fun _ _ => ⟨rfl, e175, (by decide : 14 + 0 ≤ _), (by decide : 65 + 0 ≤ _)⟩)
        dsimp only [Pt.U, Pt.locs, Pt.cells, Pt.slots] at X177 l177 y177 z177 st177 hQ177
        subst l177 y177 z177
        obtain ⟨hv177, hl177, e177⟩ := hQ177
        cases (show _ = some (Value.int (46 : Int32)) from hv177)
        have N177 := Fr.app N175 (own_frnil hl177)
        obtain ⟨_, _, ⟨T178, L178, k178, n178⟩, -, X178, ⟨Lc178, hQ178, l178, y178, z178⟩, st178⟩ := Jvm.LawKit.callS X177 hx (y := (⟨"com/example/syndex/syndex/SectionKeyPathPinLaw", "exp", "(IICCCC)C"⟩ : MethodName)) hown164 (mvT hZ164 (hwk hw 185 rfl)) (mvT hZ164 (hwk hw 186 rfl)) (mvT hZ164 (hwk hw 2 rfl)) (mvT hZ164 (hwk hw 187 rfl)) (by decide) (backOf (W := 1) (ex11 l Z a0 hw [] ch1 ch2 ch3 ch4 T164.heap n0 O169 gch1 gch2 gch3 gch4) hZ164 (hwk hw 187 rfl) (hwk hw 2 rfl) (by decide) (by decide)) (g := (mkF m 196 #[.val (.int p0), .val (.int p1), .val (.int (1 : Int32)), .val (.int ch1), .val (.int ch2), .val (.int (0 : Int32)), .val (.int ch3), .val (.int ch4), .val (.ref o_155), .val (.ref o_157), .val (.ref o_164), .val (.int (2 : Int32))] [(.int ch4), (.int ch3), (.int ch2), (.int ch1), (.int (1 : Int32)), (.int (1 : Int32)), (.int (46 : Int32))])) rfl (by rw [hml]; rfl) (argsL := [(.int (1 : Int32)), (.int (1 : Int32)), (.int ch1), (.int ch2), (.int ch3), (.int ch4)]) (rest := [(.int (46 : Int32))]) (lenOf pd_27 rfl) rfl (by show 2 * 0 + _ ≤ _; exact Nat.le_of_eq rfl) (hb hby at_196) (fun _ _ => ⟨rfl, e177, (by decide : 14 + 0 ≤ _), (by decide : 65 + 0 ≤ _)⟩)
        dsimp only [Pt.U, Pt.locs, Pt.cells, Pt.slots] at X178 l178 y178 z178 st178 hQ178
        subst l178 y178 z178
        unfold Q_ex11 at hQ178
        obtain ⟨rfl, N178q, e178⟩ := hQ178
        have N178 := Fr.app N177 N178q
        have K179 : Keep h0 T155.heap [] := Keep.trans (Keep.refl h0 []) K155 all0
        have K180 : Keep h0 T157.heap [] := Keep.trans K179 K157 all0
        have K181 : Keep h0 T164.heap [] := Keep.trans K180 K164 all0
        have CR182 : CHr Z consts_1 s.vm h0 T164.vm T164.heap := CHr.trans CR165 CX164
        obtain ⟨fs, hr, hrun, hended, hRE⟩ := X178.leaveW hS164 (show _ ≤ T178.heap.size from by rw [e178]; exact (Nat.le_refl _)) (v := some (.int (1 : Int32))) (fun h => by rw [Bd.returns] at h; cases h)
        have CRl : CHr Z consts_1 s.vm s.heap (T178.setFrames fs).vm (T178.setFrames fs).heap := by
          have q := CHr.trans CR182 (CHv.at X178 hZ164 hEL CR182.1)
          rw [← hh, ← e178] at q
          exact q
        refine ⟨_, _, S154 _ ?_, hrun, hended, _, _, rfl, ?_, CRl, hRE.1, hRE.2.1, hRE.2.2.1, hRE.2.2.2.mono (by decide) (by decide)⟩
        · show Steps p.tables e below (s₁.setTop (mkF m 39 #[.val (.int p0), .val (.int p1), .val (.int (1 : Int32)), .val (.int ((p0 &&& (255 : Int32)).toUInt32.toUInt16.toUInt32.toInt32)), .val (.int ((((p0.toUInt32 >>> ((8 : Int32) &&& 31).toUInt32).toInt32) &&& (255 : Int32)).toUInt32.toUInt16.toUInt32.toInt32)), .unset, .unset, .unset, .unset, .unset, .unset, .unset] [(.int ((((p1.toUInt32 >>> ((16 : Int32) &&& 31).toUInt32).toInt32) &&& (255 : Int32)) % (3 : Int32)))])) _
          rw [hr152]
          show Steps p.tables e below (s₁.setTop (mkF m 39 #[.val (.int p0), .val (.int p1), .val (.int (1 : Int32)), .val (.int ((p0 &&& (255 : Int32)).toUInt32.toUInt16.toUInt32.toInt32)), .val (.int ((((p0.toUInt32 >>> ((8 : Int32) &&& 31).toUInt32).toInt32) &&& (255 : Int32)).toUInt32.toUInt16.toUInt32.toInt32)), .unset, .unset, .unset, .unset, .unset, .unset, .unset] [(.int (0 : Int32))])) _
          refine XS.istore X0.here hx rfl (hb hby at_39) rfl (l' := #[.val (.int p0), .val (.int p1), .val (.int (1 : Int32)), .val (.int ((p0 &&& (255 : Int32)).toUInt32.toUInt16.toUInt32.toInt32)), .val (.int ((((p0.toUInt32 >>> ((8 : Int32) &&& 31).toUInt32).toInt32) &&& (255 : Int32)).toUInt32.toUInt16.toUInt32.toInt32)), .val (.int (0 : Int32)), .unset, .unset, .unset, .unset, .unset, .unset]) rfl ?_
          show Steps p.tables e below (s₁.setTop (mkF m 41 #[.val (.int p0), .val (.int p1), .val (.int (1 : Int32)), .val (.int ((p0 &&& (255 : Int32)).toUInt32.toUInt16.toUInt32.toInt32)), .val (.int ((((p0.toUInt32 >>> ((8 : Int32) &&& 31).toUInt32).toInt32) &&& (255 : Int32)).toUInt32.toUInt16.toUInt32.toInt32)), .val (.int (0 : Int32)), .unset, .unset, .unset, .unset, .unset, .unset] [])) _
          refine XS.iloadN X0.here hx rfl (hb hby at_41) rfl ?_
          refine XS.sipush X0.here hx rfl (hb hby at_42) ?_
          refine XS.iand X0.here hx rfl (hb hby at_45) rfl ?_
          show Steps p.tables e below (s₁.setTop (mkF m 46 #[.val (.int p0), .val (.int p1), .val (.int (1 : Int32)), .val (.int ((p0 &&& (255 : Int32)).toUInt32.toUInt16.toUInt32.toInt32)), .val (.int ((((p0.toUInt32 >>> ((8 : Int32) &&& 31).toUInt32).toInt32) &&& (255 : Int32)).toUInt32.toUInt16.toUInt32.toInt32)), .val (.int (0 : Int32)), .unset, .unset, .unset, .unset, .unset, .unset] [(.int (p1 &&& (255 : Int32)))])) _
          refine XS.i2c X0.here hx rfl (hb hby at_46) rfl ?_
          show Steps p.tables e below (s₁.setTop (mkF m 47 #[.val (.int p0), .val (.int p1), .val (.int (1 : Int32)), .val (.int ((p0 &&& (255 : Int32)).toUInt32.toUInt16.toUInt32.toInt32)), .val (.int ((((p0.toUInt32 >>> ((8 : Int32) &&& 31).toUInt32).toInt32) &&& (255 : Int32)).toUInt32.toUInt16.toUInt32.toInt32)), .val (.int (0 : Int32)), .unset, .unset, .unset, .unset, .unset, .unset] [(.int ((p1 &&& (255 : Int32)).toUInt32.toUInt16.toUInt32.toInt32))])) _
          refine XS.istore X0.here hx rfl (hb hby at_47) rfl (l' := #[.val (.int p0), .val (.int p1), .val (.int (1 : Int32)), .val (.int ((p0 &&& (255 : Int32)).toUInt32.toUInt16.toUInt32.toInt32)), .val (.int ((((p0.toUInt32 >>> ((8 : Int32) &&& 31).toUInt32).toInt32) &&& (255 : Int32)).toUInt32.toUInt16.toUInt32.toInt32)), .val (.int (0 : Int32)), .val (.int ((p1 &&& (255 : Int32)).toUInt32.toUInt16.toUInt32.toInt32)), .unset, .unset, .unset, .unset, .unset]) rfl ?_
          show Steps p.tables e below (s₁.setTop (mkF m 49 #[.val (.int p0), .val (.int p1), .val (.int (1 : Int32)), .val (.int ((p0 &&& (255 : Int32)).toUInt32.toUInt16.toUInt32.toInt32)), .val (.int ((((p0.toUInt32 >>> ((8 : Int32) &&& 31).toUInt32).toInt32) &&& (255 : Int32)).toUInt32.toUInt16.toUInt32.toInt32)), .val (.int (0 : Int32)), .val (.int ((p1 &&& (255 : Int32)).toUInt32.toUInt16.toUInt32.toInt32)), .unset, .unset, .unset, .unset, .unset] [])) _
          refine XS.iloadN X0.here hx rfl (hb hby at_49) rfl ?_
          refine XS.bipush X0.here hx rfl (hb hby at_50) ?_
          refine XS.iushr X0.here hx rfl (hb hby at_52) rfl ?_
          show Steps p.tables e below (s₁.setTop (mkF m 53 #[.val (.int p0), .val (.int p1), .val (.int (1 : Int32)), .val (.int ((p0 &&& (255 : Int32)).toUInt32.toUInt16.toUInt32.toInt32)), .val (.int ((((p0.toUInt32 >>> ((8 : Int32) &&& 31).toUInt32).toInt32) &&& (255 : Int32)).toUInt32.toUInt16.toUInt32.toInt32)), .val (.int (0 : Int32)), .val (.int ((p1 &&& (255 : Int32)).toUInt32.toUInt16.toUInt32.toInt32)), .unset, .unset, .unset, .unset, .unset] [(.int ((p1.toUInt32 >>> ((8 : Int32) &&& 31).toUInt32).toInt32))])) _
          refine XS.sipush X0.here hx rfl (hb hby at_53) ?_
          refine XS.iand X0.here hx rfl (hb hby at_56) rfl ?_
          show Steps p.tables e below (s₁.setTop (mkF m 57 #[.val (.int p0), .val (.int p1), .val (.int (1 : Int32)), .val (.int ((p0 &&& (255 : Int32)).toUInt32.toUInt16.toUInt32.toInt32)), .val (.int ((((p0.toUInt32 >>> ((8 : Int32) &&& 31).toUInt32).toInt32) &&& (255 : Int32)).toUInt32.toUInt16.toUInt32.toInt32)), .val (.int (0 : Int32)), .val (.int ((p1 &&& (255 : Int32)).toUInt32.toUInt16.toUInt32.toInt32)), .unset, .unset, .unset, .unset, .unset] [(.int (((p1.toUInt32 >>> ((8 : Int32) &&& 31).toUInt32).toInt32) &&& (255 : Int32)))])) _
          refine XS.i2c X0.here hx rfl (hb hby at_57) rfl ?_
          show Steps p.tables e below (s₁.setTop (mkF m 58 #[.val (.int p0), .val (.int p1), .val (.int (1 : Int32)), .val (.int ((p0 &&& (255 : Int32)).toUInt32.toUInt16.toUInt32.toInt32)), .val (.int ((((p0.toUInt32 >>> ((8 : Int32) &&& 31).toUInt32).toInt32) &&& (255 : Int32)).toUInt32.toUInt16.toUInt32.toInt32)), .val (.int (0 : Int32)), .val (.int ((p1 &&& (255 : Int32)).toUInt32.toUInt16.toUInt32.toInt32)), .unset, .unset, .unset, .unset, .unset] [(.int ((((p1.toUInt32 >>> ((8 : Int32) &&& 31).toUInt32).toInt32) &&& (255 : Int32)).toUInt32.toUInt16.toUInt32.toInt32))])) _
          refine XS.istore X0.here hx rfl (hb hby at_58) rfl (l' := #[.val (.int p0), .val (.int p1), .val (.int (1 : Int32)), .val (.int ((p0 &&& (255 : Int32)).toUInt32.toUInt16.toUInt32.toInt32)), .val (.int ((((p0.toUInt32 >>> ((8 : Int32) &&& 31).toUInt32).toInt32) &&& (255 : Int32)).toUInt32.toUInt16.toUInt32.toInt32)), .val (.int (0 : Int32)), .val (.int ((p1 &&& (255 : Int32)).toUInt32.toUInt16.toUInt32.toInt32)), .val (.int ((((p1.toUInt32 >>> ((8 : Int32) &&& 31).toUInt32).toInt32) &&& (255 : Int32)).toUInt32.toUInt16.toUInt32.toInt32)), .unset, .unset, .unset, .unset]) rfl ?_
          show Steps p.tables e below (s₁.setTop (mkF m 60 #[.val (.int p0), .val (.int p1), .val (.int (1 : Int32)), .val (.int ((p0 &&& (255 : Int32)).toUInt32.toUInt16.toUInt32.toInt32)), .val (.int ((((p0.toUInt32 >>> ((8 : Int32) &&& 31).toUInt32).toInt32) &&& (255 : Int32)).toUInt32.toUInt16.toUInt32.toInt32)), .val (.int (0 : Int32)), .val (.int ((p1 &&& (255 : Int32)).toUInt32.toUInt16.toUInt32.toInt32)), .val (.int ((((p1.toUInt32 >>> ((8 : Int32) &&& 31).toUInt32).toInt32) &&& (255 : Int32)).toUInt32.toUInt16.toUInt32.toInt32)), .unset, .unset, .unset, .unset] [])) _
          rw [← ech1]
          show Steps p.tables e below (s₁.setTop (mkF m 60 #[.val (.int p0), .val (.int p1), .val (.int (1 : Int32)), .val (.int ch1), .val (.int ((((p0.toUInt32 >>> ((8 : Int32) &&& 31).toUInt32).toInt32) &&& (255 : Int32)).toUInt32.toUInt16.toUInt32.toInt32)), .val (.int (0 : Int32)), .val (.int ((p1 &&& (255 : Int32)).toUInt32.toUInt16.toUInt32.toInt32)), .val (.int ((((p1.toUInt32 >>> ((8 : Int32) &&& 31).toUInt32).toInt32) &&& (255 : Int32)).toUInt32.toUInt16.toUInt32.toInt32)), .unset, .unset, .unset, .unset] [])) _
          rw [← ech2]
          show Steps p.tables e below (s₁.setTop (mkF m 60 #[.val (.int p0), .val (.int p1), .val (.int (1 : Int32)), .val (.int ch1), .val (.int ch2), .val (.int (0 : Int32)), .val (.int ((p1 &&& (255 : Int32)).toUInt32.toUInt16.toUInt32.toInt32)), .val (.int ((((p1.toUInt32 >>> ((8 : Int32) &&& 31).toUInt32).toInt32) &&& (255 : Int32)).toUInt32.toUInt16.toUInt32.toInt32)), .unset, .unset, .unset, .unset] [])) _
          rw [← ech3]
          show Steps p.tables e below (s₁.setTop (mkF m 60 #[.val (.int p0), .val (.int p1), .val (.int (1 : Int32)), .val (.int ch1), .val (.int ch2), .val (.int (0 : Int32)), .val (.int ch3), .val (.int ((((p1.toUInt32 >>> ((8 : Int32) &&& 31).toUInt32).toInt32) &&& (255 : Int32)).toUInt32.toUInt16.toUInt32.toInt32)), .unset, .unset, .unset, .unset] [])) _
          rw [← ech4]
          show Steps p.tables e below (s₁.setTop (mkF m 60 #[.val (.int p0), .val (.int p1), .val (.int (1 : Int32)), .val (.int ch1), .val (.int ch2), .val (.int (0 : Int32)), .val (.int ch3), .val (.int ch4), .unset, .unset, .unset, .unset] [])) _
          refine XS.iloadN X0.here hx rfl (hb hby at_60) rfl ?_
          refine XS.iloadN X0.here hx rfl (hb hby at_61) rfl ?_
          refine XS.iload X0.here hx rfl (hb hby at_62) rfl ?_
          show Steps p.tables e below (s₁.setTop (mkF m 64 #[.val (.int p0), .val (.int p1), .val (.int (1 : Int32)), .val (.int ch1), .val (.int ch2), .val (.int (0 : Int32)), .val (.int ch3), .val (.int ch4), .unset, .unset, .unset, .unset] [(.int ch2), (.int ch1), (.int (1 : Int32))])) _
          refine st155 _ ?_
          show Steps p.tables e below (T155.setTop (mkF m 67 #[.val (.int p0), .val (.int p1), .val (.int (1 : Int32)), .val (.int ch1), .val (.int ch2), .val (.int (0 : Int32)), .val (.int ch3), .val (.int ch4), .unset, .unset, .unset, .unset] [(.ref o_155)])) _
          refine XS.astore X155.here hx rfl (hb hby at_67) rfl rfl (l' := #[.val (.int p0), .val (.int p1), .val (.int (1 : Int32)), .val (.int ch1), .val (.int ch2), .val (.int (0 : Int32)), .val (.int ch3), .val (.int ch4), .val (.ref o_155), .unset, .unset, .unset]) rfl ?_
          show Steps p.tables e below (T155.setTop (mkF m 69 #[.val (.int p0), .val (.int p1), .val (.int (1 : Int32)), .val (.int ch1), .val (.int ch2), .val (.int (0 : Int32)), .val (.int ch3), .val (.int ch4), .val (.ref o_155), .unset, .unset, .unset] [])) _
          refine XS.iload X155.here hx rfl (hb hby at_69) rfl ?_
          refine XS.iload X155.here hx rfl (hb hby at_71) rfl ?_
          refine XS.iload X155.here hx rfl (hb hby at_73) rfl ?_
          show Steps p.tables e below (T155.setTop (mkF m 75 #[.val (.int p0), .val (.int p1), .val (.int (1 : Int32)), .val (.int ch1), .val (.int ch2), .val (.int (0 : Int32)), .val (.int ch3), .val (.int ch4), .val (.ref o_155), .unset, .unset, .unset] [(.int ch4), (.int ch3), (.int (0 : Int32))])) _
          refine st157.trans ?_
          show Steps p.tables e below (T157.setTop (mkF m 78 #[.val (.int p0), .val (.int p1), .val (.int (1 : Int32)), .val (.int ch1), .val (.int ch2), .val (.int (0 : Int32)), .val (.int ch3), .val (.int ch4), .val (.ref o_155), .unset, .unset, .unset] [(.ref o_157)])) _
          refine XS.astore X157b.here hx rfl (hb hby at_78) rfl rfl (l' := #[.val (.int p0), .val (.int p1), .val (.int (1 : Int32)), .val (.int ch1), .val (.int ch2), .val (.int (0 : Int32)), .val (.int ch3), .val (.int ch4), .val (.ref o_155), .val (.ref o_157), .unset, .unset]) rfl ?_
          show Steps p.tables e below (T157.setTop (mkF m 80 #[.val (.int p0), .val (.int p1), .val (.int (1 : Int32)), .val (.int ch1), .val (.int ch2), .val (.int (0 : Int32)), .val (.int ch3), .val (.int ch4), .val (.ref o_155), .val (.ref o_157), .unset, .unset] [])) _
          refine XS.aload X157b.here hx rfl (hb hby at_80) rfl rfl ?_
          refine XS.aload X157b.here hx rfl (hb hby at_82) rfl rfl ?_
          show Steps p.tables e below (T157.setTop (mkF m 84 #[.val (.int p0), .val (.int p1), .val (.int (1 : Int32)), .val (.int ch1), .val (.int ch2), .val (.int (0 : Int32)), .val (.int ch3), .val (.int ch4), .val (.ref o_155), .val (.ref o_157), .unset, .unset] [(.ref o_157), (.ref o_155)])) _
          refine st164.trans ?_
          show Steps p.tables e below (T164.setTop (mkF m 87 #[.val (.int p0), .val (.int p1), .val (.int (1 : Int32)), .val (.int ch1), .val (.int ch2), .val (.int (0 : Int32)), .val (.int ch3), .val (.int ch4), .val (.ref o_155), .val (.ref o_157), .unset, .unset] [(.ref o_164)])) _
          refine XS.astore X164b.here hx rfl (hb hby at_87) rfl rfl (l' := #[.val (.int p0), .val (.int p1), .val (.int (1 : Int32)), .val (.int ch1), .val (.int ch2), .val (.int (0 : Int32)), .val (.int ch3), .val (.int ch4), .val (.ref o_155), .val (.ref o_157), .val (.ref o_164), .unset]) rfl ?_
          show Steps p.tables e below (T164.setTop (mkF m 89 #[.val (.int p0), .val (.int p1), .val (.int (1 : Int32)), .val (.int ch1), .val (.int ch2), .val (.int (0 : Int32)), .val (.int ch3), .val (.int ch4), .val (.ref o_155), .val (.ref o_157), .val (.ref o_164), .unset] [])) _
          refine XS.aload X164b.here hx rfl (hb hby at_89) rfl rfl ?_
          refine XS.ifnonnullYes X164b.here hx rfl (pc0 := 91) (pc' := 96) rfl (hb hby at_91) rfl (by decide) (by decide) ?_
          show Steps p.tables e below (T164.setTop (mkF m 96 #[.val (.int p0), .val (.int p1), .val (.int (1 : Int32)), .val (.int ch1), .val (.int ch2), .val (.int (0 : Int32)), .val (.int ch3), .val (.int ch4), .val (.ref o_155), .val (.ref o_157), .val (.ref o_164), .unset] [])) _
          refine XS.iloadN X164b.here hx rfl (hb hby at_96) rfl ?_
          refine XS.ifYes X164b.here hx rfl (pc0 := 97) (pc' := 126) rfl (hb hby at_97) rfl ((if0 _ _).trans (feq (by decide : ¬ ((1 : Int32) = (0 : Int32)))).2) (by decide) (by decide) ?_
          show Steps p.tables e below (T164.setTop (mkF m 126 #[.val (.int p0), .val (.int p1), .val (.int (1 : Int32)), .val (.int ch1), .val (.int ch2), .val (.int (0 : Int32)), .val (.int ch3), .val (.int ch4), .val (.ref o_155), .val (.ref o_157), .val (.ref o_164), .unset] [])) _
          refine XS.iloadN X164b.here hx rfl (hb hby at_126) rfl ?_
          refine XS.iconst X164b.here hx rfl (hb hby at_127) ?_
          refine XS.iadd X164b.here hx rfl (hb hby at_128) rfl ?_
          show Steps p.tables e below (T164.setTop (mkF m 129 #[.val (.int p0), .val (.int p1), .val (.int (1 : Int32)), .val (.int ch1), .val (.int ch2), .val (.int (0 : Int32)), .val (.int ch3), .val (.int ch4), .val (.ref o_155), .val (.ref o_157), .val (.ref o_164), .unset] [(.int ((1 : Int32) + (1 : Int32)))])) _
          rw [show ((1 : Int32) + (1 : Int32)) = (2 : Int32) from by decide]
          show Steps p.tables e below (T164.setTop (mkF m 129 #[.val (.int p0), .val (.int p1), .val (.int (1 : Int32)), .val (.int ch1), .val (.int ch2), .val (.int (0 : Int32)), .val (.int ch3), .val (.int ch4), .val (.ref o_155), .val (.ref o_157), .val (.ref o_164), .unset] [(.int (2 : Int32))])) _
          refine XS.iload X164b.here hx rfl (hb hby at_129) rfl ?_
          refine XS.iadd X164b.here hx rfl (hb hby at_131) rfl ?_
          show Steps p.tables e below (T164.setTop (mkF m 132 #[.val (.int p0), .val (.int p1), .val (.int (1 : Int32)), .val (.int ch1), .val (.int ch2), .val (.int (0 : Int32)), .val (.int ch3), .val (.int ch4), .val (.ref o_155), .val (.ref o_157), .val (.ref o_164), .unset] [(.int ((2 : Int32) + (0 : Int32)))])) _
          rw [show ((2 : Int32) + (0 : Int32)) = (2 : Int32) from by decide]
          show Steps p.tables e below (T164.setTop (mkF m 132 #[.val (.int p0), .val (.int p1), .val (.int (1 : Int32)), .val (.int ch1), .val (.int ch2), .val (.int (0 : Int32)), .val (.int ch3), .val (.int ch4), .val (.ref o_155), .val (.ref o_157), .val (.ref o_164), .unset] [(.int (2 : Int32))])) _
          refine XS.istore X164b.here hx rfl (hb hby at_132) rfl (l' := #[.val (.int p0), .val (.int p1), .val (.int (1 : Int32)), .val (.int ch1), .val (.int ch2), .val (.int (0 : Int32)), .val (.int ch3), .val (.int ch4), .val (.ref o_155), .val (.ref o_157), .val (.ref o_164), .val (.int (2 : Int32))]) rfl ?_
          show Steps p.tables e below (T164.setTop (mkF m 134 #[.val (.int p0), .val (.int p1), .val (.int (1 : Int32)), .val (.int ch1), .val (.int ch2), .val (.int (0 : Int32)), .val (.int ch3), .val (.int ch4), .val (.ref o_155), .val (.ref o_157), .val (.ref o_164), .val (.int (2 : Int32))] [])) _
          refine XS.aload X164b.here hx rfl (hb hby at_134) rfl rfl ?_
          show Steps p.tables e below (T164.setTop (mkF m 136 #[.val (.int p0), .val (.int p1), .val (.int (1 : Int32)), .val (.int ch1), .val (.int ch2), .val (.int (0 : Int32)), .val (.int ch3), .val (.int ch4), .val (.ref o_155), .val (.ref o_157), .val (.ref o_164), .val (.int (2 : Int32))] [(.ref o_164)])) _
          refine st170.trans ?_
          show Steps p.tables e below (T170.setTop (mkF m 139 #[.val (.int p0), .val (.int p1), .val (.int (1 : Int32)), .val (.int ch1), .val (.int ch2), .val (.int (0 : Int32)), .val (.int ch3), .val (.int ch4), .val (.ref o_155), .val (.ref o_157), .val (.ref o_164), .val (.int (2 : Int32))] [(.int (2 : Int32))])) _
          refine XS.iload X170.here hx rfl (hb hby at_139) rfl ?_
          refine XS.icmpYes X170.here hx rfl (pc0 := 141) (pc' := 146) rfl (hb hby at_141) rfl (teq (by decide : (2 : Int32) = (2 : Int32))).1 (by decide) (by decide) ?_
          show Steps p.tables e below (T170.setTop (mkF m 146 #[.val (.int p0), .val (.int p1), .val (.int (1 : Int32)), .val (.int ch1), .val (.int ch2), .val (.int (0 : Int32)), .val (.int ch3), .val (.int ch4), .val (.ref o_155), .val (.ref o_157), .val (.ref o_164), .val (.int (2 : Int32))] [])) _
          refine XS.iconst X170.here hx rfl (hb hby at_146) ?_
          refine XS.iload X170.here hx rfl (hb hby at_147) rfl ?_
          refine XS.icmpNo X170.here hx rfl (hb hby at_149) rfl (tlt (by decide : (0 : Int32) < (2 : Int32))).2.1 ?_
          show Steps p.tables e below (T170.setTop (mkF m 152 #[.val (.int p0), .val (.int p1), .val (.int (1 : Int32)), .val (.int ch1), .val (.int ch2), .val (.int (0 : Int32)), .val (.int ch3), .val (.int ch4), .val (.ref o_155), .val (.ref o_157), .val (.ref o_164), .val (.int (2 : Int32))] [])) _
          refine XS.aload X170.here hx rfl (hb hby at_152) rfl rfl ?_
          refine XS.iconst X170.here hx rfl (hb hby at_154) ?_
          show Steps p.tables e below (T170.setTop (mkF m 155 #[.val (.int p0), .val (.int p1), .val (.int (1 : Int32)), .val (.int ch1), .val (.int ch2), .val (.int (0 : Int32)), .val (.int ch3), .val (.int ch4), .val (.ref o_155), .val (.ref o_157), .val (.ref o_164), .val (.int (2 : Int32))] [(.int (0 : Int32)), (.ref o_164)])) _
          refine st174.trans ?_
          show Steps p.tables e below (T174.setTop (mkF m 158 #[.val (.int p0), .val (.int p1), .val (.int (1 : Int32)), .val (.int ch1), .val (.int ch2), .val (.int (0 : Int32)), .val (.int ch3), .val (.int ch4), .val (.ref o_155), .val (.ref o_157), .val (.ref o_164), .val (.int (2 : Int32))] [(.int ch1)])) _
          refine XS.iconst X174.here hx rfl (hb hby at_158) ?_
          refine XS.iloadN X174.here hx rfl (hb hby at_159) rfl ?_
          refine XS.iloadN X174.here hx rfl (hb hby at_160) rfl ?_
          refine XS.iload X174.here hx rfl (hb hby at_161) rfl ?_
          show Steps p.tables e below (T174.setTop (mkF m 163 #[.val (.int p0), .val (.int p1), .val (.int (1 : Int32)), .val (.int ch1), .val (.int ch2), .val (.int (0 : Int32)), .val (.int ch3), .val (.int ch4), .val (.ref o_155), .val (.ref o_157), .val (.ref o_164), .val (.int (2 : Int32))] [(.int ch2), (.int ch1), (.int (1 : Int32)), (.int (0 : Int32)), (.int ch1)])) _
          refine XS.iload X174.here hx rfl (hb hby at_163) rfl ?_
          refine XS.iload X174.here hx rfl (hb hby at_165) rfl ?_
          show Steps p.tables e below (T174.setTop (mkF m 167 #[.val (.int p0), .val (.int p1), .val (.int (1 : Int32)), .val (.int ch1), .val (.int ch2), .val (.int (0 : Int32)), .val (.int ch3), .val (.int ch4), .val (.ref o_155), .val (.ref o_157), .val (.ref o_164), .val (.int (2 : Int32))] [(.int ch4), (.int ch3), (.int ch2), (.int ch1), (.int (1 : Int32)), (.int (0 : Int32)), (.int ch1)])) _
          refine st175 _ ?_
          show Steps p.tables e below (T175.setTop (mkF m 170 #[.val (.int p0), .val (.int p1), .val (.int (1 : Int32)), .val (.int ch1), .val (.int ch2), .val (.int (0 : Int32)), .val (.int ch3), .val (.int ch4), .val (.ref o_155), .val (.ref o_157), .val (.ref o_164), .val (.int (2 : Int32))] [(.int ch1), (.int ch1)])) _
          refine XS.icmpYes X175.here hx rfl (pc0 := 170) (pc' := 175) rfl (hb hby at_170) rfl (teq (rfl : ch1 = ch1)).1 (by decide) (by decide) ?_
          show Steps p.tables e below (T175.setTop (mkF m 175 #[.val (.int p0), .val (.int p1), .val (.int (1 : Int32)), .val (.int ch1), .val (.int ch2), .val (.int (0 : Int32)), .val (.int ch3), .val (.int ch4), .val (.ref o_155), .val (.ref o_157), .val (.ref o_164), .val (.int (2 : Int32))] [])) _
          refine XS.iconst X175.here hx rfl (hb hby at_175) ?_
          refine XS.iload X175.here hx rfl (hb hby at_176) rfl ?_
          refine XS.icmpNo X175.here hx rfl (hb hby at_178) rfl (tlt (by decide : (1 : Int32) < (2 : Int32))).2.1 ?_
          show Steps p.tables e below (T175.setTop (mkF m 181 #[.val (.int p0), .val (.int p1), .val (.int (1 : Int32)), .val (.int ch1), .val (.int ch2), .val (.int (0 : Int32)), .val (.int ch3), .val (.int ch4), .val (.ref o_155), .val (.ref o_157), .val (.ref o_164), .val (.int (2 : Int32))] [])) _
          refine XS.aload X175.here hx rfl (hb hby at_181) rfl rfl ?_
          refine XS.iconst X175.here hx rfl (hb hby at_183) ?_
          show Steps p.tables e below (T175.setTop (mkF m 184 #[.val (.int p0), .val (.int p1), .val (.int (1 : Int32)), .val (.int ch1), .val (.int ch2), .val (.int (0 : Int32)), .val (.int ch3), .val (.int ch4), .val (.ref o_155), .val (.ref o_157), .val (.ref o_164), .val (.int (2 : Int32))] [(.int (1 : Int32)), (.ref o_164)])) _
          refine st177.trans ?_
          show Steps p.tables e below (T177.setTop (mkF m 187 #[.val (.int p0), .val (.int p1), .val (.int (1 : Int32)), .val (.int ch1), .val (.int ch2), .val (.int (0 : Int32)), .val (.int ch3), .val (.int ch4), .val (.ref o_155), .val (.ref o_157), .val (.ref o_164), .val (.int (2 : Int32))] [(.int (46 : Int32))])) _
          refine XS.iconst X177.here hx rfl (hb hby at_187) ?_
          refine XS.iloadN X177.here hx rfl (hb hby at_188) rfl ?_
          refine XS.iloadN X177.here hx rfl (hb hby at_189) rfl ?_
          refine XS.iload X177.here hx rfl (hb hby at_190) rfl ?_
          show Steps p.tables e below (T177.setTop (mkF m 192 #[.val (.int p0), .val (.int p1), .val (.int (1 : Int32)), .val (.int ch1), .val (.int ch2), .val (.int (0 : Int32)), .val (.int ch3), .val (.int ch4), .val (.ref o_155), .val (.ref o_157), .val (.ref o_164), .val (.int (2 : Int32))] [(.int ch2), (.int ch1), (.int (1 : Int32)), (.int (1 : Int32)), (.int (46 : Int32))])) _
          refine XS.iload X177.here hx rfl (hb hby at_192) rfl ?_
          refine XS.iload X177.here hx rfl (hb hby at_194) rfl ?_
          show Steps p.tables e below (T177.setTop (mkF m 196 #[.val (.int p0), .val (.int p1), .val (.int (1 : Int32)), .val (.int ch1), .val (.int ch2), .val (.int (0 : Int32)), .val (.int ch3), .val (.int ch4), .val (.ref o_155), .val (.ref o_157), .val (.ref o_164), .val (.int (2 : Int32))] [(.int ch4), (.int ch3), (.int ch2), (.int ch1), (.int (1 : Int32)), (.int (1 : Int32)), (.int (46 : Int32))])) _
          refine st178 _ ?_
          show Steps p.tables e below (T178.setTop (mkF m 199 #[.val (.int p0), .val (.int p1), .val (.int (1 : Int32)), .val (.int ch1), .val (.int ch2), .val (.int (0 : Int32)), .val (.int ch3), .val (.int ch4), .val (.ref o_155), .val (.ref o_157), .val (.ref o_164), .val (.int (2 : Int32))] [(.int (46 : Int32)), (.int (46 : Int32))])) _
          refine XS.icmpYes X178.here hx rfl (pc0 := 199) (pc' := 204) rfl (hb hby at_199) rfl (teq (by decide : (46 : Int32) = (46 : Int32))).1 (by decide) (by decide) ?_
          show Steps p.tables e below (T178.setTop (mkF m 204 #[.val (.int p0), .val (.int p1), .val (.int (1 : Int32)), .val (.int ch1), .val (.int ch2), .val (.int (0 : Int32)), .val (.int ch3), .val (.int ch4), .val (.ref o_155), .val (.ref o_157), .val (.ref o_164), .val (.int (2 : Int32))] [])) _
          refine XS.iconst X178.here hx rfl (hb hby at_204) ?_
          refine XS.iload X178.here hx rfl (hb hby at_205) rfl ?_
          refine XS.icmpYes X178.here hx rfl (pc0 := 207) (pc' := 233) rfl (hb hby at_207) rfl (flt (by decide : ¬ ((2 : Int32) < (2 : Int32)))).2.1 (by decide) (by decide) ?_
          show Steps p.tables e below (T178.setTop (mkF m 233 #[.val (.int p0), .val (.int p1), .val (.int (1 : Int32)), .val (.int ch1), .val (.int ch2), .val (.int (0 : Int32)), .val (.int ch3), .val (.int ch4), .val (.ref o_155), .val (.ref o_157), .val (.ref o_164), .val (.int (2 : Int32))] [])) _
          refine XS.iconst X178.here hx rfl (hb hby at_233) ?_
          refine XS.iload X178.here hx rfl (hb hby at_234) rfl ?_
          refine XS.icmpYes X178.here hx rfl (pc0 := 236) (pc' := 262) rfl (hb hby at_236) rfl (flt (by decide : ¬ ((3 : Int32) < (2 : Int32)))).2.1 (by decide) (by decide) ?_
          show Steps p.tables e below (T178.setTop (mkF m 262 #[.val (.int p0), .val (.int p1), .val (.int (1 : Int32)), .val (.int ch1), .val (.int ch2), .val (.int (0 : Int32)), .val (.int ch3), .val (.int ch4), .val (.ref o_155), .val (.ref o_157), .val (.ref o_164), .val (.int (2 : Int32))] [])) _
          refine XS.iconst X178.here hx rfl (hb hby at_262) ?_
          refine XS.iload X178.here hx rfl (hb hby at_263) rfl ?_
          refine XS.icmpYes X178.here hx rfl (pc0 := 265) (pc' := 291) rfl (hb hby at_265) rfl (flt (by decide : ¬ ((4 : Int32) < (2 : Int32)))).2.1 (by decide) (by decide) ?_
          show Steps p.tables e below (T178.setTop (mkF m 291 #[.val (.int p0), .val (.int p1), .val (.int (1 : Int32)), .val (.int ch1), .val (.int ch2), .val (.int (0 : Int32)), .val (.int ch3), .val (.int ch4), .val (.ref o_155), .val (.ref o_157), .val (.ref o_164), .val (.int (2 : Int32))] [])) _
          refine XS.iconst X178.here hx rfl (hb hby at_291) ?_
          show Steps p.tables e below (T178.setTop (mkF m 292 #[.val (.int p0), .val (.int p1), .val (.int (1 : Int32)), .val (.int ch1), .val (.int ch2), .val (.int (0 : Int32)), .val (.int ch3), .val (.int ch4), .val (.ref o_155), .val (.ref o_157), .val (.ref o_164), .val (.int (2 : Int32))] [(.int (1 : Int32))])) _
          exact Jvm.RoadKit.retOut X178 hx Bd.returns rfl (Or.inl ⟨rfl, by simp, _, rfl⟩) (hb hby at_292) hr
        · show Q_rm0 Z p0 p1 zc fm h0 n0 _ T178.heap _
          rw [e178]
          unfold Q_rm0
          exact ⟨rfl, N178, K181⟩
      · by_cases hr153 : ((((p1.toUInt32 >>> ((16 : Int32) &&& 31).toUInt32).toInt32) &&& (255 : Int32)) % (3 : Int32)) = (1 : Int32)
        · obtain ⟨ch1, ech1, gch1⟩ : ∃ z, z = ((p0 &&& (255 : Int32)).toUInt32.toUInt16.toUInt32.toInt32) ∧ C8 z := ⟨_, rfl, own_ch8 _⟩
          obtain ⟨ch2, ech2, gch2⟩ : ∃ z, z = ((((p0.toUInt32 >>> ((8 : Int32) &&& 31).toUInt32).toInt32) &&& (255 : Int32)).toUInt32.toUInt16.toUInt32.toInt32) ∧ C8 z := ⟨_, rfl, own_ch8 _⟩
          obtain ⟨ch3, ech3, gch3⟩ : ∃ z, z = ((p1 &&& (255 : Int32)).toUInt32.toUInt16.toUInt32.toInt32) ∧ C8 z := ⟨_, rfl, own_ch8 _⟩
          obtain ⟨ch4, ech4, gch4⟩ : ∃ z, z = ((((p1.toUInt32 >>> ((8 : Int32) &&& 31).toUInt32).toInt32) &&& (255 : Int32)).toUInt32.toUInt16.toUInt32.toInt32) ∧ C8 z := ⟨_, rfl, own_ch8 _⟩
          obtain ⟨_, _, ⟨T183, L183, k183, n183⟩, -, X183, ⟨Lc183, hQ183, l183, y183, z183⟩, st183⟩ := Jvm.LawKit.callS X0 hx (y := (⟨"com/example/syndex/syndex/SectionKeyPathPinLaw", "mk", "(ICC)Ljava/lang/String;"⟩ : MethodName)) hown (mvT hZ (hwk hw 0 rfl)) (mvT hZ (hwk hw 1 rfl)) (mvT hZ (hwk hw 2 rfl)) (mvT hZ (hwk hw 3 rfl)) (by decide) (backOf (W := 0) (mk1 l Z a0 hw [] ch1 ch2 zc h0 n0 O0 gch1 gch2 SZ PZ) hZ (hwk hw 3 rfl) (hwk hw 2 rfl) (by decide) (by decide)) (g := (mkF m 64 #[.val (.int p0), .val (.int p1), .val (.int (1 : Int32)), .val (.int ch1), .val (.int ch2), .val (.int (1 : Int32)), .val (.int ch3), .val (.int ch4), .unset, .unset, .unset, .unset] [(.int ch2), (.int ch1), (.int (1 : Int32))])) rfl (by rw [hml]; rfl) (argsL := [(.int (1 : Int32)), (.int ch1), (.int ch2)]) (rest := []) (lenOf pd_23 rfl) rfl (by show 2 * 0 + _ ≤ _; exact Nat.le_of_eq rfl) (hb hby at_64) (fun _ _ => ⟨rfl, e0, (by decide : 0 + 2 ≤ _), (by decide : 0 + 5 ≤ _)⟩)
          dsimp only [Pt.U, Pt.locs, Pt.cells, Pt.slots] at X183 l183 y183 z183 st183 hQ183
          subst l183 y183 z183
          unfold Q_mk1 at hQ183
          obtain ⟨o_183, t_183, kb_183, rfl, N183q, K183, ge_o_183, f183_0, f183_1, f183_2, f183_3⟩ := hQ183
          have N183 := Fr.app N0 N183q
          have g_o_183 : n0 ≤ o_183 := Nat.le_trans (old_le O0) ge_o_183
          have O184 : Old Z n0 T183.heap := Old.keep O0 K183 all0
          obtain ⟨_, _, ⟨T185, L185, k185, n185⟩, -, X185, ⟨Lc185, hQ185, l185, y185, z185⟩, st185⟩ := Jvm.LawKit.callS X183 hx (y := (⟨"com/example/syndex/syndex/SectionKeyPathPinLaw", "mk", "(ICC)Ljava/lang/String;"⟩ : MethodName)) hown (mvT hZ (hwk hw 0 rfl)) (mvT hZ (hwk hw 1 rfl)) (mvT hZ (hwk hw 2 rfl)) (mvT hZ (hwk hw 3 rfl)) (by decide) (backOf (W := 0) (mk1 l Z a0 hw [] ch3 ch4 zc T183.heap n0 O184 gch3 gch4 SZ PZ) hZ (hwk hw 3 rfl) (hwk hw 2 rfl) (by decide) (by decide)) (g := (mkF m 75 #[.val (.int p0), .val (.int p1), .val (.int (1 : Int32)), .val (.int ch1), .val (.int ch2), .val (.int (1 : Int32)), .val (.int ch3), .val (.int ch4), .val (.ref o_183), .unset, .unset, .unset] [(.int ch4), (.int ch3), (.int (1 : Int32))])) rfl (by rw [hml]; rfl) (argsL := [(.int (1 : Int32)), (.int ch3), (.int ch4)]) (rest := []) (lenOf pd_23 rfl) rfl (by show 2 * 0 + _ ≤ _; exact Nat.le_of_eq rfl) (hb hby at_75) (fun _ _ => ⟨rfl, (rfl : T183.heap = T183.heap), (by decide : 2 + 2 ≤ _), (by decide : 5 + 5 ≤ _)⟩)
          dsimp only [Pt.U, Pt.locs, Pt.cells, Pt.slots] at X185 l185 y185 z185 st185 hQ185
          subst l185 y185 z185
          unfold Q_mk1 at hQ185
          obtain ⟨o_185, t_185, kb_185, rfl, N185q, K185, ge_o_185, f185_0, f185_1, f185_2, f185_3⟩ := hQ185
          have N185 := Fr.app N183 N185q
          have g_o_185 : n0 ≤ o_185 := Nat.le_trans (old_le O184) ge_o_185
          have c186 : Exa Z T185.heap o_183 "java/lang/String" := (Exa.keep f183_0 K185)
          have c187 : Fld Z T185.heap o_183 "java/lang/String" "value" "[B" (.ref t_183) := (Fld.keep f183_1 K185 nin0)
          have c188 : Fld Z T185.heap o_183 "java/lang/String" "coder" "B" (.int (0 : Int32)) := (Fld.keep f183_2 K185 nin0)
          have c189 : Arv Z T185.heap t_183 kb_183 .byte (1 : Int32) [(.int (BY ch1))] (.int (0 : Int32)) := (Arv.keep f183_3 K185 nin0)
          have O190 : Old Z n0 T185.heap := Old.keep O184 K185 all0
          have CR192 : CHr Z consts_1 s.vm h0 s.vm T183.heap := CHr.trans CR0 (CHr.keep K183 all0 CR0.1)
          have CR193 : CHr Z consts_1 s.vm h0 s.vm T185.heap := CHr.trans CR192 (CHr.keep K185 all0 CR192.1)
          obtain ⟨_, _, ⟨T191, L191, k191, n191⟩, -, X191, hs191', hg191', ⟨Lc191, hQ191, l191, y191, z191, CX191⟩, st191⟩ := Jvm.RoadKit.callSS X185 hx (y := (⟨"com/example/syndex/syndex/Section", "keyPath", "(Ljava/lang/String;Ljava/lang/String;)Ljava/lang/String;"⟩ : MethodName)) hown (mvT hZ (hwk hw 26 rfl)) (mvT hZ (hwk hw 27 rfl)) (mvT hZ (hwk hw 28 rfl)) (mvT hZ (hwk hw 29 rfl)) (by decide) (own_backSH (W := 0) (kp1 l Z a0 hw [] o_183 t_183 kb_183 (1 : Int32) ([(.int (BY ch1))]) o_185 t_185 kb_185 (1 : Int32) ([(.int (BY ch3))]) zc T185.heap n0 O190 c186 c187 c188 c189 f185_0 f185_1 f185_2 f185_3 (by decide) (by decide) rfl rfl SZ PZ) hZ (hwk hw 29 rfl) (hwk hw 28 rfl) (by decide) (by decide) hEL CR193.1 (fun _ q => nomatch q)) (g := (mkF m 84 #[.val (.int p0), .val (.int p1), .val (.int (1 : Int32)), .val (.int ch1), .val (.int ch2), .val (.int (1 : Int32)), .val (.int ch3), .val (.int ch4), .val (.ref o_183), .val (.ref o_185), .unset, .unset] [(.ref o_185), (.ref o_183)])) rfl (by rw [hml]; rfl) (argsL := [(.ref o_183), (.ref o_185)]) (rest := []) (lenOf pd_24 rfl) rfl (by show 2 * 0 + _ ≤ _; exact Nat.le_of_eq rfl) (hb hby at_84) (fun _ _ => ⟨rfl, (rfl : T185.heap = T185.heap), (by decide : 4 + 6 ≤ _), (by decide : 10 + 48 ≤ _)⟩)
          dsimp only [Pt.U, Pt.locs, Pt.cells, Pt.slots] at X191 l191 y191 z191 st191 hQ191 hs191' hg191' CX191
          subst l191 y191 z191
          obtain ⟨X191b, hS191, hZ191, hown191⟩ := rebS hS0 (show _ ≤ T185.heap.size from by rw [(rfl : T185.heap = T185.heap)]; exact (Nat.le_trans (Nat.le_refl _) (Nat.le_trans (Nat.le_trans (Nat.le_refl _) K183.1) K185.1))) X191 hs191' hg191' hZ hown
          unfold Q_kp1 at hQ191
          obtain ⟨o_191, t_191, kb_191, rfl, N191q, K191, ge_o_191, f191_0, f191_1, f191_2, f191_3⟩ := hQ191
          have N191 := Fr.app N185 N191q
          have g_o_191 : n0 ≤ o_191 := Nat.le_trans (old_le O190) ge_o_191
          have W196 : Arv Z T191.heap t_191 kb_191 .byte (3 : Int32) [(.int (BY ch1)), (.int (46 : Int32)), (.int (BY ch3))] (.int (0 : Int32)) := own_arv f191_3 rfl
          have hc195 : ∀ c ∈ ([ch1, (46 : Int32), ch3] : List Int32), ¬ c < 0 ∧ ¬ (255 : Int32) < c := by
            intro c hc
            simp only [List.mem_cons, List.not_mem_nil, or_false] at hc
            rcases hc with rfl | rfl | rfl
            · exact gch1
            · exact (by decide)
            · exact gch3
          have OS194 : OwnStr [ch1, (46 : Int32), ch3] (3 : Int32) [(.int (BY ch1)), (.int (46 : Int32)), (.int (BY ch3))] := own_s255 hc195 (Nat.le_of_ble_eq_true rfl)
          have O197 : Old Z n0 T191.heap := Old.keep O190 K191 all0
          obtain ⟨cq198, kq198, q198a, q198b, q198c⟩ := isOf hZ191 (rfl : T191.heap = T191.heap) f191_0
          obtain ⟨_, _, ⟨T198, L198, k198, n198⟩, -, X198, ⟨Lc198, hQ198, l198, y198, z198⟩, st198⟩ := X191b.virtualBack hx (y := (⟨"java/lang/String", "length", "()I"⟩ : MethodName)) (z := (⟨"java/lang/String", "length", "()I"⟩ : MethodName)) hown191 (mvT hZ191 (hwk hw 35 rfl)) (mvT hZ191 (hwk hw 36 rfl)) (notFace_of_selects (args := #[]) (mvT hZ191 (hwk hw 38 rfl))) (mvT hZ191 (hwk hw 38 rfl)) (mvT hZ191 (hwk hw 37 rfl)) (by decide) (backOf (W := 0) (rm7 l Z a0 hw [] o_191 t_191 kb_191 (3 : Int32) ([(.int (BY ch1)), (.int (46 : Int32)), (.int (BY ch3))]) zc T191.heap n0 O197 f191_0 f191_1 f191_2 W196 SZ PZ) hZ191 (hwk hw 39 rfl) (hwk hw 6 rfl) (by decide) (by decide)) q198a q198c (g := (mkF m 136 #[.val (.int p0), .val (.int p1), .val (.int (1 : Int32)), .val (.int ch1), .val (.int ch2), .val (.int (1 : Int32)), .val (.int ch3), .val (.int ch4), .val (.ref o_183), .val (.ref o_185), .val (.ref o_191), .val (.int (3 : Int32))] [(.ref o_191)])) rfl (by rw [hml]; rfl) (Steps.refl _) (argsL := []) (rest := []) (lenOf pd_10 rfl) rfl (by show 2 * 0 + _ ≤ _; exact Nat.le_of_eq rfl) (hb hby at_136) (fun _ _ => ⟨rfl, (rfl : T191.heap = T191.heap), (by decide : 10 + 0 ≤ _), (by decide : 58 + 0 ≤ _)⟩)
          dsimp only [Pt.U, Pt.locs, Pt.cells, Pt.slots] at X198 l198 y198 z198 st198 hQ198
          subst l198 y198 z198
          unfold Q_rm7 at hQ198
          obtain ⟨rfl, N198q, e198⟩ := hQ198
          have N198 := Fr.app N191 N198q
          have hws199 : ∀ d ∈ StrChars.Road.wordsChN, d.before a0 Z = true := fun d hd => hw d ((by decide +kernel : ∀ d ∈ StrChars.Road.wordsChN, d ∈ tables_1) d hd)
          have c200 : Sta Z T191.heap "java/lang/String" "COMPACT_STRINGS" "Z" (.int zc) := Sta.ext (O197).2 SZ
          have c201 : Sta Z T191.heap "jdk/internal/util/Preconditions" "SIOOBE_FORMATTER" "Ljava/util/function/BiFunction;" fm := Sta.ext (O197).2 SF
          obtain ⟨cq202, kq202, q202a, q202b, q202c⟩ := isOf hZ191 e198 f191_0
          obtain ⟨_, _, ⟨T202, L202, k202, n202⟩, -, X202, ⟨Lc202, hQ202, l202, y202, z202⟩, st202⟩ := X198.virtualBack hx (y := (⟨"java/lang/String", "charAt", "(I)C"⟩ : MethodName)) (z := (⟨"java/lang/String", "charAt", "(I)C"⟩ : MethodName)) hown191 (mvT hZ191 (hwk hw 163 rfl)) (mvT hZ191 (hwk hw 164 rfl)) (notFace_of_selects (args := #[]) (mvT hZ191 (hwk hw 166 rfl))) (mvT hZ191 (hwk hw 166 rfl)) (mvT hZ191 (hwk hw 165 rfl)) (by decide) (StrChars.Road.chN (W := 0) hZ191 hws199 (kI := 4) (hwk hw 5 rfl) (i := 0) f191_0 f191_1 f191_2 W196 OS194.1 OS194.2.1 c200 PZ c201 RF OS194.2.2 (Nat.le_of_ble_eq_true rfl) (by decide) (by decide) (by decide)) q202a q202c (g := (mkF m 155 #[.val (.int p0), .val (.int p1), .val (.int (1 : Int32)), .val (.int ch1), .val (.int ch2), .val (.int (1 : Int32)), .val (.int ch3), .val (.int ch4), .val (.ref o_183), .val (.ref o_185), .val (.ref o_191), .val (.int (3 : Int32))] [(.int (0 : Int32)), (.ref o_191)])) rfl (by rw [hml]; rfl) (Steps.refl _) (argsL := [(.int (0 : Int32))]) (rest := []) (lenOf pd_26 rfl) rfl (by show 2 * 0 + _ ≤ _; exact Nat.le_of_eq rfl) (hb hby at_155) (fun _ _ => ⟨rfl, e198, (by decide : 10 + 0 ≤ _), (by decide : 58 + 0 ≤ _)⟩)
          dsimp only [Pt.U, Pt.locs, Pt.cells, Pt.slots] at X202 l202 y202 z202 st202 hQ202
          subst l202 y202 z202
          obtain ⟨hv202, hl202, e202⟩ := hQ202
          cases (show _ = some (Value.int ch1) from hv202)
          have N202 := Fr.app N198 (own_frnil hl202)
          obtain ⟨_, _, ⟨T203, L203, k203, n203⟩, -, X203, ⟨Lc203, hQ203, l203, y203, z203⟩, st203⟩ := Jvm.LawKit.callS X202 hx (y := (⟨"com/example/syndex/syndex/SectionKeyPathPinLaw", "exp", "(IICCCC)C"⟩ : MethodName)) hown191 (mvT hZ191 (hwk hw 185 rfl)) (mvT hZ191 (hwk hw 186 rfl)) (mvT hZ191 (hwk hw 2 rfl)) (mvT hZ191 (hwk hw 187 rfl)) (by decide) (backOf (W := 1) (ex01 l Z a0 hw [] ch1 ch2 ch3 ch4 T191.heap n0 O197 gch1 gch2 gch3 gch4) hZ191 (hwk hw 187 rfl) (hwk hw 2 rfl) (by decide) (by decide)) (g := (mkF m 167 #[.val (.int p0), .val (.int p1), .val (.int (1 : Int32)), .val (.int ch1), .val (.int ch2), .val (.int (1 : Int32)), .val (.int ch3), .val (.int ch4), .val (.ref o_183), .val (.ref o_185), .val (.ref o_191), .val (.int (3 : Int32))] [(.int ch4), (.int ch3), (.int ch2), (.int ch1), (.int (1 : Int32)), (.int (0 : Int32)), (.int ch1)])) rfl (by rw [hml]; rfl) (argsL := [(.int (0 : Int32)), (.int (1 : Int32)), (.int ch1), (.int ch2), (.int ch3), (.int ch4)]) (rest := [(.int ch1)]) (lenOf pd_27 rfl) rfl (by show 2 * 0 + _ ≤ _; exact Nat.le_of_eq rfl) (hb hby at_167) (fun _ _ => ⟨rfl, e202, (by decide : 10 + 0 ≤ _), (by decide : 58 + 0 ≤ _)⟩)
          dsimp only [Pt.U, Pt.locs, Pt.cells, Pt.slots] at X203 l203 y203 z203 st203 hQ203
          subst l203 y203 z203
          unfold Q_ex01 at hQ203
          obtain ⟨rfl, N203q, e203⟩ := hQ203
          have N203 := Fr.app N202 N203q
          have hws204 : ∀ d ∈ StrChars.Road.wordsChN, d.before a0 Z = true := fun d hd => hw d ((by decide +kernel : ∀ d ∈ StrChars.Road.wordsChN, d ∈ tables_1) d hd)
          obtain ⟨cq205, kq205, q205a, q205b, q205c⟩ := isOf hZ191 e203 f191_0
          obtain ⟨_, _, ⟨T205, L205, k205, n205⟩, -, X205, ⟨Lc205, hQ205, l205, y205, z205⟩, st205⟩ := X203.virtualBack hx (y := (⟨"java/lang/String", "charAt", "(I)C"⟩ : MethodName)) (z := (⟨"java/lang/String", "charAt", "(I)C"⟩ : MethodName)) hown191 (mvT hZ191 (hwk hw 163 rfl)) (mvT hZ191 (hwk hw 164 rfl)) (notFace_of_selects (args := #[]) (mvT hZ191 (hwk hw 166 rfl))) (mvT hZ191 (hwk hw 166 rfl)) (mvT hZ191 (hwk hw 165 rfl)) (by decide) (StrChars.Road.chN (W := 0) hZ191 hws204 (kI := 4) (hwk hw 5 rfl) (i := 1) f191_0 f191_1 f191_2 W196 OS194.1 OS194.2.1 c200 PZ c201 RF OS194.2.2 (Nat.le_of_ble_eq_true rfl) (by decide) (by decide) (by decide)) q205a q205c (g := (mkF m 184 #[.val (.int p0), .val (.int p1), .val (.int (1 : Int32)), .val (.int ch1), .val (.int ch2), .val (.int (1 : Int32)), .val (.int ch3), .val (.int ch4), .val (.ref o_183), .val (.ref o_185), .val (.ref o_191), .val (.int (3 : Int32))] [(.int (1 : Int32)), (.ref o_191)])) rfl (by rw [hml]; rfl) (Steps.refl _) (argsL := [(.int (1 : Int32))]) (rest := []) (lenOf pd_26 rfl) rfl (by show 2 * 0 + _ ≤ _; exact Nat.le_of_eq rfl) (hb hby at_184) (fun _ _ => ⟨rfl, e203, (by decide : 10 + 0 ≤ _), (by decide : 58 + 0 ≤ _)⟩)
          dsimp only [Pt.U, Pt.locs, Pt.cells, Pt.slots] at X205 l205 y205 z205 st205 hQ205
          subst l205 y205 z205
          obtain ⟨hv205, hl205, e205⟩ := hQ205
          cases (show _ = some (Value.int (46 : Int32)) from hv205)
          have N205 := Fr.app N203 (own_frnil hl205)
          obtain ⟨_, _, ⟨T206, L206, k206, n206⟩, -, X206, ⟨Lc206, hQ206, l206, y206, z206⟩, st206⟩ := Jvm.LawKit.callS X205 hx (y := (⟨"com/example/syndex/syndex/SectionKeyPathPinLaw", "exp", "(IICCCC)C"⟩ : MethodName)) hown191 (mvT hZ191 (hwk hw 185 rfl)) (mvT hZ191 (hwk hw 186 rfl)) (mvT hZ191 (hwk hw 2 rfl)) (mvT hZ191 (hwk hw 187 rfl)) (by decide) (backOf (W := 1) (ex11 l Z a0 hw [] ch1 ch2 ch3 ch4 T191.heap n0 O197 gch1 gch2 gch3 gch4) hZ191 (hwk hw 187 rfl) (hwk hw 2 rfl) (by decide) (by decide)) (g := (mkF m 196 #[.val (.int p0), .val (.int p1), .val (.int (1 : Int32)), .val (.int ch1), .val (.int ch2), .val (.int (1 : Int32)), .val (.int ch3), .val (.int ch4), .val (.ref o_183), .val (.ref o_185), .val (.ref o_191), .val (.int (3 : Int32))] [(.int ch4), (.int ch3), (.int ch2), (.int ch1), (.int (1 : Int32)), (.int (1 : Int32)), (.int (46 : Int32))])) rfl (by rw [hml]; rfl) (argsL := [(.int (1 : Int32)), (.int (1 : Int32)), (.int ch1), (.int ch2), (.int ch3), (.int ch4)]) (rest := [(.int (46 : Int32))]) (lenOf pd_27 rfl) rfl (by show 2 * 0 + _ ≤ _; exact Nat.le_of_eq rfl) (hb hby at_196) (fun _ _ => ⟨rfl, e205, (by decide : 10 + 0 ≤ _), (by decide : 58 + 0 ≤ _)⟩)
          dsimp only [Pt.U, Pt.locs, Pt.cells, Pt.slots] at X206 l206 y206 z206 st206 hQ206
          subst l206 y206 z206
          unfold Q_ex11 at hQ206
          obtain ⟨rfl, N206q, e206⟩ := hQ206
          have N206 := Fr.app N205 N206q
          have hws207 : ∀ d ∈ StrChars.Road.wordsChN, d.before a0 Z = true := fun d hd => hw d ((by decide +kernel : ∀ d ∈ StrChars.Road.wordsChN, d ∈ tables_1) d hd)
          obtain ⟨cq208, kq208, q208a, q208b, q208c⟩ := isOf hZ191 e206 f191_0
          obtain ⟨_, _, ⟨T208, L208, k208, n208⟩, -, X208, ⟨Lc208, hQ208, l208, y208, z208⟩, st208⟩ := X206.virtualBack hx (y := (⟨"java/lang/String", "charAt", "(I)C"⟩ : MethodName)) (z := (⟨"java/lang/String", "charAt", "(I)C"⟩ : MethodName)) hown191 (mvT hZ191 (hwk hw 163 rfl)) (mvT hZ191 (hwk hw 164 rfl)) (notFace_of_selects (args := #[]) (mvT hZ191 (hwk hw 166 rfl))) (mvT hZ191 (hwk hw 166 rfl)) (mvT hZ191 (hwk hw 165 rfl)) (by decide) (StrChars.Road.chN (W := 0) hZ191 hws207 (kI := 4) (hwk hw 5 rfl) (i := 2) f191_0 f191_1 f191_2 W196 OS194.1 OS194.2.1 c200 PZ c201 RF OS194.2.2 (Nat.le_of_ble_eq_true rfl) (by decide) (by decide) (by decide)) q208a q208c (g := (mkF m 213 #[.val (.int p0), .val (.int p1), .val (.int (1 : Int32)), .val (.int ch1), .val (.int ch2), .val (.int (1 : Int32)), .val (.int ch3), .val (.int ch4), .val (.ref o_183), .val (.ref o_185), .val (.ref o_191), .val (.int (3 : Int32))] [(.int (2 : Int32)), (.ref o_191)])) rfl (by rw [hml]; rfl) (Steps.refl _) (argsL := [(.int (2 : Int32))]) (rest := []) (lenOf pd_26 rfl) rfl (by show 2 * 0 + _ ≤ _; exact Nat.le_of_eq rfl) (hb hby at_213) (fun _ _ => ⟨rfl, e206, (by decide : 10 + 0 ≤ _), (by decide : 58 + 0 ≤ _)⟩)
          dsimp only [Pt.U, Pt.locs, Pt.cells, Pt.slots] at X208 l208 y208 z208 st208 hQ208
          subst l208 y208 z208
          obtain ⟨hv208, hl208, e208⟩ := hQ208
          cases (show _ = some (Value.int ch3) from hv208)
          have N208 := Fr.app N206 (own_frnil hl208)
          obtain ⟨_, _, ⟨T209, L209, k209, n209⟩, -, X209, ⟨Lc209, hQ209, l209, y209, z209⟩, st209⟩ := Jvm.LawKit.callS X208 hx (y := (⟨"com/example/syndex/syndex/SectionKeyPathPinLaw", "exp", "(IICCCC)C"⟩ : MethodName)) hown191 (mvT hZ191 (hwk hw 185 rfl)) (mvT hZ191 (hwk hw 186 rfl)) (mvT hZ191 (hwk hw 2 rfl)) (mvT hZ191 (hwk hw 187 rfl)) (by decide) (backOf (W := 1) (ex21 l Z a0 hw [] ch1 ch2 ch3 ch4 T191.heap n0 O197 gch1 gch2 gch3 gch4) hZ191 (hwk hw 187 rfl) (hwk hw 2 rfl) (by decide) (by decide)) (g := (mkF m 225 #[.val (.int p0), .val (.int p1), .val (.int (1 : Int32)), .val (.int ch1), .val (.int ch2), .val (.int (1 : Int32)), .val (.int ch3), .val (.int ch4), .val (.ref o_183), .val (.ref o_185), .val (.ref o_191), .val (.int (3 : Int32))] [(.int ch4), (.int ch3), (.int ch2), (.int ch1), (.int (1 : Int32)), (.int (2 : Int32)), (.int ch3)])) rfl (by rw [hml]; rfl) (argsL := [(.int (2 : Int32)), (.int (1 : Int32)), (.int ch1), (.int ch2), (.int ch3), (.int ch4)]) (rest := [(.int ch3)]) (lenOf pd_27 rfl) rfl (by show 2 * 0 + _ ≤ _; exact Nat.le_of_eq rfl) (hb hby at_225) (fun _ _ => ⟨rfl, e208, (by decide : 10 + 0 ≤ _), (by decide : 58 + 0 ≤ _)⟩)
          dsimp only [Pt.U, Pt.locs, Pt.cells, Pt.slots] at X209 l209 y209 z209 st209 hQ209
          subst l209 y209 z209
          unfold Q_ex21 at hQ209
          obtain ⟨rfl, N209q, e209⟩ := hQ209
          have N209 := Fr.app N208 N209q
          have K210 : Keep h0 T183.heap [] := Keep.trans (Keep.refl h0 []) K183 all0
          have K211 : Keep h0 T185.heap [] := Keep.trans K210 K185 all0
          have K212 : Keep h0 T191.heap [] := Keep.trans K211 K191 all0
          have CR213 : CHr Z consts_1 s.vm h0 T191.vm T191.heap := CHr.trans CR193 CX191
          obtain ⟨fs, hr, hrun, hended, hRE⟩ := X209.leaveW hS191 (show _ ≤ T209.heap.size from by rw [e209]; exact (Nat.le_refl _)) (v := some (.int (1 : Int32))) (fun h => by rw [Bd.returns] at h; cases h)
          have CRl : CHr Z consts_1 s.vm s.heap (T209.setFrames fs).vm (T209.setFrames fs).heap := by
            have q := CHr.trans CR213 (CHv.at X209 hZ191 hEL CR213.1)
            rw [← hh, ← e209] at q
            exact q
          refine ⟨_, _, S154 _ ?_, hrun, hended, _, _, rfl, ?_, CRl, hRE.1, hRE.2.1, hRE.2.2.1, hRE.2.2.2.mono (by decide) (by decide)⟩
          · show Steps p.tables e below (s₁.setTop (mkF m 39 #[.val (.int p0), .val (.int p1), .val (.int (1 : Int32)), .val (.int ((p0 &&& (255 : Int32)).toUInt32.toUInt16.toUInt32.toInt32)), .val (.int ((((p0.toUInt32 >>> ((8 : Int32) &&& 31).toUInt32).toInt32) &&& (255 : Int32)).toUInt32.toUInt16.toUInt32.toInt32)), .unset, .unset, .unset, .unset, .unset, .unset, .unset] [(.int ((((p1.toUInt32 >>> ((16 : Int32) &&& 31).toUInt32).toInt32) &&& (255 : Int32)) % (3 : Int32)))])) _
            rw [hr153]
            show Steps p.tables e below (s₁.setTop (mkF m 39 #[.val (.int p0), .val (.int p1), .val (.int (1 : Int32)), .val (.int ((p0 &&& (255 : Int32)).toUInt32.toUInt16.toUInt32.toInt32)), .val (.int ((((p0.toUInt32 >>> ((8 : Int32) &&& 31).toUInt32).toInt32) &&& (255 : Int32)).toUInt32.toUInt16.toUInt32.toInt32)), .unset, .unset, .unset, .unset, .unset, .unset, .unset] [(.int (1 : Int32))])) _
            refine XS.istore X0.here hx rfl (hb hby at_39) rfl (l' := #[.val (.int p0), .val (.int p1), .val (.int (1 : Int32)), .val (.int ((p0 &&& (255 : Int32)).toUInt32.toUInt16.toUInt32.toInt32)), .val (.int ((((p0.toUInt32 >>> ((8 : Int32) &&& 31).toUInt32).toInt32) &&& (255 : Int32)).toUInt32.toUInt16.toUInt32.toInt32)), .val (.int (1 : Int32)), .unset, .unset, .unset, .unset, .unset, .unset]) rfl ?_
            show Steps p.tables e below (s₁.setTop (mkF m 41 #[.val (.int p0), .val (.int p1), .val (.int (1 : Int32)), .val (.int ((p0 &&& (255 : Int32)).toUInt32.toUInt16.toUInt32.toInt32)), .val (.int ((((p0.toUInt32 >>> ((8 : Int32) &&& 31).toUInt32).toInt32) &&& (255 : Int32)).toUInt32.toUInt16.toUInt32.toInt32)), .val (.int (1 : Int32)), .unset, .unset, .unset, .unset, .unset, .unset] [])) _
            refine XS.iloadN X0.here hx rfl (hb hby at_41) rfl ?_
            refine XS.sipush X0.here hx rfl (hb hby at_42) ?_
            refine XS.iand X0.here hx rfl (hb hby at_45) rfl ?_
            show Steps p.tables e below (s₁.setTop (mkF m 46 #[.val (.int p0), .val (.int p1), .val (.int (1 : Int32)), .val (.int ((p0 &&& (255 : Int32)).toUInt32.toUInt16.toUInt32.toInt32)), .val (.int ((((p0.toUInt32 >>> ((8 : Int32) &&& 31).toUInt32).toInt32) &&& (255 : Int32)).toUInt32.toUInt16.toUInt32.toInt32)), .val (.int (1 : Int32)), .unset, .unset, .unset, .unset, .unset, .unset] [(.int (p1 &&& (255 : Int32)))])) _
            refine XS.i2c X0.here hx rfl (hb hby at_46) rfl ?_
            show Steps p.tables e below (s₁.setTop (mkF m 47 #[.val (.int p0), .val (.int p1), .val (.int (1 : Int32)), .val (.int ((p0 &&& (255 : Int32)).toUInt32.toUInt16.toUInt32.toInt32)), .val (.int ((((p0.toUInt32 >>> ((8 : Int32) &&& 31).toUInt32).toInt32) &&& (255 : Int32)).toUInt32.toUInt16.toUInt32.toInt32)), .val (.int (1 : Int32)), .unset, .unset, .unset, .unset, .unset, .unset] [(.int ((p1 &&& (255 : Int32)).toUInt32.toUInt16.toUInt32.toInt32))])) _
            refine XS.istore X0.here hx rfl (hb hby at_47) rfl (l' := #[.val (.int p0), .val (.int p1), .val (.int (1 : Int32)), .val (.int ((p0 &&& (255 : Int32)).toUInt32.toUInt16.toUInt32.toInt32)), .val (.int ((((p0.toUInt32 >>> ((8 : Int32) &&& 31).toUInt32).toInt32) &&& (255 : Int32)).toUInt32.toUInt16.toUInt32.toInt32)), .val (.int (1 : Int32)), .val (.int ((p1 &&& (255 : Int32)).toUInt32.toUInt16.toUInt32.toInt32)), .unset, .unset, .unset, .unset, .unset]) rfl ?_
            show Steps p.tables e below (s₁.setTop (mkF m 49 #[.val (.int p0), .val (.int p1), .val (.int (1 : Int32)), .val (.int ((p0 &&& (255 : Int32)).toUInt32.toUInt16.toUInt32.toInt32)), .val (.int ((((p0.toUInt32 >>> ((8 : Int32) &&& 31).toUInt32).toInt32) &&& (255 : Int32)).toUInt32.toUInt16.toUInt32.toInt32)), .val (.int (1 : Int32)), .val (.int ((p1 &&& (255 : Int32)).toUInt32.toUInt16.toUInt32.toInt32)), .unset, .unset, .unset, .unset, .unset] [])) _
            refine XS.iloadN X0.here hx rfl (hb hby at_49) rfl ?_
            refine XS.bipush X0.here hx rfl (hb hby at_50) ?_
            refine XS.iushr X0.here hx rfl (hb hby at_52) rfl ?_
            show Steps p.tables e below (s₁.setTop (mkF m 53 #[.val (.int p0), .val (.int p1), .val (.int (1 : Int32)), .val (.int ((p0 &&& (255 : Int32)).toUInt32.toUInt16.toUInt32.toInt32)), .val (.int ((((p0.toUInt32 >>> ((8 : Int32) &&& 31).toUInt32).toInt32) &&& (255 : Int32)).toUInt32.toUInt16.toUInt32.toInt32)), .val (.int (1 : Int32)), .val (.int ((p1 &&& (255 : Int32)).toUInt32.toUInt16.toUInt32.toInt32)), .unset, .unset, .unset, .unset, .unset] [(.int ((p1.toUInt32 >>> ((8 : Int32) &&& 31).toUInt32).toInt32))])) _
            refine XS.sipush X0.here hx rfl (hb hby at_53) ?_
            refine XS.iand X0.here hx rfl (hb hby at_56) rfl ?_
            show Steps p.tables e below (s₁.setTop (mkF m 57 #[.val (.int p0), .val (.int p1), .val (.int (1 : Int32)), .val (.int ((p0 &&& (255 : Int32)).toUInt32.toUInt16.toUInt32.toInt32)), .val (.int ((((p0.toUInt32 >>> ((8 : Int32) &&& 31).toUInt32).toInt32) &&& (255 : Int32)).toUInt32.toUInt16.toUInt32.toInt32)), .val (.int (1 : Int32)), .val (.int ((p1 &&& (255 : Int32)).toUInt32.toUInt16.toUInt32.toInt32)), .unset, .unset, .unset, .unset, .unset] [(.int (((p1.toUInt32 >>> ((8 : Int32) &&& 31).toUInt32).toInt32) &&& (255 : Int32)))])) _
            refine XS.i2c X0.here hx rfl (hb hby at_57) rfl ?_
            show Steps p.tables e below (s₁.setTop (mkF m 58 #[.val (.int p0), .val (.int p1), .val (.int (1 : Int32)), .val (.int ((p0 &&& (255 : Int32)).toUInt32.toUInt16.toUInt32.toInt32)), .val (.int ((((p0.toUInt32 >>> ((8 : Int32) &&& 31).toUInt32).toInt32) &&& (255 : Int32)).toUInt32.toUInt16.toUInt32.toInt32)), .val (.int (1 : Int32)), .val (.int ((p1 &&& (255 : Int32)).toUInt32.toUInt16.toUInt32.toInt32)), .unset, .unset, .unset, .unset, .unset] [(.int ((((p1.toUInt32 >>> ((8 : Int32) &&& 31).toUInt32).toInt32) &&& (255 : Int32)).toUInt32.toUInt16.toUInt32.toInt32))])) _
            refine XS.istore X0.here hx rfl (hb hby at_58) rfl (l' := #[.val (.int p0), .val (.int p1), .val (.int (1 : Int32)), .val (.int ((p0 &&& (255 : Int32)).toUInt32.toUInt16.toUInt32.toInt32)), .val (.int ((((p0.toUInt32 >>> ((8 : Int32) &&& 31).toUInt32).toInt32) &&& (255 : Int32)).toUInt32.toUInt16.toUInt32.toInt32)), .val (.int (1 : Int32)), .val (.int ((p1 &&& (255 : Int32)).toUInt32.toUInt16.toUInt32.toInt32)), .val (.int ((((p1.toUInt32 >>> ((8 : Int32) &&& 31).toUInt32).toInt32) &&& (255 : Int32)).toUInt32.toUInt16.toUInt32.toInt32)), .unset, .unset, .unset, .unset]) rfl ?_
            show Steps p.tables e below (s₁.setTop (mkF m 60 #[.val (.int p0), .val (.int p1), .val (.int (1 : Int32)), .val (.int ((p0 &&& (255 : Int32)).toUInt32.toUInt16.toUInt32.toInt32)), .val (.int ((((p0.toUInt32 >>> ((8 : Int32) &&& 31).toUInt32).toInt32) &&& (255 : Int32)).toUInt32.toUInt16.toUInt32.toInt32)), .val (.int (1 : Int32)), .val (.int ((p1 &&& (255 : Int32)).toUInt32.toUInt16.toUInt32.toInt32)), .val (.int ((((p1.toUInt32 >>> ((8 : Int32) &&& 31).toUInt32).toInt32) &&& (255 : Int32)).toUInt32.toUInt16.toUInt32.toInt32)), .unset, .unset, .unset, .unset] [])) _
            rw [← ech1]
            show Steps p.tables e below (s₁.setTop (mkF m 60 #[.val (.int p0), .val (.int p1), .val (.int (1 : Int32)), .val (.int ch1), .val (.int ((((p0.toUInt32 >>> ((8 : Int32) &&& 31).toUInt32).toInt32) &&& (255 : Int32)).toUInt32.toUInt16.toUInt32.toInt32)), .val (.int (1 : Int32)), .val (.int ((p1 &&& (255 : Int32)).toUInt32.toUInt16.toUInt32.toInt32)), .val (.int ((((p1.toUInt32 >>> ((8 : Int32) &&& 31).toUInt32).toInt32) &&& (255 : Int32)).toUInt32.toUInt16.toUInt32.toInt32)), .unset, .unset, .unset, .unset] [])) _
            rw [← ech2]
            show Steps p.tables e below (s₁.setTop (mkF m 60 #[.val (.int p0), .val (.int p1), .val (.int (1 : Int32)), .val (.int ch1), .val (.int ch2), .val (.int (1 : Int32)), .val (.int ((p1 &&& (255 : Int32)).toUInt32.toUInt16.toUInt32.toInt32)), .val (.int ((((p1.toUInt32 >>> ((8 : Int32) &&& 31).toUInt32).toInt32) &&& (255 : Int32)).toUInt32.toUInt16.toUInt32.toInt32)), .unset, .unset, .unset, .unset] [])) _
            rw [← ech3]
            show Steps p.tables e below (s₁.setTop (mkF m 60 #[.val (.int p0), .val (.int p1), .val (.int (1 : Int32)), .val (.int ch1), .val (.int ch2), .val (.int (1 : Int32)), .val (.int ch3), .val (.int ((((p1.toUInt32 >>> ((8 : Int32) &&& 31).toUInt32).toInt32) &&& (255 : Int32)).toUInt32.toUInt16.toUInt32.toInt32)), .unset, .unset, .unset, .unset] [])) _
            rw [← ech4]
            show Steps p.tables e below (s₁.setTop (mkF m 60 #[.val (.int p0), .val (.int p1), .val (.int (1 : Int32)), .val (.int ch1), .val (.int ch2), .val (.int (1 : Int32)), .val (.int ch3), .val (.int ch4), .unset, .unset, .unset, .unset] [])) _
            refine XS.iloadN X0.here hx rfl (hb hby at_60) rfl ?_
            refine XS.iloadN X0.here hx rfl (hb hby at_61) rfl ?_
            refine XS.iload X0.here hx rfl (hb hby at_62) rfl ?_
            show Steps p.tables e below (s₁.setTop (mkF m 64 #[.val (.int p0), .val (.int p1), .val (.int (1 : Int32)), .val (.int ch1), .val (.int ch2), .val (.int (1 : Int32)), .val (.int ch3), .val (.int ch4), .unset, .unset, .unset, .unset] [(.int ch2), (.int ch1), (.int (1 : Int32))])) _
            refine st183 _ ?_
            show Steps p.tables e below (T183.setTop (mkF m 67 #[.val (.int p0), .val (.int p1), .val (.int (1 : Int32)), .val (.int ch1), .val (.int ch2), .val (.int (1 : Int32)), .val (.int ch3), .val (.int ch4), .unset, .unset, .unset, .unset] [(.ref o_183)])) _
            refine XS.astore X183.here hx rfl (hb hby at_67) rfl rfl (l' := #[.val (.int p0), .val (.int p1), .val (.int (1 : Int32)), .val (.int ch1), .val (.int ch2), .val (.int (1 : Int32)), .val (.int ch3), .val (.int ch4), .val (.ref o_183), .unset, .unset, .unset]) rfl ?_
            show Steps p.tables e below (T183.setTop (mkF m 69 #[.val (.int p0), .val (.int p1), .val (.int (1 : Int32)), .val (.int ch1), .val (.int ch2), .val (.int (1 : Int32)), .val (.int ch3), .val (.int ch4), .val (.ref o_183), .unset, .unset, .unset] [])) _
            refine XS.iload X183.here hx rfl (hb hby at_69) rfl ?_
            refine XS.iload X183.here hx rfl (hb hby at_71) rfl ?_
            refine XS.iload X183.here hx rfl (hb hby at_73) rfl ?_
            show Steps p.tables e below (T183.setTop (mkF m 75 #[.val (.int p0), .val (.int p1), .val (.int (1 : Int32)), .val (.int ch1), .val (.int ch2), .val (.int (1 : Int32)), .val (.int ch3), .val (.int ch4), .val (.ref o_183), .unset, .unset, .unset] [(.int ch4), (.int ch3), (.int (1 : Int32))])) _
            refine st185 _ ?_
            show Steps p.tables e below (T185.setTop (mkF m 78 #[.val (.int p0), .val (.int p1), .val (.int (1 : Int32)), .val (.int ch1), .val (.int ch2), .val (.int (1 : Int32)), .val (.int ch3), .val (.int ch4), .val (.ref o_183), .unset, .unset, .unset] [(.ref o_185)])) _
            refine XS.astore X185.here hx rfl (hb hby at_78) rfl rfl (l' := #[.val (.int p0), .val (.int p1), .val (.int (1 : Int32)), .val (.int ch1), .val (.int ch2), .val (.int (1 : Int32)), .val (.int ch3), .val (.int ch4), .val (.ref o_183), .val (.ref o_185), .unset, .unset]) rfl ?_
            show Steps p.tables e below (T185.setTop (mkF m 80 #[.val (.int p0), .val (.int p1), .val (.int (1 : Int32)), .val (.int ch1), .val (.int ch2), .val (.int (1 : Int32)), .val (.int ch3), .val (.int ch4), .val (.ref o_183), .val (.ref o_185), .unset, .unset] [])) _
            refine XS.aload X185.here hx rfl (hb hby at_80) rfl rfl ?_
            refine XS.aload X185.here hx rfl (hb hby at_82) rfl rfl ?_
            show Steps p.tables e below (T185.setTop (mkF m 84 #[.val (.int p0), .val (.int p1), .val (.int (1 : Int32)), .val (.int ch1), .val (.int ch2), .val (.int (1 : Int32)), .val (.int ch3), .val (.int ch4), .val (.ref o_183), .val (.ref o_185), .unset, .unset] [(.ref o_185), (.ref o_183)])) _
            refine st191.trans ?_
            show Steps p.tables e below (T191.setTop (mkF m 87 #[.val (.int p0), .val (.int p1), .val (.int (1 : Int32)), .val (.int ch1), .val (.int ch2), .val (.int (1 : Int32)), .val (.int ch3), .val (.int ch4), .val (.ref o_183), .val (.ref o_185), .unset, .unset] [(.ref o_191)])) _
            refine XS.astore X191b.here hx rfl (hb hby at_87) rfl rfl (l' := #[.val (.int p0), .val (.int p1), .val (.int (1 : Int32)), .val (.int ch1), .val (.int ch2), .val (.int (1 : Int32)), .val (.int ch3), .val (.int ch4), .val (.ref o_183), .val (.ref o_185), .val (.ref o_191), .unset]) rfl ?_
            show Steps p.tables e below (T191.setTop (mkF m 89 #[.val (.int p0), .val (.int p1), .val (.int (1 : Int32)), .val (.int ch1), .val (.int ch2), .val (.int (1 : Int32)), .val (.int ch3), .val (.int ch4), .val (.ref o_183), .val (.ref o_185), .val (.ref o_191), .unset] [])) _
            refine XS.aload X191b.here hx rfl (hb hby at_89) rfl rfl ?_
            refine XS.ifnonnullYes X191b.here hx rfl (pc0 := 91) (pc' := 96) rfl (hb hby at_91) rfl (by decide) (by decide) ?_
            show Steps p.tables e below (T191.setTop (mkF m 96 #[.val (.int p0), .val (.int p1), .val (.int (1 : Int32)), .val (.int ch1), .val (.int ch2), .val (.int (1 : Int32)), .val (.int ch3), .val (.int ch4), .val (.ref o_183), .val (.ref o_185), .val (.ref o_191), .unset] [])) _
            refine XS.iloadN X191b.here hx rfl (hb hby at_96) rfl ?_
            refine XS.ifYes X191b.here hx rfl (pc0 := 97) (pc' := 126) rfl (hb hby at_97) rfl ((if0 _ _).trans (feq (by decide : ¬ ((1 : Int32) = (0 : Int32)))).2) (by decide) (by decide) ?_
            show Steps p.tables e below (T191.setTop (mkF m 126 #[.val (.int p0), .val (.int p1), .val (.int (1 : Int32)), .val (.int ch1), .val (.int ch2), .val (.int (1 : Int32)), .val (.int ch3), .val (.int ch4), .val (.ref o_183), .val (.ref o_185), .val (.ref o_191), .unset] [])) _
            refine XS.iloadN X191b.here hx rfl (hb hby at_126) rfl ?_
            refine XS.iconst X191b.here hx rfl (hb hby at_127) ?_
            refine XS.iadd X191b.here hx rfl (hb hby at_128) rfl ?_
            show Steps p.tables e below (T191.setTop (mkF m 129 #[.val (.int p0), .val (.int p1), .val (.int (1 : Int32)), .val (.int ch1), .val (.int ch2), .val (.int (1 : Int32)), .val (.int ch3), .val (.int ch4), .val (.ref o_183), .val (.ref o_185), .val (.ref o_191), .unset] [(.int ((1 : Int32) + (1 : Int32)))])) _
            rw [show ((1 : Int32) + (1 : Int32)) = (2 : Int32) from by decide]
            show Steps p.tables e below (T191.setTop (mkF m 129 #[.val (.int p0), .val (.int p1), .val (.int (1 : Int32)), .val (.int ch1), .val (.int ch2), .val (.int (1 : Int32)), .val (.int ch3), .val (.int ch4), .val (.ref o_183), .val (.ref o_185), .val (.ref o_191), .unset] [(.int (2 : Int32))])) _
            refine XS.iload X191b.here hx rfl (hb hby at_129) rfl ?_
            refine XS.iadd X191b.here hx rfl (hb hby at_131) rfl ?_
            show Steps p.tables e below (T191.setTop (mkF m 132 #[.val (.int p0), .val (.int p1), .val (.int (1 : Int32)), .val (.int ch1), .val (.int ch2), .val (.int (1 : Int32)), .val (.int ch3), .val (.int ch4), .val (.ref o_183), .val (.ref o_185), .val (.ref o_191), .unset] [(.int ((2 : Int32) + (1 : Int32)))])) _
            rw [show ((2 : Int32) + (1 : Int32)) = (3 : Int32) from by decide]
            show Steps p.tables e below (T191.setTop (mkF m 132 #[.val (.int p0), .val (.int p1), .val (.int (1 : Int32)), .val (.int ch1), .val (.int ch2), .val (.int (1 : Int32)), .val (.int ch3), .val (.int ch4), .val (.ref o_183), .val (.ref o_185), .val (.ref o_191), .unset] [(.int (3 : Int32))])) _
            refine XS.istore X191b.here hx rfl (hb hby at_132) rfl (l' := #[.val (.int p0), .val (.int p1), .val (.int (1 : Int32)), .val (.int ch1), .val (.int ch2), .val (.int (1 : Int32)), .val (.int ch3), .val (.int ch4), .val (.ref o_183), .val (.ref o_185), .val (.ref o_191), .val (.int (3 : Int32))]) rfl ?_
            show Steps p.tables e below (T191.setTop (mkF m 134 #[.val (.int p0), .val (.int p1), .val (.int (1 : Int32)), .val (.int ch1), .val (.int ch2), .val (.int (1 : Int32)), .val (.int ch3), .val (.int ch4), .val (.ref o_183), .val (.ref o_185), .val (.ref o_191), .val (.int (3 : Int32))] [])) _
            refine XS.aload X191b.here hx rfl (hb hby at_134) rfl rfl ?_
            show Steps p.tables e below (T191.setTop (mkF m 136 #[.val (.int p0), .val (.int p1), .val (.int (1 : Int32)), .val (.int ch1), .val (.int ch2), .val (.int (1 : Int32)), .val (.int ch3), .val (.int ch4), .val (.ref o_183), .val (.ref o_185), .val (.ref o_191), .val (.int (3 : Int32))] [(.ref o_191)])) _
            refine st198.trans ?_
            show Steps p.tables e below (T198.setTop (mkF m 139 #[.val (.int p0), .val (.int p1), .val (.int (1 : Int32)), .val (.int ch1), .val (.int ch2), .val (.int (1 : Int32)), .val (.int ch3), .val (.int ch4), .val (.ref o_183), .val (.ref o_185), .val (.ref o_191), .val (.int (3 : Int32))] [(.int (3 : Int32))])) _
            refine XS.iload X198.here hx rfl (hb hby at_139) rfl ?_
            refine XS.icmpYes X198.here hx rfl (pc0 := 141) (pc' := 146) rfl (hb hby at_141) rfl (teq (by decide : (3 : Int32) = (3 : Int32))).1 (by decide) (by decide) ?_
            show Steps p.tables e below (T198.setTop (mkF m 146 #[.val (.int p0), .val (.int p1), .val (.int (1 : Int32)), .val (.int ch1), .val (.int ch2), .val (.int (1 : Int32)), .val (.int ch3), .val (.int ch4), .val (.ref o_183), .val (.ref o_185), .val (.ref o_191), .val (.int (3 : Int32))] [])) _
            refine XS.iconst X198.here hx rfl (hb hby at_146) ?_
            refine XS.iload X198.here hx rfl (hb hby at_147) rfl ?_
            refine XS.icmpNo X198.here hx rfl (hb hby at_149) rfl (tlt (by decide : (0 : Int32) < (3 : Int32))).2.1 ?_
            show Steps p.tables e below (T198.setTop (mkF m 152 #[.val (.int p0), .val (.int p1), .val (.int (1 : Int32)), .val (.int ch1), .val (.int ch2), .val (.int (1 : Int32)), .val (.int ch3), .val (.int ch4), .val (.ref o_183), .val (.ref o_185), .val (.ref o_191), .val (.int (3 : Int32))] [])) _
            refine XS.aload X198.here hx rfl (hb hby at_152) rfl rfl ?_
            refine XS.iconst X198.here hx rfl (hb hby at_154) ?_
            show Steps p.tables e below (T198.setTop (mkF m 155 #[.val (.int p0), .val (.int p1), .val (.int (1 : Int32)), .val (.int ch1), .val (.int ch2), .val (.int (1 : Int32)), .val (.int ch3), .val (.int ch4), .val (.ref o_183), .val (.ref o_185), .val (.ref o_191), .val (.int (3 : Int32))] [(.int (0 : Int32)), (.ref o_191)])) _
            refine st202.trans ?_
            show Steps p.tables e below (T202.setTop (mkF m 158 #[.val (.int p0), .val (.int p1), .val (.int (1 : Int32)), .val (.int ch1), .val (.int ch2), .val (.int (1 : Int32)), .val (.int ch3), .val (.int ch4), .val (.ref o_183), .val (.ref o_185), .val (.ref o_191), .val (.int (3 : Int32))] [(.int ch1)])) _
            refine XS.iconst X202.here hx rfl (hb hby at_158) ?_
            refine XS.iloadN X202.here hx rfl (hb hby at_159) rfl ?_
            refine XS.iloadN X202.here hx rfl (hb hby at_160) rfl ?_
            refine XS.iload X202.here hx rfl (hb hby at_161) rfl ?_
            show Steps p.tables e below (T202.setTop (mkF m 163 #[.val (.int p0), .val (.int p1), .val (.int (1 : Int32)), .val (.int ch1), .val (.int ch2), .val (.int (1 : Int32)), .val (.int ch3), .val (.int ch4), .val (.ref o_183), .val (.ref o_185), .val (.ref o_191), .val (.int (3 : Int32))] [(.int ch2), (.int ch1), (.int (1 : Int32)), (.int (0 : Int32)), (.int ch1)])) _
            refine XS.iload X202.here hx rfl (hb hby at_163) rfl ?_
            refine XS.iload X202.here hx rfl (hb hby at_165) rfl ?_
            show Steps p.tables e below (T202.setTop (mkF m 167 #[.val (.int p0), .val (.int p1), .val (.int (1 : Int32)), .val (.int ch1), .val (.int ch2), .val (.int (1 : Int32)), .val (.int ch3), .val (.int ch4), .val (.ref o_183), .val (.ref o_185), .val (.ref o_191), .val (.int (3 : Int32))] [(.int ch4), (.int ch3), (.int ch2), (.int ch1), (.int (1 : Int32)), (.int (0 : Int32)), (.int ch1)])) _
            refine st203 _ ?_
            show Steps p.tables e below (T203.setTop (mkF m 170 #[.val (.int p0), .val (.int p1), .val (.int (1 : Int32)), .val (.int ch1), .val (.int ch2), .val (.int (1 : Int32)), .val (.int ch3), .val (.int ch4), .val (.ref o_183), .val (.ref o_185), .val (.ref o_191), .val (.int (3 : Int32))] [(.int ch1), (.int ch1)])) _
            refine XS.icmpYes X203.here hx rfl (pc0 := 170) (pc' := 175) rfl (hb hby at_170) rfl (teq (rfl : ch1 = ch1)).1 (by decide) (by decide) ?_
            show Steps p.tables e below (T203.setTop (mkF m 175 #[.val (.int p0), .val (.int p1), .val (.int (1 : Int32)), .val (.int ch1), .val (.int ch2), .val (.int (1 : Int32)), .val (.int ch3), .val (.int ch4), .val (.ref o_183), .val (.ref o_185), .val (.ref o_191), .val (.int (3 : Int32))] [])) _
            refine XS.iconst X203.here hx rfl (hb hby at_175) ?_
            refine XS.iload X203.here hx rfl (hb hby at_176) rfl ?_
            refine XS.icmpNo X203.here hx rfl (hb hby at_178) rfl (tlt (by decide : (1 : Int32) < (3 : Int32))).2.1 ?_
            show Steps p.tables e below (T203.setTop (mkF m 181 #[.val (.int p0), .val (.int p1), .val (.int (1 : Int32)), .val (.int ch1), .val (.int ch2), .val (.int (1 : Int32)), .val (.int ch3), .val (.int ch4), .val (.ref o_183), .val (.ref o_185), .val (.ref o_191), .val (.int (3 : Int32))] [])) _
            refine XS.aload X203.here hx rfl (hb hby at_181) rfl rfl ?_
            refine XS.iconst X203.here hx rfl (hb hby at_183) ?_
            show Steps p.tables e below (T203.setTop (mkF m 184 #[.val (.int p0), .val (.int p1), .val (.int (1 : Int32)), .val (.int ch1), .val (.int ch2), .val (.int (1 : Int32)), .val (.int ch3), .val (.int ch4), .val (.ref o_183), .val (.ref o_185), .val (.ref o_191), .val (.int (3 : Int32))] [(.int (1 : Int32)), (.ref o_191)])) _
            refine st205.trans ?_
            show Steps p.tables e below (T205.setTop (mkF m 187 #[.val (.int p0), .val (.int p1), .val (.int (1 : Int32)), .val (.int ch1), .val (.int ch2), .val (.int (1 : Int32)), .val (.int ch3), .val (.int ch4), .val (.ref o_183), .val (.ref o_185), .val (.ref o_191), .val (.int (3 : Int32))] [(.int (46 : Int32))])) _
            refine XS.iconst X205.here hx rfl (hb hby at_187) ?_
            refine XS.iloadN X205.here hx rfl (hb hby at_188) rfl ?_
            refine XS.iloadN X205.here hx rfl (hb hby at_189) rfl ?_
            refine XS.iload X205.here hx rfl (hb hby at_190) rfl ?_
            show Steps p.tables e below (T205.setTop (mkF m 192 #[.val (.int p0), .val (.int p1), .val (.int (1 : Int32)), .val (.int ch1), .val (.int ch2), .val (.int (1 : Int32)), .val (.int ch3), .val (.int ch4), .val (.ref o_183), .val (.ref o_185), .val (.ref o_191), .val (.int (3 : Int32))] [(.int ch2), (.int ch1), (.int (1 : Int32)), (.int (1 : Int32)), (.int (46 : Int32))])) _
            refine XS.iload X205.here hx rfl (hb hby at_192) rfl ?_
            refine XS.iload X205.here hx rfl (hb hby at_194) rfl ?_
            show Steps p.tables e below (T205.setTop (mkF m 196 #[.val (.int p0), .val (.int p1), .val (.int (1 : Int32)), .val (.int ch1), .val (.int ch2), .val (.int (1 : Int32)), .val (.int ch3), .val (.int ch4), .val (.ref o_183), .val (.ref o_185), .val (.ref o_191), .val (.int (3 : Int32))] [(.int ch4), (.int ch3), (.int ch2), (.int ch1), (.int (1 : Int32)), (.int (1 : Int32)), (.int (46 : Int32))])) _
            refine st206 _ ?_
            show Steps p.tables e below (T206.setTop (mkF m 199 #[.val (.int p0), .val (.int p1), .val (.int (1 : Int32)), .val (.int ch1), .val (.int ch2), .val (.int (1 : Int32)), .val (.int ch3), .val (.int ch4), .val (.ref o_183), .val (.ref o_185), .val (.ref o_191), .val (.int (3 : Int32))] [(.int (46 : Int32)), (.int (46 : Int32))])) _
            refine XS.icmpYes X206.here hx rfl (pc0 := 199) (pc' := 204) rfl (hb hby at_199) rfl (teq (by decide : (46 : Int32) = (46 : Int32))).1 (by decide) (by decide) ?_
            show Steps p.tables e below (T206.setTop (mkF m 204 #[.val (.int p0), .val (.int p1), .val (.int (1 : Int32)), .val (.int ch1), .val (.int ch2), .val (.int (1 : Int32)), .val (.int ch3), .val (.int ch4), .val (.ref o_183), .val (.ref o_185), .val (.ref o_191), .val (.int (3 : Int32))] [])) _
            refine XS.iconst X206.here hx rfl (hb hby at_204) ?_
            refine XS.iload X206.here hx rfl (hb hby at_205) rfl ?_
            refine XS.icmpNo X206.here hx rfl (hb hby at_207) rfl (tlt (by decide : (2 : Int32) < (3 : Int32))).2.1 ?_
            show Steps p.tables e below (T206.setTop (mkF m 210 #[.val (.int p0), .val (.int p1), .val (.int (1 : Int32)), .val (.int ch1), .val (.int ch2), .val (.int (1 : Int32)), .val (.int ch3), .val (.int ch4), .val (.ref o_183), .val (.ref o_185), .val (.ref o_191), .val (.int (3 : Int32))] [])) _
            refine XS.aload X206.here hx rfl (hb hby at_210) rfl rfl ?_
            refine XS.iconst X206.here hx rfl (hb hby at_212) ?_
            show Steps p.tables e below (T206.setTop (mkF m 213 #[.val (.int p0), .val (.int p1), .val (.int (1 : Int32)), .val (.int ch1), .val (.int ch2), .val (.int (1 : Int32)), .val (.int ch3), .val (.int ch4), .val (.ref o_183), .val (.ref o_185), .val (.ref o_191), .val (.int (3 : Int32))] [(.int (2 : Int32)), (.ref o_191)])) _
            refine st208.trans ?_
            show Steps p.tables e below (T208.setTop (mkF m 216 #[.val (.int p0), .val (.int p1), .val (.int (1 : Int32)), .val (.int ch1), .val (.int ch2), .val (.int (1 : Int32)), .val (.int ch3), .val (.int ch4), .val (.ref o_183), .val (.ref o_185), .val (.ref o_191), .val (.int (3 : Int32))] [(.int ch3)])) _
            refine XS.iconst X208.here hx rfl (hb hby at_216) ?_
            refine XS.iloadN X208.here hx rfl (hb hby at_217) rfl ?_
            refine XS.iloadN X208.here hx rfl (hb hby at_218) rfl ?_
            refine XS.iload X208.here hx rfl (hb hby at_219) rfl ?_
            show Steps p.tables e below (T208.setTop (mkF m 221 #[.val (.int p0), .val (.int p1), .val (.int (1 : Int32)), .val (.int ch1), .val (.int ch2), .val (.int (1 : Int32)), .val (.int ch3), .val (.int ch4), .val (.ref o_183), .val (.ref o_185), .val (.ref o_191), .val (.int (3 : Int32))] [(.int ch2), (.int ch1), (.int (1 : Int32)), (.int (2 : Int32)), (.int ch3)])) _
            refine XS.iload X208.here hx rfl (hb hby at_221) rfl ?_
            refine XS.iload X208.here hx rfl (hb hby at_223) rfl ?_
            show Steps p.tables e below (T208.setTop (mkF m 225 #[.val (.int p0), .val (.int p1), .val (.int (1 : Int32)), .val (.int ch1), .val (.int ch2), .val (.int (1 : Int32)), .val (.int ch3), .val (.int ch4), .val (.ref o_183), .val (.ref o_185), .val (.ref o_191), .val (.int (3 : Int32))] [(.int ch4), (.int ch3), (.int ch2), (.int ch1), (.int (1 : Int32)), (.int (2 : Int32)), (.int ch3)])) _
            refine st209 _ ?_
            show Steps p.tables e below (T209.setTop (mkF m 228 #[.val (.int p0), .val (.int p1), .val (.int (1 : Int32)), .val (.int ch1), .val (.int ch2), .val (.int (1 : Int32)), .val (.int ch3), .val (.int ch4), .val (.ref o_183), .val (.ref o_185), .val (.ref o_191), .val (.int (3 : Int32))] [(.int ch3), (.int ch3)])) _
            refine XS.icmpYes X209.here hx rfl (pc0 := 228) (pc' := 233) rfl (hb hby at_228) rfl (teq (rfl : ch3 = ch3)).1 (by decide) (by decide) ?_
            show Steps p.tables e below (T209.setTop (mkF m 233 #[.val (.int p0), .val (.int p1), .val (.int (1 : Int32)), .val (.int ch1), .val (.int ch2), .val (.int (1 : Int32)), .val (.int ch3), .val (.int ch4), .val (.ref o_183), .val (.ref o_185), .val (.ref o_191), .val (.int (3 : Int32))] [])) _
            refine XS.iconst X209.here hx rfl (hb hby at_233) ?_
            refine XS.iload X209.here hx rfl (hb hby at_234) rfl ?_
            refine XS.icmpYes X209.here hx rfl (pc0 := 236) (pc' := 262) rfl (hb hby at_236) rfl (flt (by decide : ¬ ((3 : Int32) < (3 : Int32)))).2.1 (by decide) (by decide) ?_
            show Steps p.tables e below (T209.setTop (mkF m 262 #[.val (.int p0), .val (.int p1), .val (.int (1 : Int32)), .val (.int ch1), .val (.int ch2), .val (.int (1 : Int32)), .val (.int ch3), .val (.int ch4), .val (.ref o_183), .val (.ref o_185), .val (.ref o_191), .val (.int (3 : Int32))] [])) _
            refine XS.iconst X209.here hx rfl (hb hby at_262) ?_
            refine XS.iload X209.here hx rfl (hb hby at_263) rfl ?_
            refine XS.icmpYes X209.here hx rfl (pc0 := 265) (pc' := 291) rfl (hb hby at_265) rfl (flt (by decide : ¬ ((4 : Int32) < (3 : Int32)))).2.1 (by decide) (by decide) ?_
            show Steps p.tables e below (T209.setTop (mkF m 291 #[.val (.int p0), .val (.int p1), .val (.int (1 : Int32)), .val (.int ch1), .val (.int ch2), .val (.int (1 : Int32)), .val (.int ch3), .val (.int ch4), .val (.ref o_183), .val (.ref o_185), .val (.ref o_191), .val (.int (3 : Int32))] [])) _
            refine XS.iconst X209.here hx rfl (hb hby at_291) ?_
            show Steps p.tables e below (T209.setTop (mkF m 292 #[.val (.int p0), .val (.int p1), .val (.int (1 : Int32)), .val (.int ch1), .val (.int ch2), .val (.int (1 : Int32)), .val (.int ch3), .val (.int ch4), .val (.ref o_183), .val (.ref o_185), .val (.ref o_191), .val (.int (3 : Int32))] [(.int (1 : Int32))])) _
            exact Jvm.RoadKit.retOut X209 hx Bd.returns rfl (Or.inl ⟨rfl, by simp, _, rfl⟩) (hb hby at_292) hr
          · show Q_rm0 Z p0 p1 zc fm h0 n0 _ T209.heap _
            rw [e209]
            unfold Q_rm0
            exact ⟨rfl, N209, K212⟩
        · obtain ⟨ch1, ech1, gch1⟩ : ∃ z, z = ((p0 &&& (255 : Int32)).toUInt32.toUInt16.toUInt32.toInt32) ∧ C8 z := ⟨_, rfl, own_ch8 _⟩
          obtain ⟨ch2, ech2, gch2⟩ : ∃ z, z = ((((p0.toUInt32 >>> ((8 : Int32) &&& 31).toUInt32).toInt32) &&& (255 : Int32)).toUInt32.toUInt16.toUInt32.toInt32) ∧ C8 z := ⟨_, rfl, own_ch8 _⟩
          obtain ⟨ch3, ech3, gch3⟩ : ∃ z, z = ((p1 &&& (255 : Int32)).toUInt32.toUInt16.toUInt32.toInt32) ∧ C8 z := ⟨_, rfl, own_ch8 _⟩
          obtain ⟨ch4, ech4, gch4⟩ : ∃ z, z = ((((p1.toUInt32 >>> ((8 : Int32) &&& 31).toUInt32).toInt32) &&& (255 : Int32)).toUInt32.toUInt16.toUInt32.toInt32) ∧ C8 z := ⟨_, rfl, own_ch8 _⟩
          obtain ⟨_, _, ⟨T214, L214, k214, n214⟩, -, X214, ⟨Lc214, hQ214, l214, y214, z214⟩, st214⟩ := Jvm.LawKit.callS X0 hx (y := (⟨"com/example/syndex/syndex/SectionKeyPathPinLaw", "mk", "(ICC)Ljava/lang/String;"⟩ : MethodName)) hown (mvT hZ (hwk hw 0 rfl)) (mvT hZ (hwk hw 1 rfl)) (mvT hZ (hwk hw 2 rfl)) (mvT hZ (hwk hw 3 rfl)) (by decide) (backOf (W := 0) (mk1 l Z a0 hw [] ch1 ch2 zc h0 n0 O0 gch1 gch2 SZ PZ) hZ (hwk hw 3 rfl) (hwk hw 2 rfl) (by decide) (by decide)) (g := (mkF m 64 #[.val (.int p0), .val (.int p1), .val (.int (1 : Int32)), .val (.int ch1), .val (.int ch2), .val (.int (2 : Int32)), .val (.int ch3), .val (.int ch4), .unset, .unset, .unset, .unset] [(.int ch2), (.int ch1), (.int (1 : Int32))])) rfl (by rw [hml]; rfl) (argsL := [(.int (1 : Int32)), (.int ch1), (.int ch2)]) (rest := []) (lenOf pd_23 rfl) rfl (by show 2 * 0 + _ ≤ _; exact Nat.le_of_eq rfl) (hb hby at_64) (fun _ _ => ⟨rfl, e0, (by decide : 0 + 2 ≤ _), (by decide : 0 + 5 ≤ _)⟩)
          dsimp only [Pt.U, Pt.locs, Pt.cells, Pt.slots] at X214 l214 y214 z214 st214 hQ214
          subst l214 y214 z214
          unfold Q_mk1 at hQ214
          obtain ⟨o_214, t_214, kb_214, rfl, N214q, K214, ge_o_214, f214_0, f214_1, f214_2, f214_3⟩ := hQ214
          have N214 := Fr.app N0 N214q
          have g_o_214 : n0 ≤ o_214 := Nat.le_trans (old_le O0) ge_o_214
          have O215 : Old Z n0 T214.heap := Old.keep O0 K214 all0
          obtain ⟨_, _, ⟨T216, L216, k216, n216⟩, -, X216, ⟨Lc216, hQ216, l216, y216, z216⟩, st216⟩ := Jvm.LawKit.callS X214 hx (y := (⟨"com/example/syndex/syndex/SectionKeyPathPinLaw", "mk", "(ICC)Ljava/lang/String;"⟩ : MethodName)) hown (mvT hZ (hwk hw 0 rfl)) (mvT hZ (hwk hw 1 rfl)) (mvT hZ (hwk hw 2 rfl)) (mvT hZ (hwk hw 3 rfl)) (by decide) (backOf (W := 0) (mk2 l Z a0 hw [] ch3 ch4 zc T214.heap n0 O215 gch3 gch4 SZ PZ) hZ (hwk hw 3 rfl) (hwk hw 2 rfl) (by decide) (by decide)) (g := (mkF m 75 #[.val (.int p0), .val (.int p1), .val (.int (1 : Int32)), .val (.int ch1), .val (.int ch2), .val (.int (2 : Int32)), .val (.int ch3), .val (.int ch4), .val (.ref o_214), .unset, .unset, .unset] [(.int ch4), (.int ch3), (.int (2 : Int32))])) rfl (by rw [hml]; rfl) (argsL := [(.int (2 : Int32)), (.int ch3), (.int ch4)]) (rest := []) (lenOf pd_23 rfl) rfl (by show 2 * 0 + _ ≤ _; exact Nat.le_of_eq rfl) (hb hby at_75) (fun _ _ => ⟨rfl, (rfl : T214.heap = T214.heap), (by decide : 2 + 3 ≤ _), (by decide : 5 + 8 ≤ _)⟩)
          dsimp only [Pt.U, Pt.locs, Pt.cells, Pt.slots] at X216 l216 y216 z216 st216 hQ216
          subst l216 y216 z216
          unfold Q_mk2 at hQ216
          obtain ⟨o_216, t_216, kb_216, rfl, N216q, K216, ge_o_216, f216_0, f216_1, f216_2, f216_3⟩ := hQ216
          have N216 := Fr.app N214 N216q
          have g_o_216 : n0 ≤ o_216 := Nat.le_trans (old_le O215) ge_o_216
          have c217 : Exa Z T216.heap o_214 "java/lang/String" := (Exa.keep f214_0 K216)
          have c218 : Fld Z T216.heap o_214 "java/lang/String" "value" "[B" (.ref t_214) := (Fld.keep f214_1 K216 nin0)
          have c219 : Fld Z T216.heap o_214 "java/lang/String" "coder" "B" (.int (0 : Int32)) := (Fld.keep f214_2 K216 nin0)
          have c220 : Arv Z T216.heap t_214 kb_214 .byte (1 : Int32) [(.int (BY ch1))] (.int (0 : Int32)) := (Arv.keep f214_3 K216 nin0)
          have O221 : Old Z n0 T216.heap := Old.keep O215 K216 all0
          have CR223 : CHr Z consts_1 s.vm h0 s.vm T214.heap := CHr.trans CR0 (CHr.keep K214 all0 CR0.1)
          have CR224 : CHr Z consts_1 s.vm h0 s.vm T216.heap := CHr.trans CR223 (CHr.keep K216 all0 CR223.1)
          obtain ⟨_, _, ⟨T222, L222, k222, n222⟩, -, X222, hs222', hg222', ⟨Lc222, hQ222, l222, y222, z222, CX222⟩, st222⟩ := Jvm.RoadKit.callSS X216 hx (y := (⟨"com/example/syndex/syndex/Section", "keyPath", "(Ljava/lang/String;Ljava/lang/String;)Ljava/lang/String;"⟩ : MethodName)) hown (mvT hZ (hwk hw 26 rfl)) (mvT hZ (hwk hw 27 rfl)) (mvT hZ (hwk hw 28 rfl)) (mvT hZ (hwk hw 29 rfl)) (by decide) (own_backSH (W := 0) (kp1 l Z a0 hw [] o_214 t_214 kb_214 (1 : Int32) ([(.int (BY ch1))]) o_216 t_216 kb_216 (2 : Int32) ([(.int (BY ch3)), (.int (BY ch4))]) zc T216.heap n0 O221 c217 c218 c219 c220 f216_0 f216_1 f216_2 f216_3 (by decide) (by decide) rfl rfl SZ PZ) hZ (hwk hw 29 rfl) (hwk hw 28 rfl) (by decide) (by decide) hEL CR224.1 (fun _ q => nomatch q)) (g := (mkF m 84 #[.val (.int p0), .val (.int p1), .val (.int (1 : Int32)), .val (.int ch1), .val (.int ch2), .val (.int (2 : Int32)), .val (.int ch3), .val (.int ch4), .val (.ref o_214), .val (.ref o_216), .unset, .unset] [(.ref o_216), (.ref o_214)])) rfl (by rw [hml]; rfl) (argsL := [(.ref o_214), (.ref o_216)]) (rest := []) (lenOf pd_24 rfl) rfl (by show 2 * 0 + _ ≤ _; exact Nat.le_of_eq rfl) (hb hby at_84) (fun _ _ => ⟨rfl, (rfl : T216.heap = T216.heap), (by decide : 5 + 6 ≤ _), (by decide : 13 + 48 ≤ _)⟩)
          dsimp only [Pt.U, Pt.locs, Pt.cells, Pt.slots] at X222 l222 y222 z222 st222 hQ222 hs222' hg222' CX222
          subst l222 y222 z222
          obtain ⟨X222b, hS222, hZ222, hown222⟩ := rebS hS0 (show _ ≤ T216.heap.size from by rw [(rfl : T216.heap = T216.heap)]; exact (Nat.le_trans (Nat.le_refl _) (Nat.le_trans (Nat.le_trans (Nat.le_refl _) K214.1) K216.1))) X222 hs222' hg222' hZ hown
          unfold Q_kp1 at hQ222
          obtain ⟨o_222, t_222, kb_222, rfl, N222q, K222, ge_o_222, f222_0, f222_1, f222_2, f222_3⟩ := hQ222
          have N222 := Fr.app N216 N222q
          have g_o_222 : n0 ≤ o_222 := Nat.le_trans (old_le O221) ge_o_222
          have W227 : Arv Z T222.heap t_222 kb_222 .byte (4 : Int32) [(.int (BY ch1)), (.int (46 : Int32)), (.int (BY ch3)), (.int (BY ch4))] (.int (0 : Int32)) := own_arv f222_3 rfl
          have hc226 : ∀ c ∈ ([ch1, (46 : Int32), ch3, ch4] : List Int32), ¬ c < 0 ∧ ¬ (255 : Int32) < c := by
            intro c hc
            simp only [List.mem_cons, List.not_mem_nil, or_false] at hc
            rcases hc with rfl | rfl | rfl | rfl
            · exact gch1
            · exact (by decide)
            · exact gch3
            · exact gch4
          have OS225 : OwnStr [ch1, (46 : Int32), ch3, ch4] (4 : Int32) [(.int (BY ch1)), (.int (46 : Int32)), (.int (BY ch3)), (.int (BY ch4))] := own_s255 hc226 (Nat.le_of_ble_eq_true rfl)
          have O228 : Old Z n0 T222.heap := Old.keep O221 K222 all0
          obtain ⟨cq229, kq229, q229a, q229b, q229c⟩ := isOf hZ222 (rfl : T222.heap = T222.heap) f222_0
          obtain ⟨_, _, ⟨T229, L229, k229, n229⟩, -, X229, ⟨Lc229, hQ229, l229, y229, z229⟩, st229⟩ := X222b.virtualBack hx (y := (⟨"java/lang/String", "length", "()I"⟩ : MethodName)) (z := (⟨"java/lang/String", "length", "()I"⟩ : MethodName)) hown222 (mvT hZ222 (hwk hw 35 rfl)) (mvT hZ222 (hwk hw 36 rfl)) (notFace_of_selects (args := #[]) (mvT hZ222 (hwk hw 38 rfl))) (mvT hZ222 (hwk hw 38 rfl)) (mvT hZ222 (hwk hw 37 rfl)) (by decide) (backOf (W := 0) (rm7 l Z a0 hw [] o_222 t_222 kb_222 (4 : Int32) ([(.int (BY ch1)), (.int (46 : Int32)), (.int (BY ch3)), (.int (BY ch4))]) zc T222.heap n0 O228 f222_0 f222_1 f222_2 W227 SZ PZ) hZ222 (hwk hw 39 rfl) (hwk hw 6 rfl) (by decide) (by decide)) q229a q229c (g := (mkF m 136 #[.val (.int p0), .val (.int p1), .val (.int (1 : Int32)), .val (.int ch1), .val (.int ch2), .val (.int (2 : Int32)), .val (.int ch3), .val (.int ch4), .val (.ref o_214), .val (.ref o_216), .val (.ref o_222), .val (.int (4 : Int32))] [(.ref o_222)])) rfl (by rw [hml]; rfl) (Steps.refl _) (argsL := []) (rest := []) (lenOf pd_10 rfl) rfl (by show 2 * 0 + _ ≤ _; exact Nat.le_of_eq rfl) (hb hby at_136) (fun _ _ => ⟨rfl, (rfl : T222.heap = T222.heap), (by decide : 11 + 0 ≤ _), (by decide : 61 + 0 ≤ _)⟩)
          dsimp only [Pt.U, Pt.locs, Pt.cells, Pt.slots] at X229 l229 y229 z229 st229 hQ229
          subst l229 y229 z229
          unfold Q_rm7 at hQ229
          obtain ⟨rfl, N229q, e229⟩ := hQ229
          have N229 := Fr.app N222 N229q
          have hws230 : ∀ d ∈ StrChars.Road.wordsChN, d.before a0 Z = true := fun d hd => hw d ((by decide +kernel : ∀ d ∈ StrChars.Road.wordsChN, d ∈ tables_1) d hd)
          have c231 : Sta Z T222.heap "java/lang/String" "COMPACT_STRINGS" "Z" (.int zc) := Sta.ext (O228).2 SZ
          have c232 : Sta Z T222.heap "jdk/internal/util/Preconditions" "SIOOBE_FORMATTER" "Ljava/util/function/BiFunction;" fm := Sta.ext (O228).2 SF
          obtain ⟨cq233, kq233, q233a, q233b, q233c⟩ := isOf hZ222 e229 f222_0
          obtain ⟨_, _, ⟨T233, L233, k233, n233⟩, -, X233, ⟨Lc233, hQ233, l233, y233, z233⟩, st233⟩ := X229.virtualBack hx (y := (⟨"java/lang/String", "charAt", "(I)C"⟩ : MethodName)) (z := (⟨"java/lang/String", "charAt", "(I)C"⟩ : MethodName)) hown222 (mvT hZ222 (hwk hw 163 rfl)) (mvT hZ222 (hwk hw 164 rfl)) (notFace_of_selects (args := #[]) (mvT hZ222 (hwk hw 166 rfl))) (mvT hZ222 (hwk hw 166 rfl)) (mvT hZ222 (hwk hw 165 rfl)) (by decide) (StrChars.Road.chN (W := 0) hZ222 hws230 (kI := 4) (hwk hw 5 rfl) (i := 0) f222_0 f222_1 f222_2 W227 OS225.1 OS225.2.1 c231 PZ c232 RF OS225.2.2 (Nat.le_of_ble_eq_true rfl) (by decide) (by decide) (by decide)) q233a q233c (g := (mkF m 155 #[.val (.int p0), .val (.int p1), .val (.int (1 : Int32)), .val (.int ch1), .val (.int ch2), .val (.int (2 : Int32)), .val (.int ch3), .val (.int ch4), .val (.ref o_214), .val (.ref o_216), .val (.ref o_222), .val (.int (4 : Int32))] [(.int (0 : Int32)), (.ref o_222)])) rfl (by rw [hml]; rfl) (Steps.refl _) (argsL := [(.int (0 : Int32))]) (rest := []) (lenOf pd_26 rfl) rfl (by show 2 * 0 + _ ≤ _; exact Nat.le_of_eq rfl) (hb hby at_155) (fun _ _ => ⟨rfl, e229, (by decide : 11 + 0 ≤ _), (by decide : 61 + 0 ≤ _)⟩)
          dsimp only [Pt.U, Pt.locs, Pt.cells, Pt.slots] at X233 l233 y233 z233 st233 hQ233
          subst l233 y233 z233
          obtain ⟨hv233, hl233, e233⟩ := hQ233
          cases (show _ = some (Value.int ch1) from hv233)
          have N233 := Fr.app N229 (own_frnil hl233)
          obtain ⟨_, _, ⟨T234, L234, k234, n234⟩, -, X234, ⟨Lc234, hQ234, l234, y234, z234⟩, st234⟩ := Jvm.LawKit.callS X233 hx (y := (⟨"com/example/syndex/syndex/SectionKeyPathPinLaw", "exp", "(IICCCC)C"⟩ : MethodName)) hown222 (mvT hZ222 (hwk hw 185 rfl)) (mvT hZ222 (hwk hw 186 rfl)) (mvT hZ222 (hwk hw 2 rfl)) (mvT hZ222 (hwk hw 187 rfl)) (by decide) (backOf (W := 1) (ex01 l Z a0 hw [] ch1 ch2 ch3 ch4 T222.heap n0 O228 gch1 gch2 gch3 gch4) hZ222 (hwk hw 187 rfl) (hwk hw 2 rfl) (by decide) (by decide)) (g := (mkF m 167 #[.val (.int p0), .val (.int p1), .val (.int (1 : Int32)), .val (.int ch1), .val (.int ch2), .val (.int (2 : Int32)), .val (.int ch3), .val (.int ch4), .val (.ref o_214), .val (.ref o_216), .val (.ref o_222), .val (.int (4 : Int32))] [(.int ch4), (.int ch3), (.int ch2), (.int ch1), (.int (1 : Int32)), (.int (0 : Int32)), (.int ch1)])) rfl (by rw [hml]; rfl) (argsL := [(.int (0 : Int32)), (.int (1 : Int32)), (.int ch1), (.int ch2), (.int ch3), (.int ch4)]) (rest := [(.int ch1)]) (lenOf pd_27 rfl) rfl (by show 2 * 0 + _ ≤ _; exact Nat.le_of_eq rfl) (hb hby at_167) (fun _ _ => ⟨rfl, e233, (by decide : 11 + 0 ≤ _), (by decide : 61 + 0 ≤ _)⟩)
          dsimp only [Pt.U, Pt.locs, Pt.cells, Pt.slots] at X234 l234 y234 z234 st234 hQ234
          subst l234 y234 z234
          unfold Q_ex01 at hQ234
          obtain ⟨rfl, N234q, e234⟩ := hQ234
          have N234 := Fr.app N233 N234q
          have hws235 : ∀ d ∈ StrChars.Road.wordsChN, d.before a0 Z = true := fun d hd => hw d ((by decide +kernel : ∀ d ∈ StrChars.Road.wordsChN, d ∈ tables_1) d hd)
          obtain ⟨cq236, kq236, q236a, q236b, q236c⟩ := isOf hZ222 e234 f222_0
          obtain ⟨_, _, ⟨T236, L236, k236, n236⟩, -, X236, ⟨Lc236, hQ236, l236, y236, z236⟩, st236⟩ := X234.virtualBack hx (y := (⟨"java/lang/String", "charAt", "(I)C"⟩ : MethodName)) (z := (⟨"java/lang/String", "charAt", "(I)C"⟩ : MethodName)) hown222 (mvT hZ222 (hwk hw 163 rfl)) (mvT hZ222 (hwk hw 164 rfl)) (notFace_of_selects (args := #[]) (mvT hZ222 (hwk hw 166 rfl))) (mvT hZ222 (hwk hw 166 rfl)) (mvT hZ222 (hwk hw 165 rfl)) (by decide) (StrChars.Road.chN (W := 0) hZ222 hws235 (kI := 4) (hwk hw 5 rfl) (i := 1) f222_0 f222_1 f222_2 W227 OS225.1 OS225.2.1 c231 PZ c232 RF OS225.2.2 (Nat.le_of_ble_eq_true rfl) (by decide) (by decide) (by decide)) q236a q236c (g := (mkF m 184 #[.val (.int p0), .val (.int p1), .val (.int (1 : Int32)), .val (.int ch1), .val (.int ch2), .val (.int (2 : Int32)), .val (.int ch3), .val (.int ch4), .val (.ref o_214), .val (.ref o_216), .val (.ref o_222), .val (.int (4 : Int32))] [(.int (1 : Int32)), (.ref o_222)])) rfl (by rw [hml]; rfl) (Steps.refl _) (argsL := [(.int (1 : Int32))]) (rest := []) (lenOf pd_26 rfl) rfl (by show 2 * 0 + _ ≤ _; exact Nat.le_of_eq rfl) (hb hby at_184) (fun _ _ => ⟨rfl, e234, (by decide : 11 + 0 ≤ _), (by decide : 61 + 0 ≤ _)⟩)
          dsimp only [Pt.U, Pt.locs, Pt.cells, Pt.slots] at X236 l236 y236 z236 st236 hQ236
          subst l236 y236 z236
          obtain ⟨hv236, hl236, e236⟩ := hQ236
          cases (show _ = some (Value.int (46 : Int32)) from hv236)
          have N236 := Fr.app N234 (own_frnil hl236)
          obtain ⟨_, _, ⟨T237, L237, k237, n237⟩, -, X237, ⟨Lc237, hQ237, l237, y237, z237⟩, st237⟩ := Jvm.LawKit.callS X236 hx (y := (⟨"com/example/syndex/syndex/SectionKeyPathPinLaw", "exp", "(IICCCC)C"⟩ : MethodName)) hown222 (mvT hZ222 (hwk hw 185 rfl)) (mvT hZ222 (hwk hw 186 rfl)) (mvT hZ222 (hwk hw 2 rfl)) (mvT hZ222 (hwk hw 187 rfl)) (by decide) (backOf (W := 1) (ex11 l Z a0 hw [] ch1 ch2 ch3 ch4 T222.heap n0 O228 gch1 gch2 gch3 gch4) hZ222 (hwk hw 187 rfl) (hwk hw 2 rfl) (by decide) (by decide)) (g := (mkF m 196 #[.val (.int p0), .val (.int p1), .val (.int (1 : Int32)), .val (.int ch1), .val (.int ch2), .val (.int (2 : Int32)), .val (.int ch3), .val (.int ch4), .val (.ref o_214), .val (.ref o_216), .val (.ref o_222), .val (.int (4 : Int32))] [(.int ch4), (.int ch3), (.int ch2), (.int ch1), (.int (1 : Int32)), (.int (1 : Int32)), (.int (46 : Int32))])) rfl (by rw [hml]; rfl) (argsL := [(.int (1 : Int32)), (.int (1 : Int32)), (.int ch1), (.int ch2), (.int ch3), (.int ch4)]) (rest := [(.int (46 : Int32))]) (lenOf pd_27 rfl) rfl (by show 2 * 0 + _ ≤ _; exact Nat.le_of_eq rfl) (hb hby at_196) (fun _ _ => ⟨rfl, e236, (by decide : 11 + 0 ≤ _), (by decide : 61 + 0 ≤ _)⟩)
          dsimp only [Pt.U, Pt.locs, Pt.cells, Pt.slots] at X237 l237 y237 z237 st237 hQ237
          subst l237 y237 z237
          unfold Q_ex11 at hQ237
          obtain ⟨rfl, N237q, e237⟩ := hQ237
          have N237 := Fr.app N236 N237q
          have hws238 : ∀ d ∈ StrChars.Road.wordsChN, d.before a0 Z = true := fun d hd => hw d ((by decide +kernel : ∀ d ∈ StrChars.Road.wordsChN, d ∈ tables_1) d hd)
          obtain ⟨cq239, kq239, q239a, q239b, q239c⟩ := isOf hZ222 e237 f222_0
          obtain ⟨_, _, ⟨T239, L239, k239, n239⟩, -, X239, ⟨Lc239, hQ239, l239, y239, z239⟩, st239⟩ := X237.virtualBack hx (y := (⟨"java/lang/String", "charAt", "(I)C"⟩ : MethodName)) (z := (⟨"java/lang/String", "charAt", "(I)C"⟩ : MethodName)) hown222 (mvT hZ222 (hwk hw 163 rfl)) (mvT hZ222 (hwk hw 164 rfl)) (notFace_of_selects (args := #[]) (mvT hZ222 (hwk hw 166 rfl))) (mvT hZ222 (hwk hw 166 rfl)) (mvT hZ222 (hwk hw 165 rfl)) (by decide) (StrChars.Road.chN (W := 0) hZ222 hws238 (kI := 4) (hwk hw 5 rfl) (i := 2) f222_0 f222_1 f222_2 W227 OS225.1 OS225.2.1 c231 PZ c232 RF OS225.2.2 (Nat.le_of_ble_eq_true rfl) (by decide) (by decide) (by decide)) q239a q239c (g := (mkF m 213 #[.val (.int p0), .val (.int p1), .val (.int (1 : Int32)), .val (.int ch1), .val (.int ch2), .val (.int (2 : Int32)), .val (.int ch3), .val (.int ch4), .val (.ref o_214), .val (.ref o_216), .val (.ref o_222), .val (.int (4 : Int32))] [(.int (2 : Int32)), (.ref o_222)])) rfl (by rw [hml]; rfl) (Steps.refl _) (argsL := [(.int (2 : Int32))]) (rest := []) (lenOf pd_26 rfl) rfl (by show 2 * 0 + _ ≤ _; exact Nat.le_of_eq rfl) (hb hby at_213) (fun _ _ => ⟨rfl, e237, (by decide : 11 + 0 ≤ _), (by decide : 61 + 0 ≤ _)⟩)
          dsimp only [Pt.U, Pt.locs, Pt.cells, Pt.slots] at X239 l239 y239 z239 st239 hQ239
          subst l239 y239 z239
          obtain ⟨hv239, hl239, e239⟩ := hQ239
          cases (show _ = some (Value.int ch3) from hv239)
          have N239 := Fr.app N237 (own_frnil hl239)
          obtain ⟨_, _, ⟨T240, L240, k240, n240⟩, -, X240, ⟨Lc240, hQ240, l240, y240, z240⟩, st240⟩ := Jvm.LawKit.callS X239 hx (y := (⟨"com/example/syndex/syndex/SectionKeyPathPinLaw", "exp", "(IICCCC)C"⟩ : MethodName)) hown222 (mvT hZ222 (hwk hw 185 rfl)) (mvT hZ222 (hwk hw 186 rfl)) (mvT hZ222 (hwk hw 2 rfl)) (mvT hZ222 (hwk hw 187 rfl)) (by decide) (backOf (W := 1) (ex21 l Z a0 hw [] ch1 ch2 ch3 ch4 T222.heap n0 O228 gch1 gch2 gch3 gch4) hZ222 (hwk hw 187 rfl) (hwk hw 2 rfl) (by decide) (by decide)) (g := (mkF m 225 #[.val (.int p0), .val (.int p1), .val (.int (1 : Int32)), .val (.int ch1), .val (.int ch2), .val (.int (2 : Int32)), .val (.int ch3), .val (.int ch4), .val (.ref o_214), .val (.ref o_216), .val (.ref o_222), .val (.int (4 : Int32))] [(.int ch4), (.int ch3), (.int ch2), (.int ch1), (.int (1 : Int32)), (.int (2 : Int32)), (.int ch3)])) rfl (by rw [hml]; rfl) (argsL := [(.int (2 : Int32)), (.int (1 : Int32)), (.int ch1), (.int ch2), (.int ch3), (.int ch4)]) (rest := [(.int ch3)]) (lenOf pd_27 rfl) rfl (by show 2 * 0 + _ ≤ _; exact Nat.le_of_eq rfl) (hb hby at_225) (fun _ _ => ⟨rfl, e239, (by decide : 11 + 0 ≤ _), (by decide : 61 + 0 ≤ _)⟩)
          dsimp only [Pt.U, Pt.locs, Pt.cells, Pt.slots] at X240 l240 y240 z240 st240 hQ240
          subst l240 y240 z240
          unfold Q_ex21 at hQ240
          obtain ⟨rfl, N240q, e240⟩ := hQ240
          have N240 := Fr.app N239 N240q
          have hws241 : ∀ d ∈ StrChars.Road.wordsChN, d.before a0 Z = true := fun d hd => hw d ((by decide +kernel : ∀ d ∈ StrChars.Road.wordsChN, d ∈ tables_1) d hd)
          obtain ⟨cq242, kq242, q242a, q242b, q242c⟩ := isOf hZ222 e240 f222_0
          obtain ⟨_, _, ⟨T242, L242, k242, n242⟩, -, X242, ⟨Lc242, hQ242, l242, y242, z242⟩, st242⟩ := X240.virtualBack hx (y := (⟨"java/lang/String", "charAt", "(I)C"⟩ : MethodName)) (z := (⟨"java/lang/String", "charAt", "(I)C"⟩ : MethodName)) hown222 (mvT hZ222 (hwk hw 163 rfl)) (mvT hZ222 (hwk hw 164 rfl)) (notFace_of_selects (args := #[]) (mvT hZ222 (hwk hw 166 rfl))) (mvT hZ222 (hwk hw 166 rfl)) (mvT hZ222 (hwk hw 165 rfl)) (by decide) (StrChars.Road.chN (W := 0) hZ222 hws241 (kI := 4) (hwk hw 5 rfl) (i := 3) f222_0 f222_1 f222_2 W227 OS225.1 OS225.2.1 c231 PZ c232 RF OS225.2.2 (Nat.le_of_ble_eq_true rfl) (by decide) (by decide) (by decide)) q242a q242c (g := (mkF m 242 #[.val (.int p0), .val (.int p1), .val (.int (1 : Int32)), .val (.int ch1), .val (.int ch2), .val (.int (2 : Int32)), .val (.int ch3), .val (.int ch4), .val (.ref o_214), .val (.ref o_216), .val (.ref o_222), .val (.int (4 : Int32))] [(.int (3 : Int32)), (.ref o_222)])) rfl (by rw [hml]; rfl) (Steps.refl _) (argsL := [(.int (3 : Int32))]) (rest := []) (lenOf pd_26 rfl) rfl (by show 2 * 0 + _ ≤ _; exact Nat.le_of_eq rfl) (hb hby at_242) (fun _ _ => ⟨rfl, e240, (by decide : 11 + 0 ≤ _), (by decide : 61 + 0 ≤ _)⟩)
          dsimp only [Pt.U, Pt.locs, Pt.cells, Pt.slots] at X242 l242 y242 z242 st242 hQ242
          subst l242 y242 z242
          obtain ⟨hv242, hl242, e242⟩ := hQ242
          cases (show _ = some (Value.int ch4) from hv242)
          have N242 := Fr.app N240 (own_frnil hl242)
          obtain ⟨_, _, ⟨T243, L243, k243, n243⟩, -, X243, ⟨Lc243, hQ243, l243, y243, z243⟩, st243⟩ := Jvm.LawKit.callS X242 hx (y := (⟨"com/example/syndex/syndex/SectionKeyPathPinLaw", "exp", "(IICCCC)C"⟩ : MethodName)) hown222 (mvT hZ222 (hwk hw 185 rfl)) (mvT hZ222 (hwk hw 186 rfl)) (mvT hZ222 (hwk hw 2 rfl)) (mvT hZ222 (hwk hw 187 rfl)) (by decide) (backOf (W := 1) (ex31 l Z a0 hw [] ch1 ch2 ch3 ch4 T222.heap n0 O228 gch1 gch2 gch3 gch4) hZ222 (hwk hw 187 rfl) (hwk hw 2 rfl) (by decide) (by decide)) (g := (mkF m 254 #[.val (.int p0), .val (.int p1), .val (.int (1 : Int32)), .val (.int ch1), .val (.int ch2), .val (.int (2 : Int32)), .val (.int ch3), .val (.int ch4), .val (.ref o_214), .val (.ref o_216), .val (.ref o_222), .val (.int (4 : Int32))] [(.int ch4), (.int ch3), (.int ch2), (.int ch1), (.int (1 : Int32)), (.int (3 : Int32)), (.int ch4)])) rfl (by rw [hml]; rfl) (argsL := [(.int (3 : Int32)), (.int (1 : Int32)), (.int ch1), (.int ch2), (.int ch3), (.int ch4)]) (rest := [(.int ch4)]) (lenOf pd_27 rfl) rfl (by show 2 * 0 + _ ≤ _; exact Nat.le_of_eq rfl) (hb hby at_254) (fun _ _ => ⟨rfl, e242, (by decide : 11 + 0 ≤ _), (by decide : 61 + 0 ≤ _)⟩)
          dsimp only [Pt.U, Pt.locs, Pt.cells, Pt.slots] at X243 l243 y243 z243 st243 hQ243
          subst l243 y243 z243
          unfold Q_ex31 at hQ243
          obtain ⟨rfl, N243q, e243⟩ := hQ243
          have N243 := Fr.app N242 N243q
          have K244 : Keep h0 T214.heap [] := Keep.trans (Keep.refl h0 []) K214 all0
          have K245 : Keep h0 T216.heap [] := Keep.trans K244 K216 all0
          have K246 : Keep h0 T222.heap [] := Keep.trans K245 K222 all0
          have CR247 : CHr Z consts_1 s.vm h0 T222.vm T222.heap := CHr.trans CR224 CX222
          obtain ⟨fs, hr, hrun, hended, hRE⟩ := X243.leaveW hS222 (show _ ≤ T243.heap.size from by rw [e243]; exact (Nat.le_refl _)) (v := some (.int (1 : Int32))) (fun h => by rw [Bd.returns] at h; cases h)
          have CRl : CHr Z consts_1 s.vm s.heap (T243.setFrames fs).vm (T243.setFrames fs).heap := by
            have q := CHr.trans CR247 (CHv.at X243 hZ222 hEL CR247.1)
            rw [← hh, ← e243] at q
            exact q
          refine ⟨_, _, S154 _ ?_, hrun, hended, _, _, rfl, ?_, CRl, hRE.1, hRE.2.1, hRE.2.2.1, hRE.2.2.2.mono (by decide) (by decide)⟩
          · show Steps p.tables e below (s₁.setTop (mkF m 39 #[.val (.int p0), .val (.int p1), .val (.int (1 : Int32)), .val (.int ((p0 &&& (255 : Int32)).toUInt32.toUInt16.toUInt32.toInt32)), .val (.int ((((p0.toUInt32 >>> ((8 : Int32) &&& 31).toUInt32).toInt32) &&& (255 : Int32)).toUInt32.toUInt16.toUInt32.toInt32)), .unset, .unset, .unset, .unset, .unset, .unset, .unset] [(.int ((((p1.toUInt32 >>> ((16 : Int32) &&& 31).toUInt32).toInt32) &&& (255 : Int32)) % (3 : Int32)))])) _
            rw [(show ((((p1.toUInt32 >>> ((16 : Int32) &&& 31).toUInt32).toInt32) &&& (255 : Int32)) % (3 : Int32)) = (2 : Int32) from ((own_r3 ((p1.toUInt32 >>> ((16 : Int32) &&& 31).toUInt32).toInt32)).resolve_left hr152).resolve_left hr153)]
            show Steps p.tables e below (s₁.setTop (mkF m 39 #[.val (.int p0), .val (.int p1), .val (.int (1 : Int32)), .val (.int ((p0 &&& (255 : Int32)).toUInt32.toUInt16.toUInt32.toInt32)), .val (.int ((((p0.toUInt32 >>> ((8 : Int32) &&& 31).toUInt32).toInt32) &&& (255 : Int32)).toUInt32.toUInt16.toUInt32.toInt32)), .unset, .unset, .unset, .unset, .unset, .unset, .unset] [(.int (2 : Int32))])) _
            refine XS.istore X0.here hx rfl (hb hby at_39) rfl (l' := #[.val (.int p0), .val (.int p1), .val (.int (1 : Int32)), .val (.int ((p0 &&& (255 : Int32)).toUInt32.toUInt16.toUInt32.toInt32)), .val (.int ((((p0.toUInt32 >>> ((8 : Int32) &&& 31).toUInt32).toInt32) &&& (255 : Int32)).toUInt32.toUInt16.toUInt32.toInt32)), .val (.int (2 : Int32)), .unset, .unset, .unset, .unset, .unset, .unset]) rfl ?_
            show Steps p.tables e below (s₁.setTop (mkF m 41 #[.val (.int p0), .val (.int p1), .val (.int (1 : Int32)), .val (.int ((p0 &&& (255 : Int32)).toUInt32.toUInt16.toUInt32.toInt32)), .val (.int ((((p0.toUInt32 >>> ((8 : Int32) &&& 31).toUInt32).toInt32) &&& (255 : Int32)).toUInt32.toUInt16.toUInt32.toInt32)), .val (.int (2 : Int32)), .unset, .unset, .unset, .unset, .unset, .unset] [])) _
            refine XS.iloadN X0.here hx rfl (hb hby at_41) rfl ?_
            refine XS.sipush X0.here hx rfl (hb hby at_42) ?_
            refine XS.iand X0.here hx rfl (hb hby at_45) rfl ?_
            show Steps p.tables e below (s₁.setTop (mkF m 46 #[.val (.int p0), .val (.int p1), .val (.int (1 : Int32)), .val (.int ((p0 &&& (255 : Int32)).toUInt32.toUInt16.toUInt32.toInt32)), .val (.int ((((p0.toUInt32 >>> ((8 : Int32) &&& 31).toUInt32).toInt32) &&& (255 : Int32)).toUInt32.toUInt16.toUInt32.toInt32)), .val (.int (2 : Int32)), .unset, .unset, .unset, .unset, .unset, .unset] [(.int (p1 &&& (255 : Int32)))])) _
            refine XS.i2c X0.here hx rfl (hb hby at_46) rfl ?_
            show Steps p.tables e below (s₁.setTop (mkF m 47 #[.val (.int p0), .val (.int p1), .val (.int (1 : Int32)), .val (.int ((p0 &&& (255 : Int32)).toUInt32.toUInt16.toUInt32.toInt32)), .val (.int ((((p0.toUInt32 >>> ((8 : Int32) &&& 31).toUInt32).toInt32) &&& (255 : Int32)).toUInt32.toUInt16.toUInt32.toInt32)), .val (.int (2 : Int32)), .unset, .unset, .unset, .unset, .unset, .unset] [(.int ((p1 &&& (255 : Int32)).toUInt32.toUInt16.toUInt32.toInt32))])) _
            refine XS.istore X0.here hx rfl (hb hby at_47) rfl (l' := #[.val (.int p0), .val (.int p1), .val (.int (1 : Int32)), .val (.int ((p0 &&& (255 : Int32)).toUInt32.toUInt16.toUInt32.toInt32)), .val (.int ((((p0.toUInt32 >>> ((8 : Int32) &&& 31).toUInt32).toInt32) &&& (255 : Int32)).toUInt32.toUInt16.toUInt32.toInt32)), .val (.int (2 : Int32)), .val (.int ((p1 &&& (255 : Int32)).toUInt32.toUInt16.toUInt32.toInt32)), .unset, .unset, .unset, .unset, .unset]) rfl ?_
            show Steps p.tables e below (s₁.setTop (mkF m 49 #[.val (.int p0), .val (.int p1), .val (.int (1 : Int32)), .val (.int ((p0 &&& (255 : Int32)).toUInt32.toUInt16.toUInt32.toInt32)), .val (.int ((((p0.toUInt32 >>> ((8 : Int32) &&& 31).toUInt32).toInt32) &&& (255 : Int32)).toUInt32.toUInt16.toUInt32.toInt32)), .val (.int (2 : Int32)), .val (.int ((p1 &&& (255 : Int32)).toUInt32.toUInt16.toUInt32.toInt32)), .unset, .unset, .unset, .unset, .unset] [])) _
            refine XS.iloadN X0.here hx rfl (hb hby at_49) rfl ?_
            refine XS.bipush X0.here hx rfl (hb hby at_50) ?_
            refine XS.iushr X0.here hx rfl (hb hby at_52) rfl ?_
            show Steps p.tables e below (s₁.setTop (mkF m 53 #[.val (.int p0), .val (.int p1), .val (.int (1 : Int32)), .val (.int ((p0 &&& (255 : Int32)).toUInt32.toUInt16.toUInt32.toInt32)), .val (.int ((((p0.toUInt32 >>> ((8 : Int32) &&& 31).toUInt32).toInt32) &&& (255 : Int32)).toUInt32.toUInt16.toUInt32.toInt32)), .val (.int (2 : Int32)), .val (.int ((p1 &&& (255 : Int32)).toUInt32.toUInt16.toUInt32.toInt32)), .unset, .unset, .unset, .unset, .unset] [(.int ((p1.toUInt32 >>> ((8 : Int32) &&& 31).toUInt32).toInt32))])) _
            refine XS.sipush X0.here hx rfl (hb hby at_53) ?_
            refine XS.iand X0.here hx rfl (hb hby at_56) rfl ?_
            show Steps p.tables e below (s₁.setTop (mkF m 57 #[.val (.int p0), .val (.int p1), .val (.int (1 : Int32)), .val (.int ((p0 &&& (255 : Int32)).toUInt32.toUInt16.toUInt32.toInt32)), .val (.int ((((p0.toUInt32 >>> ((8 : Int32) &&& 31).toUInt32).toInt32) &&& (255 : Int32)).toUInt32.toUInt16.toUInt32.toInt32)), .val (.int (2 : Int32)), .val (.int ((p1 &&& (255 : Int32)).toUInt32.toUInt16.toUInt32.toInt32)), .unset, .unset, .unset, .unset, .unset] [(.int (((p1.toUInt32 >>> ((8 : Int32) &&& 31).toUInt32).toInt32) &&& (255 : Int32)))])) _
            refine XS.i2c X0.here hx rfl (hb hby at_57) rfl ?_
            show Steps p.tables e below (s₁.setTop (mkF m 58 #[.val (.int p0), .val (.int p1), .val (.int (1 : Int32)), .val (.int ((p0 &&& (255 : Int32)).toUInt32.toUInt16.toUInt32.toInt32)), .val (.int ((((p0.toUInt32 >>> ((8 : Int32) &&& 31).toUInt32).toInt32) &&& (255 : Int32)).toUInt32.toUInt16.toUInt32.toInt32)), .val (.int (2 : Int32)), .val (.int ((p1 &&& (255 : Int32)).toUInt32.toUInt16.toUInt32.toInt32)), .unset, .unset, .unset, .unset, .unset] [(.int ((((p1.toUInt32 >>> ((8 : Int32) &&& 31).toUInt32).toInt32) &&& (255 : Int32)).toUInt32.toUInt16.toUInt32.toInt32))])) _
            refine XS.istore X0.here hx rfl (hb hby at_58) rfl (l' := #[.val (.int p0), .val (.int p1), .val (.int (1 : Int32)), .val (.int ((p0 &&& (255 : Int32)).toUInt32.toUInt16.toUInt32.toInt32)), .val (.int ((((p0.toUInt32 >>> ((8 : Int32) &&& 31).toUInt32).toInt32) &&& (255 : Int32)).toUInt32.toUInt16.toUInt32.toInt32)), .val (.int (2 : Int32)), .val (.int ((p1 &&& (255 : Int32)).toUInt32.toUInt16.toUInt32.toInt32)), .val (.int ((((p1.toUInt32 >>> ((8 : Int32) &&& 31).toUInt32).toInt32) &&& (255 : Int32)).toUInt32.toUInt16.toUInt32.toInt32)), .unset, .unset, .unset, .unset]) rfl ?_
            show Steps p.tables e below (s₁.setTop (mkF m 60 #[.val (.int p0), .val (.int p1), .val (.int (1 : Int32)), .val (.int ((p0 &&& (255 : Int32)).toUInt32.toUInt16.toUInt32.toInt32)), .val (.int ((((p0.toUInt32 >>> ((8 : Int32) &&& 31).toUInt32).toInt32) &&& (255 : Int32)).toUInt32.toUInt16.toUInt32.toInt32)), .val (.int (2 : Int32)), .val (.int ((p1 &&& (255 : Int32)).toUInt32.toUInt16.toUInt32.toInt32)), .val (.int ((((p1.toUInt32 >>> ((8 : Int32) &&& 31).toUInt32).toInt32) &&& (255 : Int32)).toUInt32.toUInt16.toUInt32.toInt32)), .unset, .unset, .unset, .unset] [])) _
            rw [← ech1]
            show Steps p.tables e below (s₁.setTop (mkF m 60 #[.val (.int p0), .val (.int p1), .val (.int (1 : Int32)), .val (.int ch1), .val (.int ((((p0.toUInt32 >>> ((8 : Int32) &&& 31).toUInt32).toInt32) &&& (255 : Int32)).toUInt32.toUInt16.toUInt32.toInt32)), .val (.int (2 : Int32)), .val (.int ((p1 &&& (255 : Int32)).toUInt32.toUInt16.toUInt32.toInt32)), .val (.int ((((p1.toUInt32 >>> ((8 : Int32) &&& 31).toUInt32).toInt32) &&& (255 : Int32)).toUInt32.toUInt16.toUInt32.toInt32)), .unset, .unset, .unset, .unset] [])) _
            rw [← ech2]
            show Steps p.tables e below (s₁.setTop (mkF m 60 #[.val (.int p0), .val (.int p1), .val (.int (1 : Int32)), .val (.int ch1), .val (.int ch2), .val (.int (2 : Int32)), .val (.int ((p1 &&& (255 : Int32)).toUInt32.toUInt16.toUInt32.toInt32)), .val (.int ((((p1.toUInt32 >>> ((8 : Int32) &&& 31).toUInt32).toInt32) &&& (255 : Int32)).toUInt32.toUInt16.toUInt32.toInt32)), .unset, .unset, .unset, .unset] [])) _
            rw [← ech3]
            show Steps p.tables e below (s₁.setTop (mkF m 60 #[.val (.int p0), .val (.int p1), .val (.int (1 : Int32)), .val (.int ch1), .val (.int ch2), .val (.int (2 : Int32)), .val (.int ch3), .val (.int ((((p1.toUInt32 >>> ((8 : Int32) &&& 31).toUInt32).toInt32) &&& (255 : Int32)).toUInt32.toUInt16.toUInt32.toInt32)), .unset, .unset, .unset, .unset] [])) _
            rw [← ech4]
            show Steps p.tables e below (s₁.setTop (mkF m 60 #[.val (.int p0), .val (.int p1), .val (.int (1 : Int32)), .val (.int ch1), .val (.int ch2), .val (.int (2 : Int32)), .val (.int ch3), .val (.int ch4), .unset, .unset, .unset, .unset] [])) _
            refine XS.iloadN X0.here hx rfl (hb hby at_60) rfl ?_
            refine XS.iloadN X0.here hx rfl (hb hby at_61) rfl ?_
            refine XS.iload X0.here hx rfl (hb hby at_62) rfl ?_
            show Steps p.tables e below (s₁.setTop (mkF m 64 #[.val (.int p0), .val (.int p1), .val (.int (1 : Int32)), .val (.int ch1), .val (.int ch2), .val (.int (2 : Int32)), .val (.int ch3), .val (.int ch4), .unset, .unset, .unset, .unset] [(.int ch2), (.int ch1), (.int (1 : Int32))])) _
            refine st214 _ ?_
            show Steps p.tables e below (T214.setTop (mkF m 67 #[.val (.int p0), .val (.int p1), .val (.int (1 : Int32)), .val (.int ch1), .val (.int ch2), .val (.int (2 : Int32)), .val (.int ch3), .val (.int ch4), .unset, .unset, .unset, .unset] [(.ref o_214)])) _
            refine XS.astore X214.here hx rfl (hb hby at_67) rfl rfl (l' := #[.val (.int p0), .val (.int p1), .val (.int (1 : Int32)), .val (.int ch1), .val (.int ch2), .val (.int (2 : Int32)), .val (.int ch3), .val (.int ch4), .val (.ref o_214), .unset, .unset, .unset]) rfl ?_
            show Steps p.tables e below (T214.setTop (mkF m 69 #[.val (.int p0), .val (.int p1), .val (.int (1 : Int32)), .val (.int ch1), .val (.int ch2), .val (.int (2 : Int32)), .val (.int ch3), .val (.int ch4), .val (.ref o_214), .unset, .unset, .unset] [])) _
            refine XS.iload X214.here hx rfl (hb hby at_69) rfl ?_
            refine XS.iload X214.here hx rfl (hb hby at_71) rfl ?_
            refine XS.iload X214.here hx rfl (hb hby at_73) rfl ?_
            show Steps p.tables e below (T214.setTop (mkF m 75 #[.val (.int p0), .val (.int p1), .val (.int (1 : Int32)), .val (.int ch1), .val (.int ch2), .val (.int (2 : Int32)), .val (.int ch3), .val (.int ch4), .val (.ref o_214), .unset, .unset, .unset] [(.int ch4), (.int ch3), (.int (2 : Int32))])) _
            refine st216 _ ?_
            show Steps p.tables e below (T216.setTop (mkF m 78 #[.val (.int p0), .val (.int p1), .val (.int (1 : Int32)), .val (.int ch1), .val (.int ch2), .val (.int (2 : Int32)), .val (.int ch3), .val (.int ch4), .val (.ref o_214), .unset, .unset, .unset] [(.ref o_216)])) _
            refine XS.astore X216.here hx rfl (hb hby at_78) rfl rfl (l' := #[.val (.int p0), .val (.int p1), .val (.int (1 : Int32)), .val (.int ch1), .val (.int ch2), .val (.int (2 : Int32)), .val (.int ch3), .val (.int ch4), .val (.ref o_214), .val (.ref o_216), .unset, .unset]) rfl ?_
            show Steps p.tables e below (T216.setTop (mkF m 80 #[.val (.int p0), .val (.int p1), .val (.int (1 : Int32)), .val (.int ch1), .val (.int ch2), .val (.int (2 : Int32)), .val (.int ch3), .val (.int ch4), .val (.ref o_214), .val (.ref o_216), .unset, .unset] [])) _
            refine XS.aload X216.here hx rfl (hb hby at_80) rfl rfl ?_
            refine XS.aload X216.here hx rfl (hb hby at_82) rfl rfl ?_
            show Steps p.tables e below (T216.setTop (mkF m 84 #[.val (.int p0), .val (.int p1), .val (.int (1 : Int32)), .val (.int ch1), .val (.int ch2), .val (.int (2 : Int32)), .val (.int ch3), .val (.int ch4), .val (.ref o_214), .val (.ref o_216), .unset, .unset] [(.ref o_216), (.ref o_214)])) _
            refine st222.trans ?_
            show Steps p.tables e below (T222.setTop (mkF m 87 #[.val (.int p0), .val (.int p1), .val (.int (1 : Int32)), .val (.int ch1), .val (.int ch2), .val (.int (2 : Int32)), .val (.int ch3), .val (.int ch4), .val (.ref o_214), .val (.ref o_216), .unset, .unset] [(.ref o_222)])) _
            refine XS.astore X222b.here hx rfl (hb hby at_87) rfl rfl (l' := #[.val (.int p0), .val (.int p1), .val (.int (1 : Int32)), .val (.int ch1), .val (.int ch2), .val (.int (2 : Int32)), .val (.int ch3), .val (.int ch4), .val (.ref o_214), .val (.ref o_216), .val (.ref o_222), .unset]) rfl ?_
            show Steps p.tables e below (T222.setTop (mkF m 89 #[.val (.int p0), .val (.int p1), .val (.int (1 : Int32)), .val (.int ch1), .val (.int ch2), .val (.int (2 : Int32)), .val (.int ch3), .val (.int ch4), .val (.ref o_214), .val (.ref o_216), .val (.ref o_222), .unset] [])) _
            refine XS.aload X222b.here hx rfl (hb hby at_89) rfl rfl ?_
            refine XS.ifnonnullYes X222b.here hx rfl (pc0 := 91) (pc' := 96) rfl (hb hby at_91) rfl (by decide) (by decide) ?_
            show Steps p.tables e below (T222.setTop (mkF m 96 #[.val (.int p0), .val (.int p1), .val (.int (1 : Int32)), .val (.int ch1), .val (.int ch2), .val (.int (2 : Int32)), .val (.int ch3), .val (.int ch4), .val (.ref o_214), .val (.ref o_216), .val (.ref o_222), .unset] [])) _
            refine XS.iloadN X222b.here hx rfl (hb hby at_96) rfl ?_
            refine XS.ifYes X222b.here hx rfl (pc0 := 97) (pc' := 126) rfl (hb hby at_97) rfl ((if0 _ _).trans (feq (by decide : ¬ ((1 : Int32) = (0 : Int32)))).2) (by decide) (by decide) ?_
            show Steps p.tables e below (T222.setTop (mkF m 126 #[.val (.int p0), .val (.int p1), .val (.int (1 : Int32)), .val (.int ch1), .val (.int ch2), .val (.int (2 : Int32)), .val (.int ch3), .val (.int ch4), .val (.ref o_214), .val (.ref o_216), .val (.ref o_222), .unset] [])) _
            refine XS.iloadN X222b.here hx rfl (hb hby at_126) rfl ?_
            refine XS.iconst X222b.here hx rfl (hb hby at_127) ?_
            refine XS.iadd X222b.here hx rfl (hb hby at_128) rfl ?_
            show Steps p.tables e below (T222.setTop (mkF m 129 #[.val (.int p0), .val (.int p1), .val (.int (1 : Int32)), .val (.int ch1), .val (.int ch2), .val (.int (2 : Int32)), .val (.int ch3), .val (.int ch4), .val (.ref o_214), .val (.ref o_216), .val (.ref o_222), .unset] [(.int ((1 : Int32) + (1 : Int32)))])) _
            rw [show ((1 : Int32) + (1 : Int32)) = (2 : Int32) from by decide]
            show Steps p.tables e below (T222.setTop (mkF m 129 #[.val (.int p0), .val (.int p1), .val (.int (1 : Int32)), .val (.int ch1), .val (.int ch2), .val (.int (2 : Int32)), .val (.int ch3), .val (.int ch4), .val (.ref o_214), .val (.ref o_216), .val (.ref o_222), .unset] [(.int (2 : Int32))])) _
            refine XS.iload X222b.here hx rfl (hb hby at_129) rfl ?_
            refine XS.iadd X222b.here hx rfl (hb hby at_131) rfl ?_
            show Steps p.tables e below (T222.setTop (mkF m 132 #[.val (.int p0), .val (.int p1), .val (.int (1 : Int32)), .val (.int ch1), .val (.int ch2), .val (.int (2 : Int32)), .val (.int ch3), .val (.int ch4), .val (.ref o_214), .val (.ref o_216), .val (.ref o_222), .unset] [(.int ((2 : Int32) + (2 : Int32)))])) _
            rw [show ((2 : Int32) + (2 : Int32)) = (4 : Int32) from by decide]
            show Steps p.tables e below (T222.setTop (mkF m 132 #[.val (.int p0), .val (.int p1), .val (.int (1 : Int32)), .val (.int ch1), .val (.int ch2), .val (.int (2 : Int32)), .val (.int ch3), .val (.int ch4), .val (.ref o_214), .val (.ref o_216), .val (.ref o_222), .unset] [(.int (4 : Int32))])) _
            refine XS.istore X222b.here hx rfl (hb hby at_132) rfl (l' := #[.val (.int p0), .val (.int p1), .val (.int (1 : Int32)), .val (.int ch1), .val (.int ch2), .val (.int (2 : Int32)), .val (.int ch3), .val (.int ch4), .val (.ref o_214), .val (.ref o_216), .val (.ref o_222), .val (.int (4 : Int32))]) rfl ?_
            show Steps p.tables e below (T222.setTop (mkF m 134 #[.val (.int p0), .val (.int p1), .val (.int (1 : Int32)), .val (.int ch1), .val (.int ch2), .val (.int (2 : Int32)), .val (.int ch3), .val (.int ch4), .val (.ref o_214), .val (.ref o_216), .val (.ref o_222), .val (.int (4 : Int32))] [])) _
            refine XS.aload X222b.here hx rfl (hb hby at_134) rfl rfl ?_
            show Steps p.tables e below (T222.setTop (mkF m 136 #[.val (.int p0), .val (.int p1), .val (.int (1 : Int32)), .val (.int ch1), .val (.int ch2), .val (.int (2 : Int32)), .val (.int ch3), .val (.int ch4), .val (.ref o_214), .val (.ref o_216), .val (.ref o_222), .val (.int (4 : Int32))] [(.ref o_222)])) _
            refine st229.trans ?_
            show Steps p.tables e below (T229.setTop (mkF m 139 #[.val (.int p0), .val (.int p1), .val (.int (1 : Int32)), .val (.int ch1), .val (.int ch2), .val (.int (2 : Int32)), .val (.int ch3), .val (.int ch4), .val (.ref o_214), .val (.ref o_216), .val (.ref o_222), .val (.int (4 : Int32))] [(.int (4 : Int32))])) _
            refine XS.iload X229.here hx rfl (hb hby at_139) rfl ?_
            refine XS.icmpYes X229.here hx rfl (pc0 := 141) (pc' := 146) rfl (hb hby at_141) rfl (teq (by decide : (4 : Int32) = (4 : Int32))).1 (by decide) (by decide) ?_
            show Steps p.tables e below (T229.setTop (mkF m 146 #[.val (.int p0), .val (.int p1), .val (.int (1 : Int32)), .val (.int ch1), .val (.int ch2), .val (.int (2 : Int32)), .val (.int ch3), .val (.int ch4), .val (.ref o_214), .val (.ref o_216), .val (.ref o_222), .val (.int (4 : Int32))] [])) _
            refine XS.iconst X229.here hx rfl (hb hby at_146) ?_
            refine XS.iload X229.here hx rfl (hb hby at_147) rfl ?_
            refine XS.icmpNo X229.here hx rfl (hb hby at_149) rfl (tlt (by decide : (0 : Int32) < (4 : Int32))).2.1 ?_
            show Steps p.tables e below (T229.setTop (mkF m 152 #[.val (.int p0), .val (.int p1), .val (.int (1 : Int32)), .val (.int ch1), .val (.int ch2), .val (.int (2 : Int32)), .val (.int ch3), .val (.int ch4), .val (.ref o_214), .val (.ref o_216), .val (.ref o_222), .val (.int (4 : Int32))] [])) _
            refine XS.aload X229.here hx rfl (hb hby at_152) rfl rfl ?_
            refine XS.iconst X229.here hx rfl (hb hby at_154) ?_
            show Steps p.tables e below (T229.setTop (mkF m 155 #[.val (.int p0), .val (.int p1), .val (.int (1 : Int32)), .val (.int ch1), .val (.int ch2), .val (.int (2 : Int32)), .val (.int ch3), .val (.int ch4), .val (.ref o_214), .val (.ref o_216), .val (.ref o_222), .val (.int (4 : Int32))] [(.int (0 : Int32)), (.ref o_222)])) _
            refine st233.trans ?_
            show Steps p.tables e below (T233.setTop (mkF m 158 #[.val (.int p0), .val (.int p1), .val (.int (1 : Int32)), .val (.int ch1), .val (.int ch2), .val (.int (2 : Int32)), .val (.int ch3), .val (.int ch4), .val (.ref o_214), .val (.ref o_216), .val (.ref o_222), .val (.int (4 : Int32))] [(.int ch1)])) _
            refine XS.iconst X233.here hx rfl (hb hby at_158) ?_
            refine XS.iloadN X233.here hx rfl (hb hby at_159) rfl ?_
            refine XS.iloadN X233.here hx rfl (hb hby at_160) rfl ?_
            refine XS.iload X233.here hx rfl (hb hby at_161) rfl ?_
            show Steps p.tables e below (T233.setTop (mkF m 163 #[.val (.int p0), .val (.int p1), .val (.int (1 : Int32)), .val (.int ch1), .val (.int ch2), .val (.int (2 : Int32)), .val (.int ch3), .val (.int ch4), .val (.ref o_214), .val (.ref o_216), .val (.ref o_222), .val (.int (4 : Int32))] [(.int ch2), (.int ch1), (.int (1 : Int32)), (.int (0 : Int32)), (.int ch1)])) _
            refine XS.iload X233.here hx rfl (hb hby at_163) rfl ?_
            refine XS.iload X233.here hx rfl (hb hby at_165) rfl ?_
            show Steps p.tables e below (T233.setTop (mkF m 167 #[.val (.int p0), .val (.int p1), .val (.int (1 : Int32)), .val (.int ch1), .val (.int ch2), .val (.int (2 : Int32)), .val (.int ch3), .val (.int ch4), .val (.ref o_214), .val (.ref o_216), .val (.ref o_222), .val (.int (4 : Int32))] [(.int ch4), (.int ch3), (.int ch2), (.int ch1), (.int (1 : Int32)), (.int (0 : Int32)), (.int ch1)])) _
            refine st234 _ ?_
            show Steps p.tables e below (T234.setTop (mkF m 170 #[.val (.int p0), .val (.int p1), .val (.int (1 : Int32)), .val (.int ch1), .val (.int ch2), .val (.int (2 : Int32)), .val (.int ch3), .val (.int ch4), .val (.ref o_214), .val (.ref o_216), .val (.ref o_222), .val (.int (4 : Int32))] [(.int ch1), (.int ch1)])) _
            refine XS.icmpYes X234.here hx rfl (pc0 := 170) (pc' := 175) rfl (hb hby at_170) rfl (teq (rfl : ch1 = ch1)).1 (by decide) (by decide) ?_
            show Steps p.tables e below (T234.setTop (mkF m 175 #[.val (.int p0), .val (.int p1), .val (.int (1 : Int32)), .val (.int ch1), .val (.int ch2), .val (.int (2 : Int32)), .val (.int ch3), .val (.int ch4), .val (.ref o_214), .val (.ref o_216), .val (.ref o_222), .val (.int (4 : Int32))] [])) _
            refine XS.iconst X234.here hx rfl (hb hby at_175) ?_
            refine XS.iload X234.here hx rfl (hb hby at_176) rfl ?_
            refine XS.icmpNo X234.here hx rfl (hb hby at_178) rfl (tlt (by decide : (1 : Int32) < (4 : Int32))).2.1 ?_
            show Steps p.tables e below (T234.setTop (mkF m 181 #[.val (.int p0), .val (.int p1), .val (.int (1 : Int32)), .val (.int ch1), .val (.int ch2), .val (.int (2 : Int32)), .val (.int ch3), .val (.int ch4), .val (.ref o_214), .val (.ref o_216), .val (.ref o_222), .val (.int (4 : Int32))] [])) _
            refine XS.aload X234.here hx rfl (hb hby at_181) rfl rfl ?_
            refine XS.iconst X234.here hx rfl (hb hby at_183) ?_
            show Steps p.tables e below (T234.setTop (mkF m 184 #[.val (.int p0), .val (.int p1), .val (.int (1 : Int32)), .val (.int ch1), .val (.int ch2), .val (.int (2 : Int32)), .val (.int ch3), .val (.int ch4), .val (.ref o_214), .val (.ref o_216), .val (.ref o_222), .val (.int (4 : Int32))] [(.int (1 : Int32)), (.ref o_222)])) _
            refine st236.trans ?_
            show Steps p.tables e below (T236.setTop (mkF m 187 #[.val (.int p0), .val (.int p1), .val (.int (1 : Int32)), .val (.int ch1), .val (.int ch2), .val (.int (2 : Int32)), .val (.int ch3), .val (.int ch4), .val (.ref o_214), .val (.ref o_216), .val (.ref o_222), .val (.int (4 : Int32))] [(.int (46 : Int32))])) _
            refine XS.iconst X236.here hx rfl (hb hby at_187) ?_
            refine XS.iloadN X236.here hx rfl (hb hby at_188) rfl ?_
            refine XS.iloadN X236.here hx rfl (hb hby at_189) rfl ?_
            refine XS.iload X236.here hx rfl (hb hby at_190) rfl ?_
            show Steps p.tables e below (T236.setTop (mkF m 192 #[.val (.int p0), .val (.int p1), .val (.int (1 : Int32)), .val (.int ch1), .val (.int ch2), .val (.int (2 : Int32)), .val (.int ch3), .val (.int ch4), .val (.ref o_214), .val (.ref o_216), .val (.ref o_222), .val (.int (4 : Int32))] [(.int ch2), (.int ch1), (.int (1 : Int32)), (.int (1 : Int32)), (.int (46 : Int32))])) _
            refine XS.iload X236.here hx rfl (hb hby at_192) rfl ?_
            refine XS.iload X236.here hx rfl (hb hby at_194) rfl ?_
            show Steps p.tables e below (T236.setTop (mkF m 196 #[.val (.int p0), .val (.int p1), .val (.int (1 : Int32)), .val (.int ch1), .val (.int ch2), .val (.int (2 : Int32)), .val (.int ch3), .val (.int ch4), .val (.ref o_214), .val (.ref o_216), .val (.ref o_222), .val (.int (4 : Int32))] [(.int ch4), (.int ch3), (.int ch2), (.int ch1), (.int (1 : Int32)), (.int (1 : Int32)), (.int (46 : Int32))])) _
            refine st237 _ ?_
            show Steps p.tables e below (T237.setTop (mkF m 199 #[.val (.int p0), .val (.int p1), .val (.int (1 : Int32)), .val (.int ch1), .val (.int ch2), .val (.int (2 : Int32)), .val (.int ch3), .val (.int ch4), .val (.ref o_214), .val (.ref o_216), .val (.ref o_222), .val (.int (4 : Int32))] [(.int (46 : Int32)), (.int (46 : Int32))])) _
            refine XS.icmpYes X237.here hx rfl (pc0 := 199) (pc' := 204) rfl (hb hby at_199) rfl (teq (by decide : (46 : Int32) = (46 : Int32))).1 (by decide) (by decide) ?_
            show Steps p.tables e below (T237.setTop (mkF m 204 #[.val (.int p0), .val (.int p1), .val (.int (1 : Int32)), .val (.int ch1), .val (.int ch2), .val (.int (2 : Int32)), .val (.int ch3), .val (.int ch4), .val (.ref o_214), .val (.ref o_216), .val (.ref o_222), .val (.int (4 : Int32))] [])) _
            refine XS.iconst X237.here hx rfl (hb hby at_204) ?_
            refine XS.iload X237.here hx rfl (hb hby at_205) rfl ?_
            refine XS.icmpNo X237.here hx rfl (hb hby at_207) rfl (tlt (by decide : (2 : Int32) < (4 : Int32))).2.1 ?_
            show Steps p.tables e below (T237.setTop (mkF m 210 #[.val (.int p0), .val (.int p1), .val (.int (1 : Int32)), .val (.int ch1), .val (.int ch2), .val (.int (2 : Int32)), .val (.int ch3), .val (.int ch4), .val (.ref o_214), .val (.ref o_216), .val (.ref o_222), .val (.int (4 : Int32))] [])) _
            refine XS.aload X237.here hx rfl (hb hby at_210) rfl rfl ?_
            refine XS.iconst X237.here hx rfl (hb hby at_212) ?_
            show Steps p.tables e below (T237.setTop (mkF m 213 #[.val (.int p0), .val (.int p1), .val (.int (1 : Int32)), .val (.int ch1), .val (.int ch2), .val (.int (2 : Int32)), .val (.int ch3), .val (.int ch4), .val (.ref o_214), .val (.ref o_216), .val (.ref o_222), .val (.int (4 : Int32))] [(.int (2 : Int32)), (.ref o_222)])) _
            refine st239.trans ?_
            show Steps p.tables e below (T239.setTop (mkF m 216 #[.val (.int p0), .val (.int p1), .val (.int (1 : Int32)), .val (.int ch1), .val (.int ch2), .val (.int (2 : Int32)), .val (.int ch3), .val (.int ch4), .val (.ref o_214), .val (.ref o_216), .val (.ref o_222), .val (.int (4 : Int32))] [(.int ch3)])) _
            refine XS.iconst X239.here hx rfl (hb hby at_216) ?_
            refine XS.iloadN X239.here hx rfl (hb hby at_217) rfl ?_
            refine XS.iloadN X239.here hx rfl (hb hby at_218) rfl ?_
            refine XS.iload X239.here hx rfl (hb hby at_219) rfl ?_
            show Steps p.tables e below (T239.setTop (mkF m 221 #[.val (.int p0), .val (.int p1), .val (.int (1 : Int32)), .val (.int ch1), .val (.int ch2), .val (.int (2 : Int32)), .val (.int ch3), .val (.int ch4), .val (.ref o_214), .val (.ref o_216), .val (.ref o_222), .val (.int (4 : Int32))] [(.int ch2), (.int ch1), (.int (1 : Int32)), (.int (2 : Int32)), (.int ch3)])) _
            refine XS.iload X239.here hx rfl (hb hby at_221) rfl ?_
            refine XS.iload X239.here hx rfl (hb hby at_223) rfl ?_
            show Steps p.tables e below (T239.setTop (mkF m 225 #[.val (.int p0), .val (.int p1), .val (.int (1 : Int32)), .val (.int ch1), .val (.int ch2), .val (.int (2 : Int32)), .val (.int ch3), .val (.int ch4), .val (.ref o_214), .val (.ref o_216), .val (.ref o_222), .val (.int (4 : Int32))] [(.int ch4), (.int ch3), (.int ch2), (.int ch1), (.int (1 : Int32)), (.int (2 : Int32)), (.int ch3)])) _
            refine st240 _ ?_
            show Steps p.tables e below (T240.setTop (mkF m 228 #[.val (.int p0), .val (.int p1), .val (.int (1 : Int32)), .val (.int ch1), .val (.int ch2), .val (.int (2 : Int32)), .val (.int ch3), .val (.int ch4), .val (.ref o_214), .val (.ref o_216), .val (.ref o_222), .val (.int (4 : Int32))] [(.int ch3), (.int ch3)])) _
            refine XS.icmpYes X240.here hx rfl (pc0 := 228) (pc' := 233) rfl (hb hby at_228) rfl (teq (rfl : ch3 = ch3)).1 (by decide) (by decide) ?_
            show Steps p.tables e below (T240.setTop (mkF m 233 #[.val (.int p0), .val (.int p1), .val (.int (1 : Int32)), .val (.int ch1), .val (.int ch2), .val (.int (2 : Int32)), .val (.int ch3), .val (.int ch4), .val (.ref o_214), .val (.ref o_216), .val (.ref o_222), .val (.int (4 : Int32))] [])) _
            refine XS.iconst X240.here hx rfl (hb hby at_233) ?_
            refine XS.iload X240.here hx rfl (hb hby at_234) rfl ?_
            refine XS.icmpNo X240.here hx rfl (hb hby at_236) rfl (tlt (by decide : (3 : Int32) < (4 : Int32))).2.1 ?_
            show Steps p.tables e below (T240.setTop (mkF m 239 #[.val (.int p0), .val (.int p1), .val (.int (1 : Int32)), .val (.int ch1), .val (.int ch2), .val (.int (2 : Int32)), .val (.int ch3), .val (.int ch4), .val (.ref o_214), .val (.ref o_216), .val (.ref o_222), .val (.int (4 : Int32))] [])) _
            refine XS.aload X240.here hx rfl (hb hby at_239) rfl rfl ?_
            refine XS.iconst X240.here hx rfl (hb hby at_241) ?_
            show Steps p.tables e below (T240.setTop (mkF m 242 #[.val (.int p0), .val (.int p1), .val (.int (1 : Int32)), .val (.int ch1), .val (.int ch2), .val (.int (2 : Int32)), .val (.int ch3), .val (.int ch4), .val (.ref o_214), .val (.ref o_216), .val (.ref o_222), .val (.int (4 : Int32))] [(.int (3 : Int32)), (.ref o_222)])) _
            refine st242.trans ?_
            show Steps p.tables e below (T242.setTop (mkF m 245 #[.val (.int p0), .val (.int p1), .val (.int (1 : Int32)), .val (.int ch1), .val (.int ch2), .val (.int (2 : Int32)), .val (.int ch3), .val (.int ch4), .val (.ref o_214), .val (.ref o_216), .val (.ref o_222), .val (.int (4 : Int32))] [(.int ch4)])) _
            refine XS.iconst X242.here hx rfl (hb hby at_245) ?_
            refine XS.iloadN X242.here hx rfl (hb hby at_246) rfl ?_
            refine XS.iloadN X242.here hx rfl (hb hby at_247) rfl ?_
            refine XS.iload X242.here hx rfl (hb hby at_248) rfl ?_
            show Steps p.tables e below (T242.setTop (mkF m 250 #[.val (.int p0), .val (.int p1), .val (.int (1 : Int32)), .val (.int ch1), .val (.int ch2), .val (.int (2 : Int32)), .val (.int ch3), .val (.int ch4), .val (.ref o_214), .val (.ref o_216), .val (.ref o_222), .val (.int (4 : Int32))] [(.int ch2), (.int ch1), (.int (1 : Int32)), (.int (3 : Int32)), (.int ch4)])) _
            refine XS.iload X242.here hx rfl (hb hby at_250) rfl ?_
            refine XS.iload X242.here hx rfl (hb hby at_252) rfl ?_
            show Steps p.tables e below (T242.setTop (mkF m 254 #[.val (.int p0), .val (.int p1), .val (.int (1 : Int32)), .val (.int ch1), .val (.int ch2), .val (.int (2 : Int32)), .val (.int ch3), .val (.int ch4), .val (.ref o_214), .val (.ref o_216), .val (.ref o_222), .val (.int (4 : Int32))] [(.int ch4), (.int ch3), (.int ch2), (.int ch1), (.int (1 : Int32)), (.int (3 : Int32)), (.int ch4)])) _
            refine st243 _ ?_
            show Steps p.tables e below (T243.setTop (mkF m 257 #[.val (.int p0), .val (.int p1), .val (.int (1 : Int32)), .val (.int ch1), .val (.int ch2), .val (.int (2 : Int32)), .val (.int ch3), .val (.int ch4), .val (.ref o_214), .val (.ref o_216), .val (.ref o_222), .val (.int (4 : Int32))] [(.int ch4), (.int ch4)])) _
            refine XS.icmpYes X243.here hx rfl (pc0 := 257) (pc' := 262) rfl (hb hby at_257) rfl (teq (rfl : ch4 = ch4)).1 (by decide) (by decide) ?_
            show Steps p.tables e below (T243.setTop (mkF m 262 #[.val (.int p0), .val (.int p1), .val (.int (1 : Int32)), .val (.int ch1), .val (.int ch2), .val (.int (2 : Int32)), .val (.int ch3), .val (.int ch4), .val (.ref o_214), .val (.ref o_216), .val (.ref o_222), .val (.int (4 : Int32))] [])) _
            refine XS.iconst X243.here hx rfl (hb hby at_262) ?_
            refine XS.iload X243.here hx rfl (hb hby at_263) rfl ?_
            refine XS.icmpYes X243.here hx rfl (pc0 := 265) (pc' := 291) rfl (hb hby at_265) rfl (flt (by decide : ¬ ((4 : Int32) < (4 : Int32)))).2.1 (by decide) (by decide) ?_
            show Steps p.tables e below (T243.setTop (mkF m 291 #[.val (.int p0), .val (.int p1), .val (.int (1 : Int32)), .val (.int ch1), .val (.int ch2), .val (.int (2 : Int32)), .val (.int ch3), .val (.int ch4), .val (.ref o_214), .val (.ref o_216), .val (.ref o_222), .val (.int (4 : Int32))] [])) _
            refine XS.iconst X243.here hx rfl (hb hby at_291) ?_
            show Steps p.tables e below (T243.setTop (mkF m 292 #[.val (.int p0), .val (.int p1), .val (.int (1 : Int32)), .val (.int ch1), .val (.int ch2), .val (.int (2 : Int32)), .val (.int ch3), .val (.int ch4), .val (.ref o_214), .val (.ref o_216), .val (.ref o_222), .val (.int (4 : Int32))] [(.int (1 : Int32))])) _
            exact Jvm.RoadKit.retOut X243 hx Bd.returns rfl (Or.inl ⟨rfl, by simp, _, rfl⟩) (hb hby at_292) hr
          · show Q_rm0 Z p0 p1 zc fm h0 n0 _ T243.heap _
            rw [e243]
            unfold Q_rm0
            exact ⟨rfl, N243, K246⟩
    · have S250 : ∀ t, Steps p.tables e below (s₁.setTop (mkF m 39 #[.val (.int p0), .val (.int p1), .val (.int (2 : Int32)), .val (.int ((p0 &&& (255 : Int32)).toUInt32.toUInt16.toUInt32.toInt32)), .val (.int ((((p0.toUInt32 >>> ((8 : Int32) &&& 31).toUInt32).toInt32) &&& (255 : Int32)).toUInt32.toUInt16.toUInt32.toInt32)), .unset, .unset, .unset, .unset, .unset, .unset, .unset] [(.int ((((p1.toUInt32 >>> ((16 : Int32) &&& 31).toUInt32).toInt32) &&& (255 : Int32)) % (3 : Int32)))])) t → Steps p.tables e below (s₁.setTop (entryFrame m #[(.int p0), (.int p1)] maxLocals)) t := fun t k => by
        refine S103 t ?_
        show Steps p.tables e below (s₁.setTop (mkF m 10 #[.val (.int p0), .val (.int p1), .unset, .unset, .unset, .unset, .unset, .unset, .unset, .unset, .unset, .unset] [(.int ((((p0.toUInt32 >>> ((16 : Int32) &&& 31).toUInt32).toInt32) &&& (255 : Int32)) % (3 : Int32)))])) _
        rw [(show ((((p0.toUInt32 >>> ((16 : Int32) &&& 31).toUInt32).toInt32) &&& (255 : Int32)) % (3 : Int32)) = (2 : Int32) from ((own_r3 ((p0.toUInt32 >>> ((16 : Int32) &&& 31).toUInt32).toInt32)).resolve_left hr101).resolve_left hr102)]
        show Steps p.tables e below (s₁.setTop (mkF m 10 #[.val (.int p0), .val (.int p1), .unset, .unset, .unset, .unset, .unset, .unset, .unset, .unset, .unset, .unset] [(.int (2 : Int32))])) _
        refine XS.istoreN X0.here hx rfl (hb hby at_10) rfl (l' := #[.val (.int p0), .val (.int p1), .val (.int (2 : Int32)), .unset, .unset, .unset, .unset, .unset, .unset, .unset, .unset, .unset]) rfl ?_
        show Steps p.tables e below (s₁.setTop (mkF m 11 #[.val (.int p0), .val (.int p1), .val (.int (2 : Int32)), .unset, .unset, .unset, .unset, .unset, .unset, .unset, .unset, .unset] [])) _
        refine XS.iloadN X0.here hx rfl (hb hby at_11) rfl ?_
        refine XS.sipush X0.here hx rfl (hb hby at_12) ?_
        refine XS.iand X0.here hx rfl (hb hby at_15) rfl ?_
        show Steps p.tables e below (s₁.setTop (mkF m 16 #[.val (.int p0), .val (.int p1), .val (.int (2 : Int32)), .unset, .unset, .unset, .unset, .unset, .unset, .unset, .unset, .unset] [(.int (p0 &&& (255 : Int32)))])) _
        refine XS.i2c X0.here hx rfl (hb hby at_16) rfl ?_
        show Steps p.tables e below (s₁.setTop (mkF m 17 #[.val (.int p0), .val (.int p1), .val (.int (2 : Int32)), .unset, .unset, .unset, .unset, .unset, .unset, .unset, .unset, .unset] [(.int ((p0 &&& (255 : Int32)).toUInt32.toUInt16.toUInt32.toInt32))])) _
        refine XS.istoreN X0.here hx rfl (hb hby at_17) rfl (l' := #[.val (.int p0), .val (.int p1), .val (.int (2 : Int32)), .val (.int ((p0 &&& (255 : Int32)).toUInt32.toUInt16.toUInt32.toInt32)), .unset, .unset, .unset, .unset, .unset, .unset, .unset, .unset]) rfl ?_
        show Steps p.tables e below (s₁.setTop (mkF m 18 #[.val (.int p0), .val (.int p1), .val (.int (2 : Int32)), .val (.int ((p0 &&& (255 : Int32)).toUInt32.toUInt16.toUInt32.toInt32)), .unset, .unset, .unset, .unset, .unset, .unset, .unset, .unset] [])) _
        refine XS.iloadN X0.here hx rfl (hb hby at_18) rfl ?_
        refine XS.bipush X0.here hx rfl (hb hby at_19) ?_
        refine XS.iushr X0.here hx rfl (hb hby at_21) rfl ?_
        show Steps p.tables e below (s₁.setTop (mkF m 22 #[.val (.int p0), .val (.int p1), .val (.int (2 : Int32)), .val (.int ((p0 &&& (255 : Int32)).toUInt32.toUInt16.toUInt32.toInt32)), .unset, .unset, .unset, .unset, .unset, .unset, .unset, .unset] [(.int ((p0.toUInt32 >>> ((8 : Int32) &&& 31).toUInt32).toInt32))])) _
        refine XS.sipush X0.here hx rfl (hb hby at_22) ?_
        refine XS.iand X0.here hx rfl (hb hby at_25) rfl ?_
        show Steps p.tables e below (s₁.setTop (mkF m 26 #[.val (.int p0), .val (.int p1), .val (.int (2 : Int32)), .val (.int ((p0 &&& (255 : Int32)).toUInt32.toUInt16.toUInt32.toInt32)), .unset, .unset, .unset, .unset, .unset, .unset, .unset, .unset] [(.int (((p0.toUInt32 >>> ((8 : Int32) &&& 31).toUInt32).toInt32) &&& (255 : Int32)))])) _
        refine XS.i2c X0.here hx rfl (hb hby at_26) rfl ?_
        show Steps p.tables e below (s₁.setTop (mkF m 27 #[.val (.int p0), .val (.int p1), .val (.int (2 : Int32)), .val (.int ((p0 &&& (255 : Int32)).toUInt32.toUInt16.toUInt32.toInt32)), .unset, .unset, .unset, .unset, .unset, .unset, .unset, .unset] [(.int ((((p0.toUInt32 >>> ((8 : Int32) &&& 31).toUInt32).toInt32) &&& (255 : Int32)).toUInt32.toUInt16.toUInt32.toInt32))])) _
        refine XS.istore X0.here hx rfl (hb hby at_27) rfl (l' := #[.val (.int p0), .val (.int p1), .val (.int (2 : Int32)), .val (.int ((p0 &&& (255 : Int32)).toUInt32.toUInt16.toUInt32.toInt32)), .val (.int ((((p0.toUInt32 >>> ((8 : Int32) &&& 31).toUInt32).toInt32) &&& (255 : Int32)).toUInt32.toUInt16.toUInt32.toInt32)), .unset, .unset, .unset, .unset, .unset, .unset, .unset]) rfl ?_
        show Steps p.tables e below (s₁.setTop (mkF m 29 #[.val (.int p0), .val (.int p1), .val (.int (2 : Int32)), .val (.int ((p0 &&& (255 : Int32)).toUInt32.toUInt16.toUInt32.toInt32)), .val (.int ((((p0.toUInt32 >>> ((8 : Int32) &&& 31).toUInt32).toInt32) &&& (255 : Int32)).toUInt32.toUInt16.toUInt32.toInt32)), .unset, .unset, .unset, .unset, .unset, .unset, .unset] [])) _
        refine XS.iloadN X0.here hx rfl (hb hby at_29) rfl ?_
        refine XS.bipush X0.here hx rfl (hb hby at_30) ?_
        refine XS.iushr X0.here hx rfl (hb hby at_32) rfl ?_
        show Steps p.tables e below (s₁.setTop (mkF m 33 #[.val (.int p0), .val (.int p1), .val (.int (2 : Int32)), .val (.int ((p0 &&& (255 : Int32)).toUInt32.toUInt16.toUInt32.toInt32)), .val (.int ((((p0.toUInt32 >>> ((8 : Int32) &&& 31).toUInt32).toInt32) &&& (255 : Int32)).toUInt32.toUInt16.toUInt32.toInt32)), .unset, .unset, .unset, .unset, .unset, .unset, .unset] [(.int ((p1.toUInt32 >>> ((16 : Int32) &&& 31).toUInt32).toInt32))])) _
        refine XS.sipush X0.here hx rfl (hb hby at_33) ?_
        refine XS.iand X0.here hx rfl (hb hby at_36) rfl ?_
        show Steps p.tables e below (s₁.setTop (mkF m 37 #[.val (.int p0), .val (.int p1), .val (.int (2 : Int32)), .val (.int ((p0 &&& (255 : Int32)).toUInt32.toUInt16.toUInt32.toInt32)), .val (.int ((((p0.toUInt32 >>> ((8 : Int32) &&& 31).toUInt32).toInt32) &&& (255 : Int32)).toUInt32.toUInt16.toUInt32.toInt32)), .unset, .unset, .unset, .unset, .unset, .unset, .unset] [(.int (((p1.toUInt32 >>> ((16 : Int32) &&& 31).toUInt32).toInt32) &&& (255 : Int32)))])) _
        refine XS.iconst X0.here hx rfl (hb hby at_37) ?_
        show Steps p.tables e below (s₁.setTop (mkF m 38 #[.val (.int p0), .val (.int p1), .val (.int (2 : Int32)), .val (.int ((p0 &&& (255 : Int32)).toUInt32.toUInt16.toUInt32.toInt32)), .val (.int ((((p0.toUInt32 >>> ((8 : Int32) &&& 31).toUInt32).toInt32) &&& (255 : Int32)).toUInt32.toUInt16.toUInt32.toInt32)), .unset, .unset, .unset, .unset, .unset, .unset, .unset] [(.int (3 : Int32)), (.int (((p1.toUInt32 >>> ((16 : Int32) &&& 31).toUInt32).toInt32) &&& (255 : Int32)))])) _
        refine Jvm.RoadKit.iremM (g := (mkF m 38 #[.val (.int p0), .val (.int p1), .val (.int (2 : Int32)), .val (.int ((p0 &&& (255 : Int32)).toUInt32.toUInt16.toUInt32.toInt32)), .val (.int ((((p0.toUInt32 >>> ((8 : Int32) &&& 31).toUInt32).toInt32) &&& (255 : Int32)).toUInt32.toUInt16.toUInt32.toInt32)), .unset, .unset, .unset, .unset, .unset, .unset, .unset] [(.int (3 : Int32)), (.int (((p1.toUInt32 >>> ((16 : Int32) &&& 31).toUInt32).toInt32) &&& (255 : Int32)))])) X0 hx rfl (hb hby at_38) rfl (by decide) ?_
        exact k
      by_cases hr248 : ((((p1.toUInt32 >>> ((16 : Int32) &&& 31).toUInt32).toInt32) &&& (255 : Int32)) % (3 : Int32)) = (0 : Int32)
      · obtain ⟨ch1, ech1, gch1⟩ : ∃ z, z = ((p0 &&& (255 : Int32)).toUInt32.toUInt16.toUInt32.toInt32) ∧ C8 z := ⟨_, rfl, own_ch8 _⟩
        obtain ⟨ch2, ech2, gch2⟩ : ∃ z, z = ((((p0.toUInt32 >>> ((8 : Int32) &&& 31).toUInt32).toInt32) &&& (255 : Int32)).toUInt32.toUInt16.toUInt32.toInt32) ∧ C8 z := ⟨_, rfl, own_ch8 _⟩
        obtain ⟨ch3, ech3, gch3⟩ : ∃ z, z = ((p1 &&& (255 : Int32)).toUInt32.toUInt16.toUInt32.toInt32) ∧ C8 z := ⟨_, rfl, own_ch8 _⟩
        obtain ⟨ch4, ech4, gch4⟩ : ∃ z, z = ((((p1.toUInt32 >>> ((8 : Int32) &&& 31).toUInt32).toInt32) &&& (255 : Int32)).toUInt32.toUInt16.toUInt32.toInt32) ∧ C8 z := ⟨_, rfl, own_ch8 _⟩
        obtain ⟨_, _, ⟨T251, L251, k251, n251⟩, -, X251, ⟨Lc251, hQ251, l251, y251, z251⟩, st251⟩ := Jvm.LawKit.callS X0 hx (y := (⟨"com/example/syndex/syndex/SectionKeyPathPinLaw", "mk", "(ICC)Ljava/lang/String;"⟩ : MethodName)) hown (mvT hZ (hwk hw 0 rfl)) (mvT hZ (hwk hw 1 rfl)) (mvT hZ (hwk hw 2 rfl)) (mvT hZ (hwk hw 3 rfl)) (by decide) (backOf (W := 0) (mk2 l Z a0 hw [] ch1 ch2 zc h0 n0 O0 gch1 gch2 SZ PZ) hZ (hwk hw 3 rfl) (hwk hw 2 rfl) (by decide) (by decide)) (g := (mkF m 64 #[.val (.int p0), .val (.int p1), .val (.int (2 : Int32)), .val (.int ch1), .val (.int ch2), .val (.int (0 : Int32)), .val (.int ch3), .val (.int ch4), .unset, .unset, .unset, .unset] [(.int ch2), (.int ch1), (.int (2 : Int32))])) rfl (by rw [hml]; rfl) (argsL := [(.int (2 : Int32)), (.int ch1), (.int ch2)]) (rest := []) (lenOf pd_23 rfl) rfl (by show 2 * 0 + _ ≤ _; exact Nat.le_of_eq rfl) (hb hby at_64) (fun _ _ => ⟨rfl, e0, (by decide : 0 + 3 ≤ _), (by decide : 0 + 8 ≤ _)⟩)
        dsimp only [Pt.U, Pt.locs, Pt.cells, Pt.slots] at X251 l251 y251 z251 st251 hQ251
        subst l251 y251 z251
        unfold Q_mk2 at hQ251
        obtain ⟨o_251, t_251, kb_251, rfl, N251q, K251, ge_o_251, f251_0, f251_1, f251_2, f251_3⟩ := hQ251
        have N251 := Fr.app N0 N251q
        have g_o_251 : n0 ≤ o_251 := Nat.le_trans (old_le O0) ge_o_251
        have O252 : Old Z n0 T251.heap := Old.keep O0 K251 all0
        have CR254 : CHr Z consts_1 s.vm h0 s.vm T251.heap := CHr.trans CR0 (CHr.keep K251 all0 CR0.1)
        obtain ⟨_, _, ⟨T253, L253, k253, n253⟩, -, X253, hs253', hg253', ⟨Lc253, hQ253, l253, y253, z253, CX253⟩, st253⟩ := Jvm.RoadKit.callSS X251 hx (y := (⟨"com/example/syndex/syndex/SectionKeyPathPinLaw", "mk", "(ICC)Ljava/lang/String;"⟩ : MethodName)) hown (mvT hZ (hwk hw 0 rfl)) (mvT hZ (hwk hw 1 rfl)) (mvT hZ (hwk hw 2 rfl)) (mvT hZ (hwk hw 3 rfl)) (by decide) (own_backSH (W := 0) (mk0 l Z a0 hw [] ch3 ch4 zc T251.heap n0 O252 gch3 gch4 SZ PZ) hZ (hwk hw 3 rfl) (hwk hw 2 rfl) (by decide) (by decide) hEL CR254.1 (fun _ q => nomatch q)) (g := (mkF m 75 #[.val (.int p0), .val (.int p1), .val (.int (2 : Int32)), .val (.int ch1), .val (.int ch2), .val (.int (0 : Int32)), .val (.int ch3), .val (.int ch4), .val (.ref o_251), .unset, .unset, .unset] [(.int ch4), (.int ch3), (.int (0 : Int32))])) rfl (by rw [hml]; rfl) (argsL := [(.int (0 : Int32)), (.int ch3), (.int ch4)]) (rest := []) (lenOf pd_23 rfl) rfl (by show 2 * 0 + _ ≤ _; exact Nat.le_of_eq rfl) (hb hby at_75) (fun _ _ => ⟨rfl, (rfl : T251.heap = T251.heap), (by decide : 3 + 6 ≤ _), (by decide : 8 + 12 ≤ _)⟩)
        dsimp only [Pt.U, Pt.locs, Pt.cells, Pt.slots] at X253 l253 y253 z253 st253 hQ253 hs253' hg253' CX253
        subst l253 y253 z253
        obtain ⟨X253b, hS253, hZ253, hown253⟩ := rebS hS0 (show _ ≤ T251.heap.size from by rw [(rfl : T251.heap = T251.heap)]; exact (Nat.le_trans (Nat.le_refl _) (Nat.le_trans (Nat.le_refl _) K251.1))) X253 hs253' hg253' hZ hown
        unfold Q_mk0 at hQ253
        obtain ⟨o_253, t_253, kb_253, rfl, N253q, K253, ge_o_253, f253_0, f253_1, f253_2, f253_3⟩ := hQ253
        have N253 := Fr.app N251 N253q
        have g_o_253 : n0 ≤ o_253 := Nat.le_trans (old_le O252) ge_o_253
        have c255 : Exa Z T253.heap o_251 "java/lang/String" := (Exa.keep f251_0 K253)
        have c256 : Fld Z T253.heap o_251 "java/lang/String" "value" "[B" (.ref t_251) := (Fld.keep f251_1 K253 nin0)
        have c257 : Fld Z T253.heap o_251 "java/lang/String" "coder" "B" (.int (0 : Int32)) := (Fld.keep f251_2 K253 nin0)
        have c258 : Arv Z T253.heap t_251 kb_251 .byte (2 : Int32) [(.int (BY ch1)), (.int (BY ch2))] (.int (0 : Int32)) := (Arv.keep f251_3 K253 nin0)
        have O259 : Old Z n0 T253.heap := Old.keep O252 K253 all0
        have CR261 : CHr Z consts_1 s.vm h0 T253.vm T253.heap := CHr.trans CR254 CX253
        obtain ⟨_, _, ⟨T260, L260, k260, n260⟩, -, X260, hs260', hg260', ⟨Lc260, hQ260, l260, y260, z260, CX260⟩, st260⟩ := Jvm.RoadKit.callSS X253b hx (y := (⟨"com/example/syndex/syndex/Section", "keyPath", "(Ljava/lang/String;Ljava/lang/String;)Ljava/lang/String;"⟩ : MethodName)) hown253 (mvT hZ253 (hwk hw 26 rfl)) (mvT hZ253 (hwk hw 27 rfl)) (mvT hZ253 (hwk hw 28 rfl)) (mvT hZ253 (hwk hw 29 rfl)) (by decide) (own_backSH (W := 0) (kp1 l Z a0 hw [] o_251 t_251 kb_251 (2 : Int32) ([(.int (BY ch1)), (.int (BY ch2))]) o_253 t_253 kb_253 (0 : Int32) [] zc T253.heap n0 O259 c255 c256 c257 c258 f253_0 f253_1 f253_2 f253_3 (by decide) (by decide) rfl rfl SZ PZ) hZ253 (hwk hw 29 rfl) (hwk hw 28 rfl) (by decide) (by decide) hEL CR261.1 (fun _ q => nomatch q)) (g := (mkF m 84 #[.val (.int p0), .val (.int p1), .val (.int (2 : Int32)), .val (.int ch1), .val (.int ch2), .val (.int (0 : Int32)), .val (.int ch3), .val (.int ch4), .val (.ref o_251), .val (.ref o_253), .unset, .unset] [(.ref o_253), (.ref o_251)])) rfl (by rw [hml]; rfl) (argsL := [(.ref o_251), (.ref o_253)]) (rest := []) (lenOf pd_24 rfl) rfl (by show 2 * 0 + _ ≤ _; exact Nat.le_of_eq rfl) (hb hby at_84) (fun _ _ => ⟨rfl, (rfl : T253.heap = T253.heap), (by decide : 9 + 6 ≤ _), (by decide : 20 + 48 ≤ _)⟩)
        dsimp only [Pt.U, Pt.locs, Pt.cells, Pt.slots] at X260 l260 y260 z260 st260 hQ260 hs260' hg260' CX260
        subst l260 y260 z260
        obtain ⟨X260b, hS260, hZ260, hown260⟩ := rebS hS253 (show _ ≤ T253.heap.size from by rw [(rfl : T253.heap = T253.heap)]; exact (Nat.le_refl _)) X260 hs260' hg260' hZ253 hown253
        unfold Q_kp1 at hQ260
        obtain ⟨o_260, t_260, kb_260, rfl, N260q, K260, ge_o_260, f260_0, f260_1, f260_2, f260_3⟩ := hQ260
        have N260 := Fr.app N253 N260q
        have g_o_260 : n0 ≤ o_260 := Nat.le_trans (old_le O259) ge_o_260
        have W264 : Arv Z T260.heap t_260 kb_260 .byte (3 : Int32) [(.int (BY ch1)), (.int (BY ch2)), (.int (46 : Int32))] (.int (0 : Int32)) := own_arv f260_3 rfl
        have hc263 : ∀ c ∈ ([ch1, ch2, (46 : Int32)] : List Int32), ¬ c < 0 ∧ ¬ (255 : Int32) < c := by
          intro c hc
          simp only [List.mem_cons, List.not_mem_nil, or_false] at hc
          rcases hc with rfl | rfl | rfl
          · exact gch1
          · exact gch2
          · exact (by decide)
        have OS262 : OwnStr [ch1, ch2, (46 : Int32)] (3 : Int32) [(.int (BY ch1)), (.int (BY ch2)), (.int (46 : Int32))] := own_s255 hc263 (Nat.le_of_ble_eq_true rfl)
        have O265 : Old Z n0 T260.heap := Old.keep O259 K260 all0
        obtain ⟨cq266, kq266, q266a, q266b, q266c⟩ := isOf hZ260 (rfl : T260.heap = T260.heap) f260_0
        obtain ⟨_, _, ⟨T266, L266, k266, n266⟩, -, X266, ⟨Lc266, hQ266, l266, y266, z266⟩, st266⟩ := X260b.virtualBack hx (y := (⟨"java/lang/String", "length", "()I"⟩ : MethodName)) (z := (⟨"java/lang/String", "length", "()I"⟩ : MethodName)) hown260 (mvT hZ260 (hwk hw 35 rfl)) (mvT hZ260 (hwk hw 36 rfl)) (notFace_of_selects (args := #[]) (mvT hZ260 (hwk hw 38 rfl))) (mvT hZ260 (hwk hw 38 rfl)) (mvT hZ260 (hwk hw 37 rfl)) (by decide) (backOf (W := 0) (rm7 l Z a0 hw [] o_260 t_260 kb_260 (3 : Int32) ([(.int (BY ch1)), (.int (BY ch2)), (.int (46 : Int32))]) zc T260.heap n0 O265 f260_0 f260_1 f260_2 W264 SZ PZ) hZ260 (hwk hw 39 rfl) (hwk hw 6 rfl) (by decide) (by decide)) q266a q266c (g := (mkF m 136 #[.val (.int p0), .val (.int p1), .val (.int (2 : Int32)), .val (.int ch1), .val (.int ch2), .val (.int (0 : Int32)), .val (.int ch3), .val (.int ch4), .val (.ref o_251), .val (.ref o_253), .val (.ref o_260), .val (.int (3 : Int32))] [(.ref o_260)])) rfl (by rw [hml]; rfl) (Steps.refl _) (argsL := []) (rest := []) (lenOf pd_10 rfl) rfl (by show 2 * 0 + _ ≤ _; exact Nat.le_of_eq rfl) (hb hby at_136) (fun _ _ => ⟨rfl, (rfl : T260.heap = T260.heap), (by decide : 15 + 0 ≤ _), (by decide : 68 + 0 ≤ _)⟩)
        dsimp only [Pt.U, Pt.locs, Pt.cells, Pt.slots] at X266 l266 y266 z266 st266 hQ266
        subst l266 y266 z266
        unfold Q_rm7 at hQ266
        obtain ⟨rfl, N266q, e266⟩ := hQ266
        have N266 := Fr.app N260 N266q
        have hws267 : ∀ d ∈ StrChars.Road.wordsChN, d.before a0 Z = true := fun d hd => hw d ((by decide +kernel : ∀ d ∈ StrChars.Road.wordsChN, d ∈ tables_1) d hd)
        have c268 : Sta Z T260.heap "java/lang/String" "COMPACT_STRINGS" "Z" (.int zc) := Sta.ext (O265).2 SZ
        have c269 : Sta Z T260.heap "jdk/internal/util/Preconditions" "SIOOBE_FORMATTER" "Ljava/util/function/BiFunction;" fm := Sta.ext (O265).2 SF
        obtain ⟨cq270, kq270, q270a, q270b, q270c⟩ := isOf hZ260 e266 f260_0
        obtain ⟨_, _, ⟨T270, L270, k270, n270⟩, -, X270, ⟨Lc270, hQ270, l270, y270, z270⟩, st270⟩ := X266.virtualBack hx (y := (⟨"java/lang/String", "charAt", "(I)C"⟩ : MethodName)) (z := (⟨"java/lang/String", "charAt", "(I)C"⟩ : MethodName)) hown260 (mvT hZ260 (hwk hw 163 rfl)) (mvT hZ260 (hwk hw 164 rfl)) (notFace_of_selects (args := #[]) (mvT hZ260 (hwk hw 166 rfl))) (mvT hZ260 (hwk hw 166 rfl)) (mvT hZ260 (hwk hw 165 rfl)) (by decide) (StrChars.Road.chN (W := 0) hZ260 hws267 (kI := 4) (hwk hw 5 rfl) (i := 0) f260_0 f260_1 f260_2 W264 OS262.1 OS262.2.1 c268 PZ c269 RF OS262.2.2 (Nat.le_of_ble_eq_true rfl) (by decide) (by decide) (by decide)) q270a q270c (g := (mkF m 155 #[.val (.int p0), .val (.int p1), .val (.int (2 : Int32)), .val (.int ch1), .val (.int ch2), .val (.int (0 : Int32)), .val (.int ch3), .val (.int ch4), .val (.ref o_251), .val (.ref o_253), .val (.ref o_260), .val (.int (3 : Int32))] [(.int (0 : Int32)), (.ref o_260)])) rfl (by rw [hml]; rfl) (Steps.refl _) (argsL := [(.int (0 : Int32))]) (rest := []) (lenOf pd_26 rfl) rfl (by show 2 * 0 + _ ≤ _; exact Nat.le_of_eq rfl) (hb hby at_155) (fun _ _ => ⟨rfl, e266, (by decide : 15 + 0 ≤ _), (by decide : 68 + 0 ≤ _)⟩)
        dsimp only [Pt.U, Pt.locs, Pt.cells, Pt.slots] at X270 l270 y270 z270 st270 hQ270
        subst l270 y270 z270
        obtain ⟨hv270, hl270, e270⟩ := hQ270
        cases (show _ = some (Value.int ch1) from hv270)
        have N270 := Fr.app N266 (own_frnil hl270)
        obtain ⟨_, _, ⟨T271, L271, k271, n271⟩, -, X271, ⟨Lc271, hQ271, l271, y271, z271⟩, st271⟩ := Jvm.LawKit.callS X270 hx (y := (⟨"com/example/syndex/syndex/SectionKeyPathPinLaw", "exp", "(IICCCC)C"⟩ : MethodName)) hown260 (mvT hZ260 (hwk hw 185 rfl)) (mvT hZ260 (hwk hw 186 rfl)) (mvT hZ260 (hwk hw 2 rfl)) (mvT hZ260 (hwk hw 187 rfl)) (by decide) (backOf (W := 1) (ex02 l Z a0 hw [] ch1 ch2 ch3 ch4 T260.heap n0 O265 gch1 gch2 gch3 gch4) hZ260 (hwk hw 187 rfl) (hwk hw 2 rfl) (by decide) (by decide)) (g := (mkF m 167 #[.val (.int p0), .val (.int p1), .val (.int (2 : Int32)), .val (.int ch1), .val (.int ch2), .val (.int (0 : Int32)), .val (.int ch3), .val (.int ch4), .val (.ref o_251), .val (.ref o_253), .val (.ref o_260), .val (.int (3 : Int32))] [(.int ch4), (.int ch3), (.int ch2), (.int ch1), (.int (2 : Int32)), (.int (0 : Int32)), (.int ch1)])) rfl (by rw [hml]; rfl) (argsL := [(.int (0 : Int32)), (.int (2 : Int32)), (.int ch1), (.int ch2), (.int ch3), (.int ch4)]) (rest := [(.int ch1)]) (lenOf pd_27 rfl) rfl (by show 2 * 0 + _ ≤ _; exact Nat.le_of_eq rfl) (hb hby at_167) (fun _ _ => ⟨rfl, e270, (by decide : 15 + 0 ≤ _), (by decide : 68 + 0 ≤ _)⟩)
        dsimp only [Pt.U, Pt.locs, Pt.cells, Pt.slots] at X271 l271 y271 z271 st271 hQ271
        subst l271 y271 z271
        unfold Q_ex02 at hQ271
        obtain ⟨rfl, N271q, e271⟩ := hQ271
        have N271 := Fr.app N270 N271q
        have hws272 : ∀ d ∈ StrChars.Road.wordsChN, d.before a0 Z = true := fun d hd => hw d ((by decide +kernel : ∀ d ∈ StrChars.Road.wordsChN, d ∈ tables_1) d hd)
        obtain ⟨cq273, kq273, q273a, q273b, q273c⟩ := isOf hZ260 e271 f260_0
        obtain ⟨_, _, ⟨T273, L273, k273, n273⟩, -, X273, ⟨Lc273, hQ273, l273, y273, z273⟩, st273⟩ := X271.virtualBack hx (y := (⟨"java/lang/String", "charAt", "(I)C"⟩ : MethodName)) (z := (⟨"java/lang/String", "charAt", "(I)C"⟩ : MethodName)) hown260 (mvT hZ260 (hwk hw 163 rfl)) (mvT hZ260 (hwk hw 164 rfl)) (notFace_of_selects (args := #[]) (mvT hZ260 (hwk hw 166 rfl))) (mvT hZ260 (hwk hw 166 rfl)) (mvT hZ260 (hwk hw 165 rfl)) (by decide) (StrChars.Road.chN (W := 0) hZ260 hws272 (kI := 4) (hwk hw 5 rfl) (i := 1) f260_0 f260_1 f260_2 W264 OS262.1 OS262.2.1 c268 PZ c269 RF OS262.2.2 (Nat.le_of_ble_eq_true rfl) (by decide) (by decide) (by decide)) q273a q273c (g := (mkF m 184 #[.val (.int p0), .val (.int p1), .val (.int (2 : Int32)), .val (.int ch1), .val (.int ch2), .val (.int (0 : Int32)), .val (.int ch3), .val (.int ch4), .val (.ref o_251), .val (.ref o_253), .val (.ref o_260), .val (.int (3 : Int32))] [(.int (1 : Int32)), (.ref o_260)])) rfl (by rw [hml]; rfl) (Steps.refl _) (argsL := [(.int (1 : Int32))]) (rest := []) (lenOf pd_26 rfl) rfl (by show 2 * 0 + _ ≤ _; exact Nat.le_of_eq rfl) (hb hby at_184) (fun _ _ => ⟨rfl, e271, (by decide : 15 + 0 ≤ _), (by decide : 68 + 0 ≤ _)⟩)
        dsimp only [Pt.U, Pt.locs, Pt.cells, Pt.slots] at X273 l273 y273 z273 st273 hQ273
        subst l273 y273 z273
        obtain ⟨hv273, hl273, e273⟩ := hQ273
        cases (show _ = some (Value.int ch2) from hv273)
        have N273 := Fr.app N271 (own_frnil hl273)
        obtain ⟨_, _, ⟨T274, L274, k274, n274⟩, -, X274, ⟨Lc274, hQ274, l274, y274, z274⟩, st274⟩ := Jvm.LawKit.callS X273 hx (y := (⟨"com/example/syndex/syndex/SectionKeyPathPinLaw", "exp", "(IICCCC)C"⟩ : MethodName)) hown260 (mvT hZ260 (hwk hw 185 rfl)) (mvT hZ260 (hwk hw 186 rfl)) (mvT hZ260 (hwk hw 2 rfl)) (mvT hZ260 (hwk hw 187 rfl)) (by decide) (backOf (W := 1) (ex12 l Z a0 hw [] ch1 ch2 ch3 ch4 T260.heap n0 O265 gch1 gch2 gch3 gch4) hZ260 (hwk hw 187 rfl) (hwk hw 2 rfl) (by decide) (by decide)) (g := (mkF m 196 #[.val (.int p0), .val (.int p1), .val (.int (2 : Int32)), .val (.int ch1), .val (.int ch2), .val (.int (0 : Int32)), .val (.int ch3), .val (.int ch4), .val (.ref o_251), .val (.ref o_253), .val (.ref o_260), .val (.int (3 : Int32))] [(.int ch4), (.int ch3), (.int ch2), (.int ch1), (.int (2 : Int32)), (.int (1 : Int32)), (.int ch2)])) rfl (by rw [hml]; rfl) (argsL := [(.int (1 : Int32)), (.int (2 : Int32)), (.int ch1), (.int ch2), (.int ch3), (.int ch4)]) (rest := [(.int ch2)]) (lenOf pd_27 rfl) rfl (by show 2 * 0 + _ ≤ _; exact Nat.le_of_eq rfl) (hb hby at_196) (fun _ _ => ⟨rfl, e273, (by decide : 15 + 0 ≤ _), (by decide : 68 + 0 ≤ _)⟩)
        dsimp only [Pt.U, Pt.locs, Pt.cells, Pt.slots] at X274 l274 y274 z274 st274 hQ274
        subst l274 y274 z274
        unfold Q_ex12 at hQ274
        obtain ⟨rfl, N274q, e274⟩ := hQ274
        have N274 := Fr.app N273 N274q
        have hws275 : ∀ d ∈ StrChars.Road.wordsChN, d.before a0 Z = true := fun d hd => hw d ((by decide +kernel : ∀ d ∈ StrChars.Road.wordsChN, d ∈ tables_1) d hd)
        obtain ⟨cq276, kq276, q276a, q276b, q276c⟩ := isOf hZ260 e274 f260_0
        obtain ⟨_, _, ⟨T276, L276, k276, n276⟩, -, X276, ⟨Lc276, hQ276, l276, y276, z276⟩, st276⟩ := X274.virtualBack hx (y := (⟨"java/lang/String", "charAt", "(I)C"⟩ : MethodName)) (z := (⟨"java/lang/String", "charAt", "(I)C"⟩ : MethodName)) hown260 (mvT hZ260 (hwk hw 163 rfl)) (mvT hZ260 (hwk hw 164 rfl)) (notFace_of_selects (args := #[]) (mvT hZ260 (hwk hw 166 rfl))) (mvT hZ260 (hwk hw 166 rfl)) (mvT hZ260 (hwk hw 165 rfl)) (by decide) (StrChars.Road.chN (W := 0) hZ260 hws275 (kI := 4) (hwk hw 5 rfl) (i := 2) f260_0 f260_1 f260_2 W264 OS262.1 OS262.2.1 c268 PZ c269 RF OS262.2.2 (Nat.le_of_ble_eq_true rfl) (by decide) (by decide) (by decide)) q276a q276c (g := (mkF m 213 #[.val (.int p0), .val (.int p1), .val (.int (2 : Int32)), .val (.int ch1), .val (.int ch2), .val (.int (0 : Int32)), .val (.int ch3), .val (.int ch4), .val (.ref o_251), .val (.ref o_253), .val (.ref o_260), .val (.int (3 : Int32))] [(.int (2 : Int32)), (.ref o_260)])) rfl (by rw [hml]; rfl) (Steps.refl _) (argsL := [(.int (2 : Int32))]) (rest := []) (lenOf pd_26 rfl) rfl (by show 2 * 0 + _ ≤ _; exact Nat.le_of_eq rfl) (hb hby at_213) (fun _ _ => ⟨rfl, e274, (by decide : 15 + 0 ≤ _), (by decide : 68 + 0 ≤ _)⟩)
        dsimp only [Pt.U, Pt.locs, Pt.cells, Pt.slots] at X276 l276 y276 z276 st276 hQ276
        subst l276 y276 z276
        obtain ⟨hv276, hl276, e276⟩ := hQ276
        cases (show _ = some (Value.int (46 : Int32)) from hv276)
        have N276 := Fr.app N274 (own_frnil hl276)
        obtain ⟨_, _, ⟨T277, L277, k277, n277⟩, -, X277, ⟨Lc277, hQ277, l277, y277, z277⟩, st277⟩ := Jvm.LawKit.callS X276 hx (y := (⟨"com/example/syndex/syndex/SectionKeyPathPinLaw", "exp", "(IICCCC)C"⟩ : MethodName)) hown260 (mvT hZ260 (hwk hw 185 rfl)) (mvT hZ260 (hwk hw 186 rfl)) (mvT hZ260 (hwk hw 2 rfl)) (mvT hZ260 (hwk hw 187 rfl)) (by decide) (backOf (W := 1) (ex22 l Z a0 hw [] ch1 ch2 ch3 ch4 T260.heap n0 O265 gch1 gch2 gch3 gch4) hZ260 (hwk hw 187 rfl) (hwk hw 2 rfl) (by decide) (by decide)) (g := (mkF m 225 #[.val (.int p0), .val (.int p1), .val (.int (2 : Int32)), .val (.int ch1), .val (.int ch2), .val (.int (0 : Int32)), .val (.int ch3), .val (.int ch4), .val (.ref o_251), .val (.ref o_253), .val (.ref o_260), .val (.int (3 : Int32))] [(.int ch4), (.int ch3), (.int ch2), (.int ch1), (.int (2 : Int32)), (.int (2 : Int32)), (.int (46 : Int32))])) rfl (by rw [hml]; rfl) (argsL := [(.int (2 : Int32)), (.int (2 : Int32)), (.int ch1), (.int ch2), (.int ch3), (.int ch4)]) (rest := [(.int (46 : Int32))]) (lenOf pd_27 rfl) rfl (by show 2 * 0 + _ ≤ _; exact Nat.le_of_eq rfl) (hb hby at_225) (fun _ _ => ⟨rfl, e276, (by decide : 15 + 0 ≤ _), (by decide : 68 + 0 ≤ _)⟩)
        dsimp only [Pt.U, Pt.locs, Pt.cells, Pt.slots] at X277 l277 y277 z277 st277 hQ277
        subst l277 y277 z277
        unfold Q_ex22 at hQ277
        obtain ⟨rfl, N277q, e277⟩ := hQ277
        have N277 := Fr.app N276 N277q
        have K278 : Keep h0 T251.heap [] := Keep.trans (Keep.refl h0 []) K251 all0
        have K279 : Keep h0 T253.heap [] := Keep.trans K278 K253 all0
        have K280 : Keep h0 T260.heap [] := Keep.trans K279 K260 all0
        have CR281 : CHr Z consts_1 s.vm h0 T260.vm T260.heap := CHr.trans CR261 CX260
        obtain ⟨fs, hr, hrun, hended, hRE⟩ := X277.leaveW hS260 (show _ ≤ T277.heap.size from by rw [e277]; exact (Nat.le_refl _)) (v := some (.int (1 : Int32))) (fun h => by rw [Bd.returns] at h; cases h)
        have CRl : CHr Z consts_1 s.vm s.heap (T277.setFrames fs).vm (T277.setFrames fs).heap := by
          have q := CHr.trans CR281 (CHv.at X277 hZ260 hEL CR281.1)
          rw [← hh, ← e277] at q
          exact q
        refine ⟨_, _, S250 _ ?_, hrun, hended, _, _, rfl, ?_, CRl, hRE.1, hRE.2.1, hRE.2.2.1, hRE.2.2.2.mono (by decide) (by decide)⟩
        · show Steps p.tables e below (s₁.setTop (mkF m 39 #[.val (.int p0), .val (.int p1), .val (.int (2 : Int32)), .val (.int ((p0 &&& (255 : Int32)).toUInt32.toUInt16.toUInt32.toInt32)), .val (.int ((((p0.toUInt32 >>> ((8 : Int32) &&& 31).toUInt32).toInt32) &&& (255 : Int32)).toUInt32.toUInt16.toUInt32.toInt32)), .unset, .unset, .unset, .unset, .unset, .unset, .unset] [(.int ((((p1.toUInt32 >>> ((16 : Int32) &&& 31).toUInt32).toInt32) &&& (255 : Int32)) % (3 : Int32)))])) _
          rw [hr248]
          show Steps p.tables e below (s₁.setTop (mkF m 39 #[.val (.int p0), .val (.int p1), .val (.int (2 : Int32)), .val (.int ((p0 &&& (255 : Int32)).toUInt32.toUInt16.toUInt32.toInt32)), .val (.int ((((p0.toUInt32 >>> ((8 : Int32) &&& 31).toUInt32).toInt32) &&& (255 : Int32)).toUInt32.toUInt16.toUInt32.toInt32)), .unset, .unset, .unset, .unset, .unset, .unset, .unset] [(.int (0 : Int32))])) _
          refine XS.istore X0.here hx rfl (hb hby at_39) rfl (l' := #[.val (.int p0), .val (.int p1), .val (.int (2 : Int32)), .val (.int ((p0 &&& (255 : Int32)).toUInt32.toUInt16.toUInt32.toInt32)), .val (.int ((((p0.toUInt32 >>> ((8 : Int32) &&& 31).toUInt32).toInt32) &&& (255 : Int32)).toUInt32.toUInt16.toUInt32.toInt32)), .val (.int (0 : Int32)), .unset, .unset, .unset, .unset, .unset, .unset]) rfl ?_
          show Steps p.tables e below (s₁.setTop (mkF m 41 #[.val (.int p0), .val (.int p1), .val (.int (2 : Int32)), .val (.int ((p0 &&& (255 : Int32)).toUInt32.toUInt16.toUInt32.toInt32)), .val (.int ((((p0.toUInt32 >>> ((8 : Int32) &&& 31).toUInt32).toInt32) &&& (255 : Int32)).toUInt32.toUInt16.toUInt32.toInt32)), .val (.int (0 : Int32)), .unset, .unset, .unset, .unset, .unset, .unset] [])) _
          refine XS.iloadN X0.here hx rfl (hb hby at_41) rfl ?_
          refine XS.sipush X0.here hx rfl (hb hby at_42) ?_
          refine XS.iand X0.here hx rfl (hb hby at_45) rfl ?_
          show Steps p.tables e below (s₁.setTop (mkF m 46 #[.val (.int p0), .val (.int p1), .val (.int (2 : Int32)), .val (.int ((p0 &&& (255 : Int32)).toUInt32.toUInt16.toUInt32.toInt32)), .val (.int ((((p0.toUInt32 >>> ((8 : Int32) &&& 31).toUInt32).toInt32) &&& (255 : Int32)).toUInt32.toUInt16.toUInt32.toInt32)), .val (.int (0 : Int32)), .unset, .unset, .unset, .unset, .unset, .unset] [(.int (p1 &&& (255 : Int32)))])) _
          refine XS.i2c X0.here hx rfl (hb hby at_46) rfl ?_
          show Steps p.tables e below (s₁.setTop (mkF m 47 #[.val (.int p0), .val (.int p1), .val (.int (2 : Int32)), .val (.int ((p0 &&& (255 : Int32)).toUInt32.toUInt16.toUInt32.toInt32)), .val (.int ((((p0.toUInt32 >>> ((8 : Int32) &&& 31).toUInt32).toInt32) &&& (255 : Int32)).toUInt32.toUInt16.toUInt32.toInt32)), .val (.int (0 : Int32)), .unset, .unset, .unset, .unset, .unset, .unset] [(.int ((p1 &&& (255 : Int32)).toUInt32.toUInt16.toUInt32.toInt32))])) _
          refine XS.istore X0.here hx rfl (hb hby at_47) rfl (l' := #[.val (.int p0), .val (.int p1), .val (.int (2 : Int32)), .val (.int ((p0 &&& (255 : Int32)).toUInt32.toUInt16.toUInt32.toInt32)), .val (.int ((((p0.toUInt32 >>> ((8 : Int32) &&& 31).toUInt32).toInt32) &&& (255 : Int32)).toUInt32.toUInt16.toUInt32.toInt32)), .val (.int (0 : Int32)), .val (.int ((p1 &&& (255 : Int32)).toUInt32.toUInt16.toUInt32.toInt32)), .unset, .unset, .unset, .unset, .unset]) rfl ?_
          show Steps p.tables e below (s₁.setTop (mkF m 49 #[.val (.int p0), .val (.int p1), .val (.int (2 : Int32)), .val (.int ((p0 &&& (255 : Int32)).toUInt32.toUInt16.toUInt32.toInt32)), .val (.int ((((p0.toUInt32 >>> ((8 : Int32) &&& 31).toUInt32).toInt32) &&& (255 : Int32)).toUInt32.toUInt16.toUInt32.toInt32)), .val (.int (0 : Int32)), .val (.int ((p1 &&& (255 : Int32)).toUInt32.toUInt16.toUInt32.toInt32)), .unset, .unset, .unset, .unset, .unset] [])) _
          refine XS.iloadN X0.here hx rfl (hb hby at_49) rfl ?_
          refine XS.bipush X0.here hx rfl (hb hby at_50) ?_
          refine XS.iushr X0.here hx rfl (hb hby at_52) rfl ?_
          show Steps p.tables e below (s₁.setTop (mkF m 53 #[.val (.int p0), .val (.int p1), .val (.int (2 : Int32)), .val (.int ((p0 &&& (255 : Int32)).toUInt32.toUInt16.toUInt32.toInt32)), .val (.int ((((p0.toUInt32 >>> ((8 : Int32) &&& 31).toUInt32).toInt32) &&& (255 : Int32)).toUInt32.toUInt16.toUInt32.toInt32)), .val (.int (0 : Int32)), .val (.int ((p1 &&& (255 : Int32)).toUInt32.toUInt16.toUInt32.toInt32)), .unset, .unset, .unset, .unset, .unset] [(.int ((p1.toUInt32 >>> ((8 : Int32) &&& 31).toUInt32).toInt32))])) _
          refine XS.sipush X0.here hx rfl (hb hby at_53) ?_
          refine XS.iand X0.here hx rfl (hb hby at_56) rfl ?_
          show Steps p.tables e below (s₁.setTop (mkF m 57 #[.val (.int p0), .val (.int p1), .val (.int (2 : Int32)), .val (.int ((p0 &&& (255 : Int32)).toUInt32.toUInt16.toUInt32.toInt32)), .val (.int ((((p0.toUInt32 >>> ((8 : Int32) &&& 31).toUInt32).toInt32) &&& (255 : Int32)).toUInt32.toUInt16.toUInt32.toInt32)), .val (.int (0 : Int32)), .val (.int ((p1 &&& (255 : Int32)).toUInt32.toUInt16.toUInt32.toInt32)), .unset, .unset, .unset, .unset, .unset] [(.int (((p1.toUInt32 >>> ((8 : Int32) &&& 31).toUInt32).toInt32) &&& (255 : Int32)))])) _
          refine XS.i2c X0.here hx rfl (hb hby at_57) rfl ?_
          show Steps p.tables e below (s₁.setTop (mkF m 58 #[.val (.int p0), .val (.int p1), .val (.int (2 : Int32)), .val (.int ((p0 &&& (255 : Int32)).toUInt32.toUInt16.toUInt32.toInt32)), .val (.int ((((p0.toUInt32 >>> ((8 : Int32) &&& 31).toUInt32).toInt32) &&& (255 : Int32)).toUInt32.toUInt16.toUInt32.toInt32)), .val (.int (0 : Int32)), .val (.int ((p1 &&& (255 : Int32)).toUInt32.toUInt16.toUInt32.toInt32)), .unset, .unset, .unset, .unset, .unset] [(.int ((((p1.toUInt32 >>> ((8 : Int32) &&& 31).toUInt32).toInt32) &&& (255 : Int32)).toUInt32.toUInt16.toUInt32.toInt32))])) _
          refine XS.istore X0.here hx rfl (hb hby at_58) rfl (l' := #[.val (.int p0), .val (.int p1), .val (.int (2 : Int32)), .val (.int ((p0 &&& (255 : Int32)).toUInt32.toUInt16.toUInt32.toInt32)), .val (.int ((((p0.toUInt32 >>> ((8 : Int32) &&& 31).toUInt32).toInt32) &&& (255 : Int32)).toUInt32.toUInt16.toUInt32.toInt32)), .val (.int (0 : Int32)), .val (.int ((p1 &&& (255 : Int32)).toUInt32.toUInt16.toUInt32.toInt32)), .val (.int ((((p1.toUInt32 >>> ((8 : Int32) &&& 31).toUInt32).toInt32) &&& (255 : Int32)).toUInt32.toUInt16.toUInt32.toInt32)), .unset, .unset, .unset, .unset]) rfl ?_
          show Steps p.tables e below (s₁.setTop (mkF m 60 #[.val (.int p0), .val (.int p1), .val (.int (2 : Int32)), .val (.int ((p0 &&& (255 : Int32)).toUInt32.toUInt16.toUInt32.toInt32)), .val (.int ((((p0.toUInt32 >>> ((8 : Int32) &&& 31).toUInt32).toInt32) &&& (255 : Int32)).toUInt32.toUInt16.toUInt32.toInt32)), .val (.int (0 : Int32)), .val (.int ((p1 &&& (255 : Int32)).toUInt32.toUInt16.toUInt32.toInt32)), .val (.int ((((p1.toUInt32 >>> ((8 : Int32) &&& 31).toUInt32).toInt32) &&& (255 : Int32)).toUInt32.toUInt16.toUInt32.toInt32)), .unset, .unset, .unset, .unset] [])) _
          rw [← ech1]
          show Steps p.tables e below (s₁.setTop (mkF m 60 #[.val (.int p0), .val (.int p1), .val (.int (2 : Int32)), .val (.int ch1), .val (.int ((((p0.toUInt32 >>> ((8 : Int32) &&& 31).toUInt32).toInt32) &&& (255 : Int32)).toUInt32.toUInt16.toUInt32.toInt32)), .val (.int (0 : Int32)), .val (.int ((p1 &&& (255 : Int32)).toUInt32.toUInt16.toUInt32.toInt32)), .val (.int ((((p1.toUInt32 >>> ((8 : Int32) &&& 31).toUInt32).toInt32) &&& (255 : Int32)).toUInt32.toUInt16.toUInt32.toInt32)), .unset, .unset, .unset, .unset] [])) _
          rw [← ech2]
          show Steps p.tables e below (s₁.setTop (mkF m 60 #[.val (.int p0), .val (.int p1), .val (.int (2 : Int32)), .val (.int ch1), .val (.int ch2), .val (.int (0 : Int32)), .val (.int ((p1 &&& (255 : Int32)).toUInt32.toUInt16.toUInt32.toInt32)), .val (.int ((((p1.toUInt32 >>> ((8 : Int32) &&& 31).toUInt32).toInt32) &&& (255 : Int32)).toUInt32.toUInt16.toUInt32.toInt32)), .unset, .unset, .unset, .unset] [])) _
          rw [← ech3]
          show Steps p.tables e below (s₁.setTop (mkF m 60 #[.val (.int p0), .val (.int p1), .val (.int (2 : Int32)), .val (.int ch1), .val (.int ch2), .val (.int (0 : Int32)), .val (.int ch3), .val (.int ((((p1.toUInt32 >>> ((8 : Int32) &&& 31).toUInt32).toInt32) &&& (255 : Int32)).toUInt32.toUInt16.toUInt32.toInt32)), .unset, .unset, .unset, .unset] [])) _
          rw [← ech4]
          show Steps p.tables e below (s₁.setTop (mkF m 60 #[.val (.int p0), .val (.int p1), .val (.int (2 : Int32)), .val (.int ch1), .val (.int ch2), .val (.int (0 : Int32)), .val (.int ch3), .val (.int ch4), .unset, .unset, .unset, .unset] [])) _
          refine XS.iloadN X0.here hx rfl (hb hby at_60) rfl ?_
          refine XS.iloadN X0.here hx rfl (hb hby at_61) rfl ?_
          refine XS.iload X0.here hx rfl (hb hby at_62) rfl ?_
          show Steps p.tables e below (s₁.setTop (mkF m 64 #[.val (.int p0), .val (.int p1), .val (.int (2 : Int32)), .val (.int ch1), .val (.int ch2), .val (.int (0 : Int32)), .val (.int ch3), .val (.int ch4), .unset, .unset, .unset, .unset] [(.int ch2), (.int ch1), (.int (2 : Int32))])) _
          refine st251 _ ?_
          show Steps p.tables e below (T251.setTop (mkF m 67 #[.val (.int p0), .val (.int p1), .val (.int (2 : Int32)), .val (.int ch1), .val (.int ch2), .val (.int (0 : Int32)), .val (.int ch3), .val (.int ch4), .unset, .unset, .unset, .unset] [(.ref o_251)])) _
          refine XS.astore X251.here hx rfl (hb hby at_67) rfl rfl (l' := #[.val (.int p0), .val (.int p1), .val (.int (2 : Int32)), .val (.int ch1), .val (.int ch2), .val (.int (0 : Int32)), .val (.int ch3), .val (.int ch4), .val (.ref o_251), .unset, .unset, .unset]) rfl ?_
          show Steps p.tables e below (T251.setTop (mkF m 69 #[.val (.int p0), .val (.int p1), .val (.int (2 : Int32)), .val (.int ch1), .val (.int ch2), .val (.int (0 : Int32)), .val (.int ch3), .val (.int ch4), .val (.ref o_251), .unset, .unset, .unset] [])) _
          refine XS.iload X251.here hx rfl (hb hby at_69) rfl ?_
          refine XS.iload X251.here hx rfl (hb hby at_71) rfl ?_
          refine XS.iload X251.here hx rfl (hb hby at_73) rfl ?_
          show Steps p.tables e below (T251.setTop (mkF m 75 #[.val (.int p0), .val (.int p1), .val (.int (2 : Int32)), .val (.int ch1), .val (.int ch2), .val (.int (0 : Int32)), .val (.int ch3), .val (.int ch4), .val (.ref o_251), .unset, .unset, .unset] [(.int ch4), (.int ch3), (.int (0 : Int32))])) _
          refine st253.trans ?_
          show Steps p.tables e below (T253.setTop (mkF m 78 #[.val (.int p0), .val (.int p1), .val (.int (2 : Int32)), .val (.int ch1), .val (.int ch2), .val (.int (0 : Int32)), .val (.int ch3), .val (.int ch4), .val (.ref o_251), .unset, .unset, .unset] [(.ref o_253)])) _
          refine XS.astore X253b.here hx rfl (hb hby at_78) rfl rfl (l' := #[.val (.int p0), .val (.int p1), .val (.int (2 : Int32)), .val (.int ch1), .val (.int ch2), .val (.int (0 : Int32)), .val (.int ch3), .val (.int ch4), .val (.ref o_251), .val (.ref o_253), .unset, .unset]) rfl ?_
          show Steps p.tables e below (T253.setTop (mkF m 80 #[.val (.int p0), .val (.int p1), .val (.int (2 : Int32)), .val (.int ch1), .val (.int ch2), .val (.int (0 : Int32)), .val (.int ch3), .val (.int ch4), .val (.ref o_251), .val (.ref o_253), .unset, .unset] [])) _
          refine XS.aload X253b.here hx rfl (hb hby at_80) rfl rfl ?_
          refine XS.aload X253b.here hx rfl (hb hby at_82) rfl rfl ?_
          show Steps p.tables e below (T253.setTop (mkF m 84 #[.val (.int p0), .val (.int p1), .val (.int (2 : Int32)), .val (.int ch1), .val (.int ch2), .val (.int (0 : Int32)), .val (.int ch3), .val (.int ch4), .val (.ref o_251), .val (.ref o_253), .unset, .unset] [(.ref o_253), (.ref o_251)])) _
          refine st260.trans ?_
          show Steps p.tables e below (T260.setTop (mkF m 87 #[.val (.int p0), .val (.int p1), .val (.int (2 : Int32)), .val (.int ch1), .val (.int ch2), .val (.int (0 : Int32)), .val (.int ch3), .val (.int ch4), .val (.ref o_251), .val (.ref o_253), .unset, .unset] [(.ref o_260)])) _
          refine XS.astore X260b.here hx rfl (hb hby at_87) rfl rfl (l' := #[.val (.int p0), .val (.int p1), .val (.int (2 : Int32)), .val (.int ch1), .val (.int ch2), .val (.int (0 : Int32)), .val (.int ch3), .val (.int ch4), .val (.ref o_251), .val (.ref o_253), .val (.ref o_260), .unset]) rfl ?_
          show Steps p.tables e below (T260.setTop (mkF m 89 #[.val (.int p0), .val (.int p1), .val (.int (2 : Int32)), .val (.int ch1), .val (.int ch2), .val (.int (0 : Int32)), .val (.int ch3), .val (.int ch4), .val (.ref o_251), .val (.ref o_253), .val (.ref o_260), .unset] [])) _
          refine XS.aload X260b.here hx rfl (hb hby at_89) rfl rfl ?_
          refine XS.ifnonnullYes X260b.here hx rfl (pc0 := 91) (pc' := 96) rfl (hb hby at_91) rfl (by decide) (by decide) ?_
          show Steps p.tables e below (T260.setTop (mkF m 96 #[.val (.int p0), .val (.int p1), .val (.int (2 : Int32)), .val (.int ch1), .val (.int ch2), .val (.int (0 : Int32)), .val (.int ch3), .val (.int ch4), .val (.ref o_251), .val (.ref o_253), .val (.ref o_260), .unset] [])) _
          refine XS.iloadN X260b.here hx rfl (hb hby at_96) rfl ?_
          refine XS.ifYes X260b.here hx rfl (pc0 := 97) (pc' := 126) rfl (hb hby at_97) rfl ((if0 _ _).trans (feq (by decide : ¬ ((2 : Int32) = (0 : Int32)))).2) (by decide) (by decide) ?_
          show Steps p.tables e below (T260.setTop (mkF m 126 #[.val (.int p0), .val (.int p1), .val (.int (2 : Int32)), .val (.int ch1), .val (.int ch2), .val (.int (0 : Int32)), .val (.int ch3), .val (.int ch4), .val (.ref o_251), .val (.ref o_253), .val (.ref o_260), .unset] [])) _
          refine XS.iloadN X260b.here hx rfl (hb hby at_126) rfl ?_
          refine XS.iconst X260b.here hx rfl (hb hby at_127) ?_
          refine XS.iadd X260b.here hx rfl (hb hby at_128) rfl ?_
          show Steps p.tables e below (T260.setTop (mkF m 129 #[.val (.int p0), .val (.int p1), .val (.int (2 : Int32)), .val (.int ch1), .val (.int ch2), .val (.int (0 : Int32)), .val (.int ch3), .val (.int ch4), .val (.ref o_251), .val (.ref o_253), .val (.ref o_260), .unset] [(.int ((2 : Int32) + (1 : Int32)))])) _
          rw [show ((2 : Int32) + (1 : Int32)) = (3 : Int32) from by decide]
          show Steps p.tables e below (T260.setTop (mkF m 129 #[.val (.int p0), .val (.int p1), .val (.int (2 : Int32)), .val (.int ch1), .val (.int ch2), .val (.int (0 : Int32)), .val (.int ch3), .val (.int ch4), .val (.ref o_251), .val (.ref o_253), .val (.ref o_260), .unset] [(.int (3 : Int32))])) _
          refine XS.iload X260b.here hx rfl (hb hby at_129) rfl ?_
          refine XS.iadd X260b.here hx rfl (hb hby at_131) rfl ?_
          show Steps p.tables e below (T260.setTop (mkF m 132 #[.val (.int p0), .val (.int p1), .val (.int (2 : Int32)), .val (.int ch1), .val (.int ch2), .val (.int (0 : Int32)), .val (.int ch3), .val (.int ch4), .val (.ref o_251), .val (.ref o_253), .val (.ref o_260), .unset] [(.int ((3 : Int32) + (0 : Int32)))])) _
          rw [show ((3 : Int32) + (0 : Int32)) = (3 : Int32) from by decide]
          show Steps p.tables e below (T260.setTop (mkF m 132 #[.val (.int p0), .val (.int p1), .val (.int (2 : Int32)), .val (.int ch1), .val (.int ch2), .val (.int (0 : Int32)), .val (.int ch3), .val (.int ch4), .val (.ref o_251), .val (.ref o_253), .val (.ref o_260), .unset] [(.int (3 : Int32))])) _
          refine XS.istore X260b.here hx rfl (hb hby at_132) rfl (l' := #[.val (.int p0), .val (.int p1), .val (.int (2 : Int32)), .val (.int ch1), .val (.int ch2), .val (.int (0 : Int32)), .val (.int ch3), .val (.int ch4), .val (.ref o_251), .val (.ref o_253), .val (.ref o_260), .val (.int (3 : Int32))]) rfl ?_
          show Steps p.tables e below (T260.setTop (mkF m 134 #[.val (.int p0), .val (.int p1), .val (.int (2 : Int32)), .val (.int ch1), .val (.int ch2), .val (.int (0 : Int32)), .val (.int ch3), .val (.int ch4), .val (.ref o_251), .val (.ref o_253), .val (.ref o_260), .val (.int (3 : Int32))] [])) _
          refine XS.aload X260b.here hx rfl (hb hby at_134) rfl rfl ?_
          show Steps p.tables e below (T260.setTop (mkF m 136 #[.val (.int p0), .val (.int p1), .val (.int (2 : Int32)), .val (.int ch1), .val (.int ch2), .val (.int (0 : Int32)), .val (.int ch3), .val (.int ch4), .val (.ref o_251), .val (.ref o_253), .val (.ref o_260), .val (.int (3 : Int32))] [(.ref o_260)])) _
          refine st266.trans ?_
          show Steps p.tables e below (T266.setTop (mkF m 139 #[.val (.int p0), .val (.int p1), .val (.int (2 : Int32)), .val (.int ch1), .val (.int ch2), .val (.int (0 : Int32)), .val (.int ch3), .val (.int ch4), .val (.ref o_251), .val (.ref o_253), .val (.ref o_260), .val (.int (3 : Int32))] [(.int (3 : Int32))])) _
          refine XS.iload X266.here hx rfl (hb hby at_139) rfl ?_
          refine XS.icmpYes X266.here hx rfl (pc0 := 141) (pc' := 146) rfl (hb hby at_141) rfl (teq (by decide : (3 : Int32) = (3 : Int32))).1 (by decide) (by decide) ?_
          show Steps p.tables e below (T266.setTop (mkF m 146 #[.val (.int p0), .val (.int p1), .val (.int (2 : Int32)), .val (.int ch1), .val (.int ch2), .val (.int (0 : Int32)), .val (.int ch3), .val (.int ch4), .val (.ref o_251), .val (.ref o_253), .val (.ref o_260), .val (.int (3 : Int32))] [])) _
          refine XS.iconst X266.here hx rfl (hb hby at_146) ?_
          refine XS.iload X266.here hx rfl (hb hby at_147) rfl ?_
          refine XS.icmpNo X266.here hx rfl (hb hby at_149) rfl (tlt (by decide : (0 : Int32) < (3 : Int32))).2.1 ?_
          show Steps p.tables e below (T266.setTop (mkF m 152 #[.val (.int p0), .val (.int p1), .val (.int (2 : Int32)), .val (.int ch1), .val (.int ch2), .val (.int (0 : Int32)), .val (.int ch3), .val (.int ch4), .val (.ref o_251), .val (.ref o_253), .val (.ref o_260), .val (.int (3 : Int32))] [])) _
          refine XS.aload X266.here hx rfl (hb hby at_152) rfl rfl ?_
          refine XS.iconst X266.here hx rfl (hb hby at_154) ?_
          show Steps p.tables e below (T266.setTop (mkF m 155 #[.val (.int p0), .val (.int p1), .val (.int (2 : Int32)), .val (.int ch1), .val (.int ch2), .val (.int (0 : Int32)), .val (.int ch3), .val (.int ch4), .val (.ref o_251), .val (.ref o_253), .val (.ref o_260), .val (.int (3 : Int32))] [(.int (0 : Int32)), (.ref o_260)])) _
          refine st270.trans ?_
          show Steps p.tables e below (T270.setTop (mkF m 158 #[.val (.int p0), .val (.int p1), .val (.int (2 : Int32)), .val (.int ch1), .val (.int ch2), .val (.int (0 : Int32)), .val (.int ch3), .val (.int ch4), .val (.ref o_251), .val (.ref o_253), .val (.ref o_260), .val (.int (3 : Int32))] [(.int ch1)])) _
          refine XS.iconst X270.here hx rfl (hb hby at_158) ?_
          refine XS.iloadN X270.here hx rfl (hb hby at_159) rfl ?_
          refine XS.iloadN X270.here hx rfl (hb hby at_160) rfl ?_
          refine XS.iload X270.here hx rfl (hb hby at_161) rfl ?_
          show Steps p.tables e below (T270.setTop (mkF m 163 #[.val (.int p0), .val (.int p1), .val (.int (2 : Int32)), .val (.int ch1), .val (.int ch2), .val (.int (0 : Int32)), .val (.int ch3), .val (.int ch4), .val (.ref o_251), .val (.ref o_253), .val (.ref o_260), .val (.int (3 : Int32))] [(.int ch2), (.int ch1), (.int (2 : Int32)), (.int (0 : Int32)), (.int ch1)])) _
          refine XS.iload X270.here hx rfl (hb hby at_163) rfl ?_
          refine XS.iload X270.here hx rfl (hb hby at_165) rfl ?_
          show Steps p.tables e below (T270.setTop (mkF m 167 #[.val (.int p0), .val (.int p1), .val (.int (2 : Int32)), .val (.int ch1), .val (.int ch2), .val (.int (0 : Int32)), .val (.int ch3), .val (.int ch4), .val (.ref o_251), .val (.ref o_253), .val (.ref o_260), .val (.int (3 : Int32))] [(.int ch4), (.int ch3), (.int ch2), (.int ch1), (.int (2 : Int32)), (.int (0 : Int32)), (.int ch1)])) _
          refine st271 _ ?_
          show Steps p.tables e below (T271.setTop (mkF m 170 #[.val (.int p0), .val (.int p1), .val (.int (2 : Int32)), .val (.int ch1), .val (.int ch2), .val (.int (0 : Int32)), .val (.int ch3), .val (.int ch4), .val (.ref o_251), .val (.ref o_253), .val (.ref o_260), .val (.int (3 : Int32))] [(.int ch1), (.int ch1)])) _
          refine XS.icmpYes X271.here hx rfl (pc0 := 170) (pc' := 175) rfl (hb hby at_170) rfl (teq (rfl : ch1 = ch1)).1 (by decide) (by decide) ?_
          show Steps p.tables e below (T271.setTop (mkF m 175 #[.val (.int p0), .val (.int p1), .val (.int (2 : Int32)), .val (.int ch1), .val (.int ch2), .val (.int (0 : Int32)), .val (.int ch3), .val (.int ch4), .val (.ref o_251), .val (.ref o_253), .val (.ref o_260), .val (.int (3 : Int32))] [])) _
          refine XS.iconst X271.here hx rfl (hb hby at_175) ?_
          refine XS.iload X271.here hx rfl (hb hby at_176) rfl ?_
          refine XS.icmpNo X271.here hx rfl (hb hby at_178) rfl (tlt (by decide : (1 : Int32) < (3 : Int32))).2.1 ?_
          show Steps p.tables e below (T271.setTop (mkF m 181 #[.val (.int p0), .val (.int p1), .val (.int (2 : Int32)), .val (.int ch1), .val (.int ch2), .val (.int (0 : Int32)), .val (.int ch3), .val (.int ch4), .val (.ref o_251), .val (.ref o_253), .val (.ref o_260), .val (.int (3 : Int32))] [])) _
          refine XS.aload X271.here hx rfl (hb hby at_181) rfl rfl ?_
          refine XS.iconst X271.here hx rfl (hb hby at_183) ?_
          show Steps p.tables e below (T271.setTop (mkF m 184 #[.val (.int p0), .val (.int p1), .val (.int (2 : Int32)), .val (.int ch1), .val (.int ch2), .val (.int (0 : Int32)), .val (.int ch3), .val (.int ch4), .val (.ref o_251), .val (.ref o_253), .val (.ref o_260), .val (.int (3 : Int32))] [(.int (1 : Int32)), (.ref o_260)])) _
          refine st273.trans ?_
          show Steps p.tables e below (T273.setTop (mkF m 187 #[.val (.int p0), .val (.int p1), .val (.int (2 : Int32)), .val (.int ch1), .val (.int ch2), .val (.int (0 : Int32)), .val (.int ch3), .val (.int ch4), .val (.ref o_251), .val (.ref o_253), .val (.ref o_260), .val (.int (3 : Int32))] [(.int ch2)])) _
          refine XS.iconst X273.here hx rfl (hb hby at_187) ?_
          refine XS.iloadN X273.here hx rfl (hb hby at_188) rfl ?_
          refine XS.iloadN X273.here hx rfl (hb hby at_189) rfl ?_
          refine XS.iload X273.here hx rfl (hb hby at_190) rfl ?_
          show Steps p.tables e below (T273.setTop (mkF m 192 #[.val (.int p0), .val (.int p1), .val (.int (2 : Int32)), .val (.int ch1), .val (.int ch2), .val (.int (0 : Int32)), .val (.int ch3), .val (.int ch4), .val (.ref o_251), .val (.ref o_253), .val (.ref o_260), .val (.int (3 : Int32))] [(.int ch2), (.int ch1), (.int (2 : Int32)), (.int (1 : Int32)), (.int ch2)])) _
          refine XS.iload X273.here hx rfl (hb hby at_192) rfl ?_
          refine XS.iload X273.here hx rfl (hb hby at_194) rfl ?_
          show Steps p.tables e below (T273.setTop (mkF m 196 #[.val (.int p0), .val (.int p1), .val (.int (2 : Int32)), .val (.int ch1), .val (.int ch2), .val (.int (0 : Int32)), .val (.int ch3), .val (.int ch4), .val (.ref o_251), .val (.ref o_253), .val (.ref o_260), .val (.int (3 : Int32))] [(.int ch4), (.int ch3), (.int ch2), (.int ch1), (.int (2 : Int32)), (.int (1 : Int32)), (.int ch2)])) _
          refine st274 _ ?_
          show Steps p.tables e below (T274.setTop (mkF m 199 #[.val (.int p0), .val (.int p1), .val (.int (2 : Int32)), .val (.int ch1), .val (.int ch2), .val (.int (0 : Int32)), .val (.int ch3), .val (.int ch4), .val (.ref o_251), .val (.ref o_253), .val (.ref o_260), .val (.int (3 : Int32))] [(.int ch2), (.int ch2)])) _
          refine XS.icmpYes X274.here hx rfl (pc0 := 199) (pc' := 204) rfl (hb hby at_199) rfl (teq (rfl : ch2 = ch2)).1 (by decide) (by decide) ?_
          show Steps p.tables e below (T274.setTop (mkF m 204 #[.val (.int p0), .val (.int p1), .val (.int (2 : Int32)), .val (.int ch1), .val (.int ch2), .val (.int (0 : Int32)), .val (.int ch3), .val (.int ch4), .val (.ref o_251), .val (.ref o_253), .val (.ref o_260), .val (.int (3 : Int32))] [])) _
          refine XS.iconst X274.here hx rfl (hb hby at_204) ?_
          refine XS.iload X274.here hx rfl (hb hby at_205) rfl ?_
          refine XS.icmpNo X274.here hx rfl (hb hby at_207) rfl (tlt (by decide : (2 : Int32) < (3 : Int32))).2.1 ?_
          show Steps p.tables e below (T274.setTop (mkF m 210 #[.val (.int p0), .val (.int p1), .val (.int (2 : Int32)), .val (.int ch1), .val (.int ch2), .val (.int (0 : Int32)), .val (.int ch3), .val (.int ch4), .val (.ref o_251), .val (.ref o_253), .val (.ref o_260), .val (.int (3 : Int32))] [])) _
          refine XS.aload X274.here hx rfl (hb hby at_210) rfl rfl ?_
          refine XS.iconst X274.here hx rfl (hb hby at_212) ?_
          show Steps p.tables e below (T274.setTop (mkF m 213 #[.val (.int p0), .val (.int p1), .val (.int (2 : Int32)), .val (.int ch1), .val (.int ch2), .val (.int (0 : Int32)), .val (.int ch3), .val (.int ch4), .val (.ref o_251), .val (.ref o_253), .val (.ref o_260), .val (.int (3 : Int32))] [(.int (2 : Int32)), (.ref o_260)])) _
          refine st276.trans ?_
          show Steps p.tables e below (T276.setTop (mkF m 216 #[.val (.int p0), .val (.int p1), .val (.int (2 : Int32)), .val (.int ch1), .val (.int ch2), .val (.int (0 : Int32)), .val (.int ch3), .val (.int ch4), .val (.ref o_251), .val (.ref o_253), .val (.ref o_260), .val (.int (3 : Int32))] [(.int (46 : Int32))])) _
          refine XS.iconst X276.here hx rfl (hb hby at_216) ?_
          refine XS.iloadN X276.here hx rfl (hb hby at_217) rfl ?_
          refine XS.iloadN X276.here hx rfl (hb hby at_218) rfl ?_
          refine XS.iload X276.here hx rfl (hb hby at_219) rfl ?_
          show Steps p.tables e below (T276.setTop (mkF m 221 #[.val (.int p0), .val (.int p1), .val (.int (2 : Int32)), .val (.int ch1), .val (.int ch2), .val (.int (0 : Int32)), .val (.int ch3), .val (.int ch4), .val (.ref o_251), .val (.ref o_253), .val (.ref o_260), .val (.int (3 : Int32))] [(.int ch2), (.int ch1), (.int (2 : Int32)), (.int (2 : Int32)), (.int (46 : Int32))])) _
          refine XS.iload X276.here hx rfl (hb hby at_221) rfl ?_
          refine XS.iload X276.here hx rfl (hb hby at_223) rfl ?_
          show Steps p.tables e below (T276.setTop (mkF m 225 #[.val (.int p0), .val (.int p1), .val (.int (2 : Int32)), .val (.int ch1), .val (.int ch2), .val (.int (0 : Int32)), .val (.int ch3), .val (.int ch4), .val (.ref o_251), .val (.ref o_253), .val (.ref o_260), .val (.int (3 : Int32))] [(.int ch4), (.int ch3), (.int ch2), (.int ch1), (.int (2 : Int32)), (.int (2 : Int32)), (.int (46 : Int32))])) _
          refine st277 _ ?_
          show Steps p.tables e below (T277.setTop (mkF m 228 #[.val (.int p0), .val (.int p1), .val (.int (2 : Int32)), .val (.int ch1), .val (.int ch2), .val (.int (0 : Int32)), .val (.int ch3), .val (.int ch4), .val (.ref o_251), .val (.ref o_253), .val (.ref o_260), .val (.int (3 : Int32))] [(.int (46 : Int32)), (.int (46 : Int32))])) _
          refine XS.icmpYes X277.here hx rfl (pc0 := 228) (pc' := 233) rfl (hb hby at_228) rfl (teq (by decide : (46 : Int32) = (46 : Int32))).1 (by decide) (by decide) ?_
          show Steps p.tables e below (T277.setTop (mkF m 233 #[.val (.int p0), .val (.int p1), .val (.int (2 : Int32)), .val (.int ch1), .val (.int ch2), .val (.int (0 : Int32)), .val (.int ch3), .val (.int ch4), .val (.ref o_251), .val (.ref o_253), .val (.ref o_260), .val (.int (3 : Int32))] [])) _
          refine XS.iconst X277.here hx rfl (hb hby at_233) ?_
          refine XS.iload X277.here hx rfl (hb hby at_234) rfl ?_
          refine XS.icmpYes X277.here hx rfl (pc0 := 236) (pc' := 262) rfl (hb hby at_236) rfl (flt (by decide : ¬ ((3 : Int32) < (3 : Int32)))).2.1 (by decide) (by decide) ?_
          show Steps p.tables e below (T277.setTop (mkF m 262 #[.val (.int p0), .val (.int p1), .val (.int (2 : Int32)), .val (.int ch1), .val (.int ch2), .val (.int (0 : Int32)), .val (.int ch3), .val (.int ch4), .val (.ref o_251), .val (.ref o_253), .val (.ref o_260), .val (.int (3 : Int32))] [])) _
          refine XS.iconst X277.here hx rfl (hb hby at_262) ?_
          refine XS.iload X277.here hx rfl (hb hby at_263) rfl ?_
          refine XS.icmpYes X277.here hx rfl (pc0 := 265) (pc' := 291) rfl (hb hby at_265) rfl (flt (by decide : ¬ ((4 : Int32) < (3 : Int32)))).2.1 (by decide) (by decide) ?_
          show Steps p.tables e below (T277.setTop (mkF m 291 #[.val (.int p0), .val (.int p1), .val (.int (2 : Int32)), .val (.int ch1), .val (.int ch2), .val (.int (0 : Int32)), .val (.int ch3), .val (.int ch4), .val (.ref o_251), .val (.ref o_253), .val (.ref o_260), .val (.int (3 : Int32))] [])) _
          refine XS.iconst X277.here hx rfl (hb hby at_291) ?_
          show Steps p.tables e below (T277.setTop (mkF m 292 #[.val (.int p0), .val (.int p1), .val (.int (2 : Int32)), .val (.int ch1), .val (.int ch2), .val (.int (0 : Int32)), .val (.int ch3), .val (.int ch4), .val (.ref o_251), .val (.ref o_253), .val (.ref o_260), .val (.int (3 : Int32))] [(.int (1 : Int32))])) _
          exact Jvm.RoadKit.retOut X277 hx Bd.returns rfl (Or.inl ⟨rfl, by simp, _, rfl⟩) (hb hby at_292) hr
        · show Q_rm0 Z p0 p1 zc fm h0 n0 _ T277.heap _
          rw [e277]
          unfold Q_rm0
          exact ⟨rfl, N277, K280⟩
      · by_cases hr249 : ((((p1.toUInt32 >>> ((16 : Int32) &&& 31).toUInt32).toInt32) &&& (255 : Int32)) % (3 : Int32)) = (1 : Int32)
        · obtain ⟨ch1, ech1, gch1⟩ : ∃ z, z = ((p0 &&& (255 : Int32)).toUInt32.toUInt16.toUInt32.toInt32) ∧ C8 z := ⟨_, rfl, own_ch8 _⟩
          obtain ⟨ch2, ech2, gch2⟩ : ∃ z, z = ((((p0.toUInt32 >>> ((8 : Int32) &&& 31).toUInt32).toInt32) &&& (255 : Int32)).toUInt32.toUInt16.toUInt32.toInt32) ∧ C8 z := ⟨_, rfl, own_ch8 _⟩
          obtain ⟨ch3, ech3, gch3⟩ : ∃ z, z = ((p1 &&& (255 : Int32)).toUInt32.toUInt16.toUInt32.toInt32) ∧ C8 z := ⟨_, rfl, own_ch8 _⟩
          obtain ⟨ch4, ech4, gch4⟩ : ∃ z, z = ((((p1.toUInt32 >>> ((8 : Int32) &&& 31).toUInt32).toInt32) &&& (255 : Int32)).toUInt32.toUInt16.toUInt32.toInt32) ∧ C8 z := ⟨_, rfl, own_ch8 _⟩
          obtain ⟨_, _, ⟨T282, L282, k282, n282⟩, -, X282, ⟨Lc282, hQ282, l282, y282, z282⟩, st282⟩ := Jvm.LawKit.callS X0 hx (y := (⟨"com/example/syndex/syndex/SectionKeyPathPinLaw", "mk", "(ICC)Ljava/lang/String;"⟩ : MethodName)) hown (mvT hZ (hwk hw 0 rfl)) (mvT hZ (hwk hw 1 rfl)) (mvT hZ (hwk hw 2 rfl)) (mvT hZ (hwk hw 3 rfl)) (by decide) (backOf (W := 0) (mk2 l Z a0 hw [] ch1 ch2 zc h0 n0 O0 gch1 gch2 SZ PZ) hZ (hwk hw 3 rfl) (hwk hw 2 rfl) (by decide) (by decide)) (g := (mkF m 64 #[.val (.int p0), .val (.int p1), .val (.int (2 : Int32)), .val (.int ch1), .val (.int ch2), .val (.int (1 : Int32)), .val (.int ch3), .val (.int ch4), .unset, .unset, .unset, .unset] [(.int ch2), (.int ch1), (.int (2 : Int32))])) rfl (by rw [hml]; rfl) (argsL := [(.int (2 : Int32)), (.int ch1), (.int ch2)]) (rest := []) (lenOf pd_23 rfl) rfl (by show 2 * 0 + _ ≤ _; exact Nat.le_of_eq rfl) (hb hby at_64) (fun _ _ => ⟨rfl, e0, (by decide : 0 + 3 ≤ _), (by decide : 0 + 8 ≤ _)⟩)
          dsimp only [Pt.U, Pt.locs, Pt.cells, Pt.slots] at X282 l282 y282 z282 st282 hQ282
          subst l282 y282 z282
          unfold Q_mk2 at hQ282
          obtain ⟨o_282, t_282, kb_282, rfl, N282q, K282, ge_o_282, f282_0, f282_1, f282_2, f282_3⟩ := hQ282
          have N282 := Fr.app N0 N282q
          have g_o_282 : n0 ≤ o_282 := Nat.le_trans (old_le O0) ge_o_282
          have O283 : Old Z n0 T282.heap := Old.keep O0 K282 all0
          obtain ⟨_, _, ⟨T284, L284, k284, n284⟩, -, X284, ⟨Lc284, hQ284, l284, y284, z284⟩, st284⟩ := Jvm.LawKit.callS X282 hx (y := (⟨"com/example/syndex/syndex/SectionKeyPathPinLaw", "mk", "(ICC)Ljava/lang/String;"⟩ : MethodName)) hown (mvT hZ (hwk hw 0 rfl)) (mvT hZ (hwk hw 1 rfl)) (mvT hZ (hwk hw 2 rfl)) (mvT hZ (hwk hw 3 rfl)) (by decide) (backOf (W := 0) (mk1 l Z a0 hw [] ch3 ch4 zc T282.heap n0 O283 gch3 gch4 SZ PZ) hZ (hwk hw 3 rfl) (hwk hw 2 rfl) (by decide) (by decide)) (g := (mkF m 75 #[.val (.int p0), .val (.int p1), .val (.int (2 : Int32)), .val (.int ch1), .val (.int ch2), .val (.int (1 : Int32)), .val (.int ch3), .val (.int ch4), .val (.ref o_282), .unset, .unset, .unset] [(.int ch4), (.int ch3), (.int (1 : Int32))])) rfl (by rw [hml]; rfl) (argsL := [(.int (1 : Int32)), (.int ch3), (.int ch4)]) (rest := []) (lenOf pd_23 rfl) rfl (by show 2 * 0 + _ ≤ _; exact Nat.le_of_eq rfl) (hb hby at_75) (fun _ _ => ⟨rfl, (rfl : T282.heap = T282.heap), (by decide : 3 + 2 ≤ _), (by decide : 8 + 5 ≤ _)⟩)
          dsimp only [Pt.U, Pt.locs, Pt.cells, Pt.slots] at X284 l284 y284 z284 st284 hQ284
          subst l284 y284 z284
          unfold Q_mk1 at hQ284
          obtain ⟨o_284, t_284, kb_284, rfl, N284q, K284, ge_o_284, f284_0, f284_1, f284_2, f284_3⟩ := hQ284
          have N284 := Fr.app N282 N284q
          have g_o_284 : n0 ≤ o_284 := Nat.le_trans (old_le O283) ge_o_284
          have c285 : Exa Z T284.heap o_282 "java/lang/String" := (Exa.keep f282_0 K284)
          have c286 : Fld Z T284.heap o_282 "java/lang/String" "value" "[B" (.ref t_282) := (Fld.keep f282_1 K284 nin0)
          have c287 : Fld Z T284.heap o_282 "java/lang/String" "coder" "B" (.int (0 : Int32)) := (Fld.keep f282_2 K284 nin0)
          have c288 : Arv Z T284.heap t_282 kb_282 .byte (2 : Int32) [(.int (BY ch1)), (.int (BY ch2))] (.int (0 : Int32)) := (Arv.keep f282_3 K284 nin0)
          have O289 : Old Z n0 T284.heap := Old.keep O283 K284 all0
          have CR291 : CHr Z consts_1 s.vm h0 s.vm T282.heap := CHr.trans CR0 (CHr.keep K282 all0 CR0.1)
          have CR292 : CHr Z consts_1 s.vm h0 s.vm T284.heap := CHr.trans CR291 (CHr.keep K284 all0 CR291.1)
          obtain ⟨_, _, ⟨T290, L290, k290, n290⟩, -, X290, hs290', hg290', ⟨Lc290, hQ290, l290, y290, z290, CX290⟩, st290⟩ := Jvm.RoadKit.callSS X284 hx (y := (⟨"com/example/syndex/syndex/Section", "keyPath", "(Ljava/lang/String;Ljava/lang/String;)Ljava/lang/String;"⟩ : MethodName)) hown (mvT hZ (hwk hw 26 rfl)) (mvT hZ (hwk hw 27 rfl)) (mvT hZ (hwk hw 28 rfl)) (mvT hZ (hwk hw 29 rfl)) (by decide) (own_backSH (W := 0) (kp1 l Z a0 hw [] o_282 t_282 kb_282 (2 : Int32) ([(.int (BY ch1)), (.int (BY ch2))]) o_284 t_284 kb_284 (1 : Int32) ([(.int (BY ch3))]) zc T284.heap n0 O289 c285 c286 c287 c288 f284_0 f284_1 f284_2 f284_3 (by decide) (by decide) rfl rfl SZ PZ) hZ (hwk hw 29 rfl) (hwk hw 28 rfl) (by decide) (by decide) hEL CR292.1 (fun _ q => nomatch q)) (g := (mkF m 84 #[.val (.int p0), .val (.int p1), .val (.int (2 : Int32)), .val (.int ch1), .val (.int ch2), .val (.int (1 : Int32)), .val (.int ch3), .val (.int ch4), .val (.ref o_282), .val (.ref o_284), .unset, .unset] [(.ref o_284), (.ref o_282)])) rfl (by rw [hml]; rfl) (argsL := [(.ref o_282), (.ref o_284)]) (rest := []) (lenOf pd_24 rfl) rfl (by show 2 * 0 + _ ≤ _; exact Nat.le_of_eq rfl) (hb hby at_84) (fun _ _ => ⟨rfl, (rfl : T284.heap = T284.heap), (by decide : 5 + 6 ≤ _), (by decide : 13 + 48 ≤ _)⟩)
          dsimp only [Pt.U, Pt.locs, Pt.cells, Pt.slots] at X290 l290 y290 z290 st290 hQ290 hs290' hg290' CX290
          subst l290 y290 z290
          obtain ⟨X290b, hS290, hZ290, hown290⟩ := rebS hS0 (show _ ≤ T284.heap.size from by rw [(rfl : T284.heap = T284.heap)]; exact (Nat.le_trans (Nat.le_refl _) (Nat.le_trans (Nat.le_trans (Nat.le_refl _) K282.1) K284.1))) X290 hs290' hg290' hZ hown
          unfold Q_kp1 at hQ290
          obtain ⟨o_290, t_290, kb_290, rfl, N290q, K290, ge_o_290, f290_0, f290_1, f290_2, f290_3⟩ := hQ290
          have N290 := Fr.app N284 N290q
          have g_o_290 : n0 ≤ o_290 := Nat.le_trans (old_le O289) ge_o_290
          have W295 : Arv Z T290.heap t_290 kb_290 .byte (4 : Int32) [(.int (BY ch1)), (.int (BY ch2)), (.int (46 : Int32)), (.int (BY ch3))] (.int (0 : Int32)) := own_arv f290_3 rfl
          have hc294 : ∀ c ∈ ([ch1, ch2, (46 : Int32), ch3] : List Int32), ¬ c < 0 ∧ ¬ (255 : Int32) < c := by
            intro c hc
            simp only [List.mem_cons, List.not_mem_nil, or_false] at hc
            rcases hc with rfl | rfl | rfl | rfl
            · exact gch1
            · exact gch2
            · exact (by decide)
            · exact gch3
          have OS293 : OwnStr [ch1, ch2, (46 : Int32), ch3] (4 : Int32) [(.int (BY ch1)), (.int (BY ch2)), (.int (46 : Int32)), (.int (BY ch3))] := own_s255 hc294 (Nat.le_of_ble_eq_true rfl)
          have O296 : Old Z n0 T290.heap := Old.keep O289 K290 all0
          obtain ⟨cq297, kq297, q297a, q297b, q297c⟩ := isOf hZ290 (rfl : T290.heap = T290.heap) f290_0
          obtain ⟨_, _, ⟨T297, L297, k297, n297⟩, -, X297, ⟨Lc297, hQ297, l297, y297, z297⟩, st297⟩ := X290b.virtualBack hx (y := (⟨"java/lang/String", "length", "()I"⟩ : MethodName)) (z := (⟨"java/lang/String", "length", "()I"⟩ : MethodName)) hown290 (mvT hZ290 (hwk hw 35 rfl)) (mvT hZ290 (hwk hw 36 rfl)) (notFace_of_selects (args := #[]) (mvT hZ290 (hwk hw 38 rfl))) (mvT hZ290 (hwk hw 38 rfl)) (mvT hZ290 (hwk hw 37 rfl)) (by decide) (backOf (W := 0) (rm7 l Z a0 hw [] o_290 t_290 kb_290 (4 : Int32) ([(.int (BY ch1)), (.int (BY ch2)), (.int (46 : Int32)), (.int (BY ch3))]) zc T290.heap n0 O296 f290_0 f290_1 f290_2 W295 SZ PZ) hZ290 (hwk hw 39 rfl) (hwk hw 6 rfl) (by decide) (by decide)) q297a q297c (g := (mkF m 136 #[.val (.int p0), .val (.int p1), .val (.int (2 : Int32)), .val (.int ch1), .val (.int ch2), .val (.int (1 : Int32)), .val (.int ch3), .val (.int ch4), .val (.ref o_282), .val (.ref o_284), .val (.ref o_290), .val (.int (4 : Int32))] [(.ref o_290)])) rfl (by rw [hml]; rfl) (Steps.refl _) (argsL := []) (rest := []) (lenOf pd_10 rfl) rfl (by show 2 * 0 + _ ≤ _; exact Nat.le_of_eq rfl) (hb hby at_136) (fun _ _ => ⟨rfl, (rfl : T290.heap = T290.heap), (by decide : 11 + 0 ≤ _), (by decide : 61 + 0 ≤ _)⟩)
          dsimp only [Pt.U, Pt.locs, Pt.cells, Pt.slots] at X297 l297 y297 z297 st297 hQ297
          subst l297 y297 z297
          unfold Q_rm7 at hQ297
          obtain ⟨rfl, N297q, e297⟩ := hQ297
          have N297 := Fr.app N290 N297q
          have hws298 : ∀ d ∈ StrChars.Road.wordsChN, d.before a0 Z = true := fun d hd => hw d ((by decide +kernel : ∀ d ∈ StrChars.Road.wordsChN, d ∈ tables_1) d hd)
          have c299 : Sta Z T290.heap "java/lang/String" "COMPACT_STRINGS" "Z" (.int zc) := Sta.ext (O296).2 SZ
          have c300 : Sta Z T290.heap "jdk/internal/util/Preconditions" "SIOOBE_FORMATTER" "Ljava/util/function/BiFunction;" fm := Sta.ext (O296).2 SF
          obtain ⟨cq301, kq301, q301a, q301b, q301c⟩ := isOf hZ290 e297 f290_0
          obtain ⟨_, _, ⟨T301, L301, k301, n301⟩, -, X301, ⟨Lc301, hQ301, l301, y301, z301⟩, st301⟩ := X297.virtualBack hx (y := (⟨"java/lang/String", "charAt", "(I)C"⟩ : MethodName)) (z := (⟨"java/lang/String", "charAt", "(I)C"⟩ : MethodName)) hown290 (mvT hZ290 (hwk hw 163 rfl)) (mvT hZ290 (hwk hw 164 rfl)) (notFace_of_selects (args := #[]) (mvT hZ290 (hwk hw 166 rfl))) (mvT hZ290 (hwk hw 166 rfl)) (mvT hZ290 (hwk hw 165 rfl)) (by decide) (StrChars.Road.chN (W := 0) hZ290 hws298 (kI := 4) (hwk hw 5 rfl) (i := 0) f290_0 f290_1 f290_2 W295 OS293.1 OS293.2.1 c299 PZ c300 RF OS293.2.2 (Nat.le_of_ble_eq_true rfl) (by decide) (by decide) (by decide)) q301a q301c (g := (mkF m 155 #[.val (.int p0), .val (.int p1), .val (.int (2 : Int32)), .val (.int ch1), .val (.int ch2), .val (.int (1 : Int32)), .val (.int ch3), .val (.int ch4), .val (.ref o_282), .val (.ref o_284), .val (.ref o_290), .val (.int (4 : Int32))] [(.int (0 : Int32)), (.ref o_290)])) rfl (by rw [hml]; rfl) (Steps.refl _) (argsL := [(.int (0 : Int32))]) (rest := []) (lenOf pd_26 rfl) rfl (by show 2 * 0 + _ ≤ _; exact Nat.le_of_eq rfl) (hb hby at_155) (fun _ _ => ⟨rfl, e297, (by decide : 11 + 0 ≤ _), (by decide : 61 + 0 ≤ _)⟩)
          dsimp only [Pt.U, Pt.locs, Pt.cells, Pt.slots] at X301 l301 y301 z301 st301 hQ301
          subst l301 y301 z301
          obtain ⟨hv301, hl301, e301⟩ := hQ301
          cases (show _ = some (Value.int ch1) from hv301)
          have N301 := Fr.app N297 (own_frnil hl301)
          obtain ⟨_, _, ⟨T302, L302, k302, n302⟩, -, X302, ⟨Lc302, hQ302, l302, y302, z302⟩, st302⟩ := Jvm.LawKit.callS X301 hx (y := (⟨"com/example/syndex/syndex/SectionKeyPathPinLaw", "exp", "(IICCCC)C"⟩ : MethodName)) hown290 (mvT hZ290 (hwk hw 185 rfl)) (mvT hZ290 (hwk hw 186 rfl)) (mvT hZ290 (hwk hw 2 rfl)) (mvT hZ290 (hwk hw 187 rfl)) (by decide) (backOf (W := 1) (ex02 l Z a0 hw [] ch1 ch2 ch3 ch4 T290.heap n0 O296 gch1 gch2 gch3 gch4) hZ290 (hwk hw 187 rfl) (hwk hw 2 rfl) (by decide) (by decide)) (g := (mkF m 167 #[.val (.int p0), .val (.int p1), .val (.int (2 : Int32)), .val (.int ch1), .val (.int ch2), .val (.int (1 : Int32)), .val (.int ch3), .val (.int ch4), .val (.ref o_282), .val (.ref o_284), .val (.ref o_290), .val (.int (4 : Int32))] [(.int ch4), (.int ch3), (.int ch2), (.int ch1), (.int (2 : Int32)), (.int (0 : Int32)), (.int ch1)])) rfl (by rw [hml]; rfl) (argsL := [(.int (0 : Int32)), (.int (2 : Int32)), (.int ch1), (.int ch2), (.int ch3), (.int ch4)]) (rest := [(.int ch1)]) (lenOf pd_27 rfl) rfl (by show 2 * 0 + _ ≤ _; exact Nat.le_of_eq rfl) (hb hby at_167) (fun _ _ => ⟨rfl, e301, (by decide : 11 + 0 ≤ _), (by decide : 61 + 0 ≤ _)⟩)
          dsimp only [Pt.U, Pt.locs, Pt.cells, Pt.slots] at X302 l302 y302 z302 st302 hQ302
          subst l302 y302 z302
          unfold Q_ex02 at hQ302
          obtain ⟨rfl, N302q, e302⟩ := hQ302
          have N302 := Fr.app N301 N302q
          have hws303 : ∀ d ∈ StrChars.Road.wordsChN, d.before a0 Z = true := fun d hd => hw d ((by decide +kernel : ∀ d ∈ StrChars.Road.wordsChN, d ∈ tables_1) d hd)
          obtain ⟨cq304, kq304, q304a, q304b, q304c⟩ := isOf hZ290 e302 f290_0
          obtain ⟨_, _, ⟨T304, L304, k304, n304⟩, -, X304, ⟨Lc304, hQ304, l304, y304, z304⟩, st304⟩ := X302.virtualBack hx (y := (⟨"java/lang/String", "charAt", "(I)C"⟩ : MethodName)) (z := (⟨"java/lang/String", "charAt", "(I)C"⟩ : MethodName)) hown290 (mvT hZ290 (hwk hw 163 rfl)) (mvT hZ290 (hwk hw 164 rfl)) (notFace_of_selects (args := #[]) (mvT hZ290 (hwk hw 166 rfl))) (mvT hZ290 (hwk hw 166 rfl)) (mvT hZ290 (hwk hw 165 rfl)) (by decide) (StrChars.Road.chN (W := 0) hZ290 hws303 (kI := 4) (hwk hw 5 rfl) (i := 1) f290_0 f290_1 f290_2 W295 OS293.1 OS293.2.1 c299 PZ c300 RF OS293.2.2 (Nat.le_of_ble_eq_true rfl) (by decide) (by decide) (by decide)) q304a q304c (g := (mkF m 184 #[.val (.int p0), .val (.int p1), .val (.int (2 : Int32)), .val (.int ch1), .val (.int ch2), .val (.int (1 : Int32)), .val (.int ch3), .val (.int ch4), .val (.ref o_282), .val (.ref o_284), .val (.ref o_290), .val (.int (4 : Int32))] [(.int (1 : Int32)), (.ref o_290)])) rfl (by rw [hml]; rfl) (Steps.refl _) (argsL := [(.int (1 : Int32))]) (rest := []) (lenOf pd_26 rfl) rfl (by show 2 * 0 + _ ≤ _; exact Nat.le_of_eq rfl) (hb hby at_184) (fun _ _ => ⟨rfl, e302, (by decide : 11 + 0 ≤ _), (by decide : 61 + 0 ≤ _)⟩)
          dsimp only [Pt.U, Pt.locs, Pt.cells, Pt.slots] at X304 l304 y304 z304 st304 hQ304
          subst l304 y304 z304
          obtain ⟨hv304, hl304, e304⟩ := hQ304
          cases (show _ = some (Value.int ch2) from hv304)
          have N304 := Fr.app N302 (own_frnil hl304)
          obtain ⟨_, _, ⟨T305, L305, k305, n305⟩, -, X305, ⟨Lc305, hQ305, l305, y305, z305⟩, st305⟩ := Jvm.LawKit.callS X304 hx (y := (⟨"com/example/syndex/syndex/SectionKeyPathPinLaw", "exp", "(IICCCC)C"⟩ : MethodName)) hown290 (mvT hZ290 (hwk hw 185 rfl)) (mvT hZ290 (hwk hw 186 rfl)) (mvT hZ290 (hwk hw 2 rfl)) (mvT hZ290 (hwk hw 187 rfl)) (by decide) (backOf (W := 1) (ex12 l Z a0 hw [] ch1 ch2 ch3 ch4 T290.heap n0 O296 gch1 gch2 gch3 gch4) hZ290 (hwk hw 187 rfl) (hwk hw 2 rfl) (by decide) (by decide)) (g := (mkF m 196 #[.val (.int p0), .val (.int p1), .val (.int (2 : Int32)), .val (.int ch1), .val (.int ch2), .val (.int (1 : Int32)), .val (.int ch3), .val (.int ch4), .val (.ref o_282), .val (.ref o_284), .val (.ref o_290), .val (.int (4 : Int32))] [(.int ch4), (.int ch3), (.int ch2), (.int ch1), (.int (2 : Int32)), (.int (1 : Int32)), (.int ch2)])) rfl (by rw [hml]; rfl) (argsL := [(.int (1 : Int32)), (.int (2 : Int32)), (.int ch1), (.int ch2), (.int ch3), (.int ch4)]) (rest := [(.int ch2)]) (lenOf pd_27 rfl) rfl (by show 2 * 0 + _ ≤ _; exact Nat.le_of_eq rfl) (hb hby at_196) (fun _ _ => ⟨rfl, e304, (by decide : 11 + 0 ≤ _), (by decide : 61 + 0 ≤ _)⟩)
          dsimp only [Pt.U, Pt.locs, Pt.cells, Pt.slots] at X305 l305 y305 z305 st305 hQ305
          subst l305 y305 z305
          unfold Q_ex12 at hQ305
          obtain ⟨rfl, N305q, e305⟩ := hQ305
          have N305 := Fr.app N304 N305q
          have hws306 : ∀ d ∈ StrChars.Road.wordsChN, d.before a0 Z = true := fun d hd => hw d ((by decide +kernel : ∀ d ∈ StrChars.Road.wordsChN, d ∈ tables_1) d hd)
          obtain ⟨cq307, kq307, q307a, q307b, q307c⟩ := isOf hZ290 e305 f290_0
          obtain ⟨_, _, ⟨T307, L307, k307, n307⟩, -, X307, ⟨Lc307, hQ307, l307, y307, z307⟩, st307⟩ := X305.virtualBack hx (y := (⟨"java/lang/String", "charAt", "(I)C"⟩ : MethodName)) (z := (⟨"java/lang/String", "charAt", "(I)C"⟩ : MethodName)) hown290 (mvT hZ290 (hwk hw 163 rfl)) (mvT hZ290 (hwk hw 164 rfl)) (notFace_of_selects (args := #[]) (mvT hZ290 (hwk hw 166 rfl))) (mvT hZ290 (hwk hw 166 rfl)) (mvT hZ290 (hwk hw 165 rfl)) (by decide) (StrChars.Road.chN (W := 0) hZ290 hws306 (kI := 4) (hwk hw 5 rfl) (i := 2) f290_0 f290_1 f290_2 W295 OS293.1 OS293.2.1 c299 PZ c300 RF OS293.2.2 (Nat.le_of_ble_eq_true rfl) (by decide) (by decide) (by decide)) q307a q307c (g := (mkF m 213 #[.val (.int p0), .val (.int p1), .val (.int (2 : Int32)), .val (.int ch1), .val (.int ch2), .val (.int (1 : Int32)), .val (.int ch3), .val (.int ch4), .val (.ref o_282), .val (.ref o_284), .val (.ref o_290), .val (.int (4 : Int32))] [(.int (2 : Int32)), (.ref o_290)])) rfl (by rw [hml]; rfl) (Steps.refl _) (argsL := [(.int (2 : Int32))]) (rest := []) (lenOf pd_26 rfl) rfl (by show 2 * 0 + _ ≤ _; exact Nat.le_of_eq rfl) (hb hby at_213) (fun _ _ => ⟨rfl, e305, (by decide : 11 + 0 ≤ _), (by decide : 61 + 0 ≤ _)⟩)
          dsimp only [Pt.U, Pt.locs, Pt.cells, Pt.slots] at X307 l307 y307 z307 st307 hQ307
          subst l307 y307 z307
          obtain ⟨hv307, hl307, e307⟩ := hQ307
          cases (show _ = some (Value.int (46 : Int32)) from hv307)
          have N307 := Fr.app N305 (own_frnil hl307)
          obtain ⟨_, _, ⟨T308, L308, k308, n308⟩, -, X308, ⟨Lc308, hQ308, l308, y308, z308⟩, st308⟩ := Jvm.LawKit.callS X307 hx (y := (⟨"com/example/syndex/syndex/SectionKeyPathPinLaw", "exp", "(IICCCC)C"⟩ : MethodName)) hown290 (mvT hZ290 (hwk hw 185 rfl)) (mvT hZ290 (hwk hw 186 rfl)) (mvT hZ290 (hwk hw 2 rfl)) (mvT hZ290 (hwk hw 187 rfl)) (by decide) (backOf (W := 1) (ex22 l Z a0 hw [] ch1 ch2 ch3 ch4 T290.heap n0 O296 gch1 gch2 gch3 gch4) hZ290 (hwk hw 187 rfl) (hwk hw 2 rfl) (by decide) (by decide)) (g := (mkF m 225 #[.val (.int p0), .val (.int p1), .val (.int (2 : Int32)), .val (.int ch1), .val (.int ch2), .val (.int (1 : Int32)), .val (.int ch3), .val (.int ch4), .val (.ref o_282), .val (.ref o_284), .val (.ref o_290), .val (.int (4 : Int32))] [(.int ch4), (.int ch3), (.int ch2), (.int ch1), (.int (2 : Int32)), (.int (2 : Int32)), (.int (46 : Int32))])) rfl (by rw [hml]; rfl) (argsL := [(.int (2 : Int32)), (.int (2 : Int32)), (.int ch1), (.int ch2), (.int ch3), (.int ch4)]) (rest := [(.int (46 : Int32))]) (lenOf pd_27 rfl) rfl (by show 2 * 0 + _ ≤ _; exact Nat.le_of_eq rfl) (hb hby at_225) (fun _ _ => ⟨rfl, e307, (by decide : 11 + 0 ≤ _), (by decide : 61 + 0 ≤ _)⟩)
          dsimp only [Pt.U, Pt.locs, Pt.cells, Pt.slots] at X308 l308 y308 z308 st308 hQ308
          subst l308 y308 z308
          unfold Q_ex22 at hQ308
          obtain ⟨rfl, N308q, e308⟩ := hQ308
          have N308 := Fr.app N307 N308q
          have hws309 : ∀ d ∈ StrChars.Road.wordsChN, d.before a0 Z = true := fun d hd => hw d ((by decide +kernel : ∀ d ∈ StrChars.Road.wordsChN, d ∈ tables_1) d hd)
          obtain ⟨cq310, kq310, q310a, q310b, q310c⟩ := isOf hZ290 e308 f290_0
          obtain ⟨_, _, ⟨T310, L310, k310, n310⟩, -, X310, ⟨Lc310, hQ310, l310, y310, z310⟩, st310⟩ := X308.virtualBack hx (y := (⟨"java/lang/String", "charAt", "(I)C"⟩ : MethodName)) (z := (⟨"java/lang/String", "charAt", "(I)C"⟩ : MethodName)) hown290 (mvT hZ290 (hwk hw 163 rfl)) (mvT hZ290 (hwk hw 164 rfl)) (notFace_of_selects (args := #[]) (mvT hZ290 (hwk hw 166 rfl))) (mvT hZ290 (hwk hw 166 rfl)) (mvT hZ290 (hwk hw 165 rfl)) (by decide) (StrChars.Road.chN (W := 0) hZ290 hws309 (kI := 4) (hwk hw 5 rfl) (i := 3) f290_0 f290_1 f290_2 W295 OS293.1 OS293.2.1 c299 PZ c300 RF OS293.2.2 (Nat.le_of_ble_eq_true rfl) (by decide) (by decide) (by decide)) q310a q310c (g := (mkF m 242 #[.val (.int p0), .val (.int p1), .val (.int (2 : Int32)), .val (.int ch1), .val (.int ch2), .val (.int (1 : Int32)), .val (.int ch3), .val (.int ch4), .val (.ref o_282), .val (.ref o_284), .val (.ref o_290), .val (.int (4 : Int32))] [(.int (3 : Int32)), (.ref o_290)])) rfl (by rw [hml]; rfl) (Steps.refl _) (argsL := [(.int (3 : Int32))]) (rest := []) (lenOf pd_26 rfl) rfl (by show 2 * 0 + _ ≤ _; exact Nat.le_of_eq rfl) (hb hby at_242) (fun _ _ => ⟨rfl, e308, (by decide : 11 + 0 ≤ _), (by decide : 61 + 0 ≤ _)⟩)
          dsimp only [Pt.U, Pt.locs, Pt.cells, Pt.slots] at X310 l310 y310 z310 st310 hQ310
          subst l310 y310 z310
          obtain ⟨hv310, hl310, e310⟩ := hQ310
          cases (show _ = some (Value.int ch3) from hv310)
          have N310 := Fr.app N308 (own_frnil hl310)
          obtain ⟨_, _, ⟨T311, L311, k311, n311⟩, -, X311, ⟨Lc311, hQ311, l311, y311, z311⟩, st311⟩ := Jvm.LawKit.callS X310 hx (y := (⟨"com/example/syndex/syndex/SectionKeyPathPinLaw", "exp", "(IICCCC)C"⟩ : MethodName)) hown290 (mvT hZ290 (hwk hw 185 rfl)) (mvT hZ290 (hwk hw 186 rfl)) (mvT hZ290 (hwk hw 2 rfl)) (mvT hZ290 (hwk hw 187 rfl)) (by decide) (backOf (W := 1) (ex32 l Z a0 hw [] ch1 ch2 ch3 ch4 T290.heap n0 O296 gch1 gch2 gch3 gch4) hZ290 (hwk hw 187 rfl) (hwk hw 2 rfl) (by decide) (by decide)) (g := (mkF m 254 #[.val (.int p0), .val (.int p1), .val (.int (2 : Int32)), .val (.int ch1), .val (.int ch2), .val (.int (1 : Int32)), .val (.int ch3), .val (.int ch4), .val (.ref o_282), .val (.ref o_284), .val (.ref o_290), .val (.int (4 : Int32))] [(.int ch4), (.int ch3), (.int ch2), (.int ch1), (.int (2 : Int32)), (.int (3 : Int32)), (.int ch3)])) rfl (by rw [hml]; rfl) (argsL := [(.int (3 : Int32)), (.int (2 : Int32)), (.int ch1), (.int ch2), (.int ch3), (.int ch4)]) (rest := [(.int ch3)]) (lenOf pd_27 rfl) rfl (by show 2 * 0 + _ ≤ _; exact Nat.le_of_eq rfl) (hb hby at_254) (fun _ _ => ⟨rfl, e310, (by decide : 11 + 0 ≤ _), (by decide : 61 + 0 ≤ _)⟩)
          dsimp only [Pt.U, Pt.locs, Pt.cells, Pt.slots] at X311 l311 y311 z311 st311 hQ311
          subst l311 y311 z311
          unfold Q_ex32 at hQ311
          obtain ⟨rfl, N311q, e311⟩ := hQ311
          have N311 := Fr.app N310 N311q
          have K312 : Keep h0 T282.heap [] := Keep.trans (Keep.refl h0 []) K282 all0
          have K313 : Keep h0 T284.heap [] := Keep.trans K312 K284 all0
          have K314 : Keep h0 T290.heap [] := Keep.trans K313 K290 all0
          have CR315 : CHr Z consts_1 s.vm h0 T290.vm T290.heap := CHr.trans CR292 CX290
          obtain ⟨fs, hr, hrun, hended, hRE⟩ := X311.leaveW hS290 (show _ ≤ T311.heap.size from by rw [e311]; exact (Nat.le_refl _)) (v := some (.int (1 : Int32))) (fun h => by rw [Bd.returns] at h; cases h)
          have CRl : CHr Z consts_1 s.vm s.heap (T311.setFrames fs).vm (T311.setFrames fs).heap := by
            have q := CHr.trans CR315 (CHv.at X311 hZ290 hEL CR315.1)
            rw [← hh, ← e311] at q
            exact q
          refine ⟨_, _, S250 _ ?_, hrun, hended, _, _, rfl, ?_, CRl, hRE.1, hRE.2.1, hRE.2.2.1, hRE.2.2.2.mono (by decide) (by decide)⟩
          · show Steps p.tables e below (s₁.setTop (mkF m 39 #[.val (.int p0), .val (.int p1), .val (.int (2 : Int32)), .val (.int ((p0 &&& (255 : Int32)).toUInt32.toUInt16.toUInt32.toInt32)), .val (.int ((((p0.toUInt32 >>> ((8 : Int32) &&& 31).toUInt32).toInt32) &&& (255 : Int32)).toUInt32.toUInt16.toUInt32.toInt32)), .unset, .unset, .unset, .unset, .unset, .unset, .unset] [(.int ((((p1.toUInt32 >>> ((16 : Int32) &&& 31).toUInt32).toInt32) &&& (255 : Int32)) % (3 : Int32)))])) _
            rw [hr249]
            show Steps p.tables e below (s₁.setTop (mkF m 39 #[.val (.int p0), .val (.int p1), .val (.int (2 : Int32)), .val (.int ((p0 &&& (255 : Int32)).toUInt32.toUInt16.toUInt32.toInt32)), .val (.int ((((p0.toUInt32 >>> ((8 : Int32) &&& 31).toUInt32).toInt32) &&& (255 : Int32)).toUInt32.toUInt16.toUInt32.toInt32)), .unset, .unset, .unset, .unset, .unset, .unset, .unset] [(.int (1 : Int32))])) _
            refine XS.istore X0.here hx rfl (hb hby at_39) rfl (l' := #[.val (.int p0), .val (.int p1), .val (.int (2 : Int32)), .val (.int ((p0 &&& (255 : Int32)).toUInt32.toUInt16.toUInt32.toInt32)), .val (.int ((((p0.toUInt32 >>> ((8 : Int32) &&& 31).toUInt32).toInt32) &&& (255 : Int32)).toUInt32.toUInt16.toUInt32.toInt32)), .val (.int (1 : Int32)), .unset, .unset, .unset, .unset, .unset, .unset]) rfl ?_
            show Steps p.tables e below (s₁.setTop (mkF m 41 #[.val (.int p0), .val (.int p1), .val (.int (2 : Int32)), .val (.int ((p0 &&& (255 : Int32)).toUInt32.toUInt16.toUInt32.toInt32)), .val (.int ((((p0.toUInt32 >>> ((8 : Int32) &&& 31).toUInt32).toInt32) &&& (255 : Int32)).toUInt32.toUInt16.toUInt32.toInt32)), .val (.int (1 : Int32)), .unset, .unset, .unset, .unset, .unset, .unset] [])) _
            refine XS.iloadN X0.here hx rfl (hb hby at_41) rfl ?_
            refine XS.sipush X0.here hx rfl (hb hby at_42) ?_
            refine XS.iand X0.here hx rfl (hb hby at_45) rfl ?_
            show Steps p.tables e below (s₁.setTop (mkF m 46 #[.val (.int p0), .val (.int p1), .val (.int (2 : Int32)), .val (.int ((p0 &&& (255 : Int32)).toUInt32.toUInt16.toUInt32.toInt32)), .val (.int ((((p0.toUInt32 >>> ((8 : Int32) &&& 31).toUInt32).toInt32) &&& (255 : Int32)).toUInt32.toUInt16.toUInt32.toInt32)), .val (.int (1 : Int32)), .unset, .unset, .unset, .unset, .unset, .unset] [(.int (p1 &&& (255 : Int32)))])) _
            refine XS.i2c X0.here hx rfl (hb hby at_46) rfl ?_
            show Steps p.tables e below (s₁.setTop (mkF m 47 #[.val (.int p0), .val (.int p1), .val (.int (2 : Int32)), .val (.int ((p0 &&& (255 : Int32)).toUInt32.toUInt16.toUInt32.toInt32)), .val (.int ((((p0.toUInt32 >>> ((8 : Int32) &&& 31).toUInt32).toInt32) &&& (255 : Int32)).toUInt32.toUInt16.toUInt32.toInt32)), .val (.int (1 : Int32)), .unset, .unset, .unset, .unset, .unset, .unset] [(.int ((p1 &&& (255 : Int32)).toUInt32.toUInt16.toUInt32.toInt32))])) _
            refine XS.istore X0.here hx rfl (hb hby at_47) rfl (l' := #[.val (.int p0), .val (.int p1), .val (.int (2 : Int32)), .val (.int ((p0 &&& (255 : Int32)).toUInt32.toUInt16.toUInt32.toInt32)), .val (.int ((((p0.toUInt32 >>> ((8 : Int32) &&& 31).toUInt32).toInt32) &&& (255 : Int32)).toUInt32.toUInt16.toUInt32.toInt32)), .val (.int (1 : Int32)), .val (.int ((p1 &&& (255 : Int32)).toUInt32.toUInt16.toUInt32.toInt32)), .unset, .unset, .unset, .unset, .unset]) rfl ?_
            show Steps p.tables e below (s₁.setTop (mkF m 49 #[.val (.int p0), .val (.int p1), .val (.int (2 : Int32)), .val (.int ((p0 &&& (255 : Int32)).toUInt32.toUInt16.toUInt32.toInt32)), .val (.int ((((p0.toUInt32 >>> ((8 : Int32) &&& 31).toUInt32).toInt32) &&& (255 : Int32)).toUInt32.toUInt16.toUInt32.toInt32)), .val (.int (1 : Int32)), .val (.int ((p1 &&& (255 : Int32)).toUInt32.toUInt16.toUInt32.toInt32)), .unset, .unset, .unset, .unset, .unset] [])) _
            refine XS.iloadN X0.here hx rfl (hb hby at_49) rfl ?_
            refine XS.bipush X0.here hx rfl (hb hby at_50) ?_
            refine XS.iushr X0.here hx rfl (hb hby at_52) rfl ?_
            show Steps p.tables e below (s₁.setTop (mkF m 53 #[.val (.int p0), .val (.int p1), .val (.int (2 : Int32)), .val (.int ((p0 &&& (255 : Int32)).toUInt32.toUInt16.toUInt32.toInt32)), .val (.int ((((p0.toUInt32 >>> ((8 : Int32) &&& 31).toUInt32).toInt32) &&& (255 : Int32)).toUInt32.toUInt16.toUInt32.toInt32)), .val (.int (1 : Int32)), .val (.int ((p1 &&& (255 : Int32)).toUInt32.toUInt16.toUInt32.toInt32)), .unset, .unset, .unset, .unset, .unset] [(.int ((p1.toUInt32 >>> ((8 : Int32) &&& 31).toUInt32).toInt32))])) _
            refine XS.sipush X0.here hx rfl (hb hby at_53) ?_
            refine XS.iand X0.here hx rfl (hb hby at_56) rfl ?_
            show Steps p.tables e below (s₁.setTop (mkF m 57 #[.val (.int p0), .val (.int p1), .val (.int (2 : Int32)), .val (.int ((p0 &&& (255 : Int32)).toUInt32.toUInt16.toUInt32.toInt32)), .val (.int ((((p0.toUInt32 >>> ((8 : Int32) &&& 31).toUInt32).toInt32) &&& (255 : Int32)).toUInt32.toUInt16.toUInt32.toInt32)), .val (.int (1 : Int32)), .val (.int ((p1 &&& (255 : Int32)).toUInt32.toUInt16.toUInt32.toInt32)), .unset, .unset, .unset, .unset, .unset] [(.int (((p1.toUInt32 >>> ((8 : Int32) &&& 31).toUInt32).toInt32) &&& (255 : Int32)))])) _
            refine XS.i2c X0.here hx rfl (hb hby at_57) rfl ?_
            show Steps p.tables e below (s₁.setTop (mkF m 58 #[.val (.int p0), .val (.int p1), .val (.int (2 : Int32)), .val (.int ((p0 &&& (255 : Int32)).toUInt32.toUInt16.toUInt32.toInt32)), .val (.int ((((p0.toUInt32 >>> ((8 : Int32) &&& 31).toUInt32).toInt32) &&& (255 : Int32)).toUInt32.toUInt16.toUInt32.toInt32)), .val (.int (1 : Int32)), .val (.int ((p1 &&& (255 : Int32)).toUInt32.toUInt16.toUInt32.toInt32)), .unset, .unset, .unset, .unset, .unset] [(.int ((((p1.toUInt32 >>> ((8 : Int32) &&& 31).toUInt32).toInt32) &&& (255 : Int32)).toUInt32.toUInt16.toUInt32.toInt32))])) _
            refine XS.istore X0.here hx rfl (hb hby at_58) rfl (l' := #[.val (.int p0), .val (.int p1), .val (.int (2 : Int32)), .val (.int ((p0 &&& (255 : Int32)).toUInt32.toUInt16.toUInt32.toInt32)), .val (.int ((((p0.toUInt32 >>> ((8 : Int32) &&& 31).toUInt32).toInt32) &&& (255 : Int32)).toUInt32.toUInt16.toUInt32.toInt32)), .val (.int (1 : Int32)), .val (.int ((p1 &&& (255 : Int32)).toUInt32.toUInt16.toUInt32.toInt32)), .val (.int ((((p1.toUInt32 >>> ((8 : Int32) &&& 31).toUInt32).toInt32) &&& (255 : Int32)).toUInt32.toUInt16.toUInt32.toInt32)), .unset, .unset, .unset, .unset]) rfl ?_
            show Steps p.tables e below (s₁.setTop (mkF m 60 #[.val (.int p0), .val (.int p1), .val (.int (2 : Int32)), .val (.int ((p0 &&& (255 : Int32)).toUInt32.toUInt16.toUInt32.toInt32)), .val (.int ((((p0.toUInt32 >>> ((8 : Int32) &&& 31).toUInt32).toInt32) &&& (255 : Int32)).toUInt32.toUInt16.toUInt32.toInt32)), .val (.int (1 : Int32)), .val (.int ((p1 &&& (255 : Int32)).toUInt32.toUInt16.toUInt32.toInt32)), .val (.int ((((p1.toUInt32 >>> ((8 : Int32) &&& 31).toUInt32).toInt32) &&& (255 : Int32)).toUInt32.toUInt16.toUInt32.toInt32)), .unset, .unset, .unset, .unset] [])) _
            rw [← ech1]
            show Steps p.tables e below (s₁.setTop (mkF m 60 #[.val (.int p0), .val (.int p1), .val (.int (2 : Int32)), .val (.int ch1), .val (.int ((((p0.toUInt32 >>> ((8 : Int32) &&& 31).toUInt32).toInt32) &&& (255 : Int32)).toUInt32.toUInt16.toUInt32.toInt32)), .val (.int (1 : Int32)), .val (.int ((p1 &&& (255 : Int32)).toUInt32.toUInt16.toUInt32.toInt32)), .val (.int ((((p1.toUInt32 >>> ((8 : Int32) &&& 31).toUInt32).toInt32) &&& (255 : Int32)).toUInt32.toUInt16.toUInt32.toInt32)), .unset, .unset, .unset, .unset] [])) _
            rw [← ech2]
            show Steps p.tables e below (s₁.setTop (mkF m 60 #[.val (.int p0), .val (.int p1), .val (.int (2 : Int32)), .val (.int ch1), .val (.int ch2), .val (.int (1 : Int32)), .val (.int ((p1 &&& (255 : Int32)).toUInt32.toUInt16.toUInt32.toInt32)), .val (.int ((((p1.toUInt32 >>> ((8 : Int32) &&& 31).toUInt32).toInt32) &&& (255 : Int32)).toUInt32.toUInt16.toUInt32.toInt32)), .unset, .unset, .unset, .unset] [])) _
            rw [← ech3]
            show Steps p.tables e below (s₁.setTop (mkF m 60 #[.val (.int p0), .val (.int p1), .val (.int (2 : Int32)), .val (.int ch1), .val (.int ch2), .val (.int (1 : Int32)), .val (.int ch3), .val (.int ((((p1.toUInt32 >>> ((8 : Int32) &&& 31).toUInt32).toInt32) &&& (255 : Int32)).toUInt32.toUInt16.toUInt32.toInt32)), .unset, .unset, .unset, .unset] [])) _
            rw [← ech4]
            show Steps p.tables e below (s₁.setTop (mkF m 60 #[.val (.int p0), .val (.int p1), .val (.int (2 : Int32)), .val (.int ch1), .val (.int ch2), .val (.int (1 : Int32)), .val (.int ch3), .val (.int ch4), .unset, .unset, .unset, .unset] [])) _
            refine XS.iloadN X0.here hx rfl (hb hby at_60) rfl ?_
            refine XS.iloadN X0.here hx rfl (hb hby at_61) rfl ?_
            refine XS.iload X0.here hx rfl (hb hby at_62) rfl ?_
            show Steps p.tables e below (s₁.setTop (mkF m 64 #[.val (.int p0), .val (.int p1), .val (.int (2 : Int32)), .val (.int ch1), .val (.int ch2), .val (.int (1 : Int32)), .val (.int ch3), .val (.int ch4), .unset, .unset, .unset, .unset] [(.int ch2), (.int ch1), (.int (2 : Int32))])) _
            refine st282 _ ?_
            show Steps p.tables e below (T282.setTop (mkF m 67 #[.val (.int p0), .val (.int p1), .val (.int (2 : Int32)), .val (.int ch1), .val (.int ch2), .val (.int (1 : Int32)), .val (.int ch3), .val (.int ch4), .unset, .unset, .unset, .unset] [(.ref o_282)])) _
            refine XS.astore X282.here hx rfl (hb hby at_67) rfl rfl (l' := #[.val (.int p0), .val (.int p1), .val (.int (2 : Int32)), .val (.int ch1), .val (.int ch2), .val (.int (1 : Int32)), .val (.int ch3), .val (.int ch4), .val (.ref o_282), .unset, .unset, .unset]) rfl ?_
            show Steps p.tables e below (T282.setTop (mkF m 69 #[.val (.int p0), .val (.int p1), .val (.int (2 : Int32)), .val (.int ch1), .val (.int ch2), .val (.int (1 : Int32)), .val (.int ch3), .val (.int ch4), .val (.ref o_282), .unset, .unset, .unset] [])) _
            refine XS.iload X282.here hx rfl (hb hby at_69) rfl ?_
            refine XS.iload X282.here hx rfl (hb hby at_71) rfl ?_
            refine XS.iload X282.here hx rfl (hb hby at_73) rfl ?_
            show Steps p.tables e below (T282.setTop (mkF m 75 #[.val (.int p0), .val (.int p1), .val (.int (2 : Int32)), .val (.int ch1), .val (.int ch2), .val (.int (1 : Int32)), .val (.int ch3), .val (.int ch4), .val (.ref o_282), .unset, .unset, .unset] [(.int ch4), (.int ch3), (.int (1 : Int32))])) _
            refine st284 _ ?_
            show Steps p.tables e below (T284.setTop (mkF m 78 #[.val (.int p0), .val (.int p1), .val (.int (2 : Int32)), .val (.int ch1), .val (.int ch2), .val (.int (1 : Int32)), .val (.int ch3), .val (.int ch4), .val (.ref o_282), .unset, .unset, .unset] [(.ref o_284)])) _
            refine XS.astore X284.here hx rfl (hb hby at_78) rfl rfl (l' := #[.val (.int p0), .val (.int p1), .val (.int (2 : Int32)), .val (.int ch1), .val (.int ch2), .val (.int (1 : Int32)), .val (.int ch3), .val (.int ch4), .val (.ref o_282), .val (.ref o_284), .unset, .unset]) rfl ?_
            show Steps p.tables e below (T284.setTop (mkF m 80 #[.val (.int p0), .val (.int p1), .val (.int (2 : Int32)), .val (.int ch1), .val (.int ch2), .val (.int (1 : Int32)), .val (.int ch3), .val (.int ch4), .val (.ref o_282), .val (.ref o_284), .unset, .unset] [])) _
            refine XS.aload X284.here hx rfl (hb hby at_80) rfl rfl ?_
            refine XS.aload X284.here hx rfl (hb hby at_82) rfl rfl ?_
            show Steps p.tables e below (T284.setTop (mkF m 84 #[.val (.int p0), .val (.int p1), .val (.int (2 : Int32)), .val (.int ch1), .val (.int ch2), .val (.int (1 : Int32)), .val (.int ch3), .val (.int ch4), .val (.ref o_282), .val (.ref o_284), .unset, .unset] [(.ref o_284), (.ref o_282)])) _
            refine st290.trans ?_
            show Steps p.tables e below (T290.setTop (mkF m 87 #[.val (.int p0), .val (.int p1), .val (.int (2 : Int32)), .val (.int ch1), .val (.int ch2), .val (.int (1 : Int32)), .val (.int ch3), .val (.int ch4), .val (.ref o_282), .val (.ref o_284), .unset, .unset] [(.ref o_290)])) _
            refine XS.astore X290b.here hx rfl (hb hby at_87) rfl rfl (l' := #[.val (.int p0), .val (.int p1), .val (.int (2 : Int32)), .val (.int ch1), .val (.int ch2), .val (.int (1 : Int32)), .val (.int ch3), .val (.int ch4), .val (.ref o_282), .val (.ref o_284), .val (.ref o_290), .unset]) rfl ?_
            show Steps p.tables e below (T290.setTop (mkF m 89 #[.val (.int p0), .val (.int p1), .val (.int (2 : Int32)), .val (.int ch1), .val (.int ch2), .val (.int (1 : Int32)), .val (.int ch3), .val (.int ch4), .val (.ref o_282), .val (.ref o_284), .val (.ref o_290), .unset] [])) _
            refine XS.aload X290b.here hx rfl (hb hby at_89) rfl rfl ?_
            refine XS.ifnonnullYes X290b.here hx rfl (pc0 := 91) (pc' := 96) rfl (hb hby at_91) rfl (by decide) (by decide) ?_
            show Steps p.tables e below (T290.setTop (mkF m 96 #[.val (.int p0), .val (.int p1), .val (.int (2 : Int32)), .val (.int ch1), .val (.int ch2), .val (.int (1 : Int32)), .val (.int ch3), .val (.int ch4), .val (.ref o_282), .val (.ref o_284), .val (.ref o_290), .unset] [])) _
            refine XS.iloadN X290b.here hx rfl (hb hby at_96) rfl ?_
            refine XS.ifYes X290b.here hx rfl (pc0 := 97) (pc' := 126) rfl (hb hby at_97) rfl ((if0 _ _).trans (feq (by decide : ¬ ((2 : Int32) = (0 : Int32)))).2) (by decide) (by decide) ?_
            show Steps p.tables e below (T290.setTop (mkF m 126 #[.val (.int p0), .val (.int p1), .val (.int (2 : Int32)), .val (.int ch1), .val (.int ch2), .val (.int (1 : Int32)), .val (.int ch3), .val (.int ch4), .val (.ref o_282), .val (.ref o_284), .val (.ref o_290), .unset] [])) _
            refine XS.iloadN X290b.here hx rfl (hb hby at_126) rfl ?_
            refine XS.iconst X290b.here hx rfl (hb hby at_127) ?_
            refine XS.iadd X290b.here hx rfl (hb hby at_128) rfl ?_
            show Steps p.tables e below (T290.setTop (mkF m 129 #[.val (.int p0), .val (.int p1), .val (.int (2 : Int32)), .val (.int ch1), .val (.int ch2), .val (.int (1 : Int32)), .val (.int ch3), .val (.int ch4), .val (.ref o_282), .val (.ref o_284), .val (.ref o_290), .unset] [(.int ((2 : Int32) + (1 : Int32)))])) _
            rw [show ((2 : Int32) + (1 : Int32)) = (3 : Int32) from by decide]
            show Steps p.tables e below (T290.setTop (mkF m 129 #[.val (.int p0), .val (.int p1), .val (.int (2 : Int32)), .val (.int ch1), .val (.int ch2), .val (.int (1 : Int32)), .val (.int ch3), .val (.int ch4), .val (.ref o_282), .val (.ref o_284), .val (.ref o_290), .unset] [(.int (3 : Int32))])) _
            refine XS.iload X290b.here hx rfl (hb hby at_129) rfl ?_
            refine XS.iadd X290b.here hx rfl (hb hby at_131) rfl ?_
            show Steps p.tables e below (T290.setTop (mkF m 132 #[.val (.int p0), .val (.int p1), .val (.int (2 : Int32)), .val (.int ch1), .val (.int ch2), .val (.int (1 : Int32)), .val (.int ch3), .val (.int ch4), .val (.ref o_282), .val (.ref o_284), .val (.ref o_290), .unset] [(.int ((3 : Int32) + (1 : Int32)))])) _
            rw [show ((3 : Int32) + (1 : Int32)) = (4 : Int32) from by decide]
            show Steps p.tables e below (T290.setTop (mkF m 132 #[.val (.int p0), .val (.int p1), .val (.int (2 : Int32)), .val (.int ch1), .val (.int ch2), .val (.int (1 : Int32)), .val (.int ch3), .val (.int ch4), .val (.ref o_282), .val (.ref o_284), .val (.ref o_290), .unset] [(.int (4 : Int32))])) _
            refine XS.istore X290b.here hx rfl (hb hby at_132) rfl (l' := #[.val (.int p0), .val (.int p1), .val (.int (2 : Int32)), .val (.int ch1), .val (.int ch2), .val (.int (1 : Int32)), .val (.int ch3), .val (.int ch4), .val (.ref o_282), .val (.ref o_284), .val (.ref o_290), .val (.int (4 : Int32))]) rfl ?_
            show Steps p.tables e below (T290.setTop (mkF m 134 #[.val (.int p0), .val (.int p1), .val (.int (2 : Int32)), .val (.int ch1), .val (.int ch2), .val (.int (1 : Int32)), .val (.int ch3), .val (.int ch4), .val (.ref o_282), .val (.ref o_284), .val (.ref o_290), .val (.int (4 : Int32))] [])) _
            refine XS.aload X290b.here hx rfl (hb hby at_134) rfl rfl ?_
            show Steps p.tables e below (T290.setTop (mkF m 136 #[.val (.int p0), .val (.int p1), .val (.int (2 : Int32)), .val (.int ch1), .val (.int ch2), .val (.int (1 : Int32)), .val (.int ch3), .val (.int ch4), .val (.ref o_282), .val (.ref o_284), .val (.ref o_290), .val (.int (4 : Int32))] [(.ref o_290)])) _
            refine st297.trans ?_
            show Steps p.tables e below (T297.setTop (mkF m 139 #[.val (.int p0), .val (.int p1), .val (.int (2 : Int32)), .val (.int ch1), .val (.int ch2), .val (.int (1 : Int32)), .val (.int ch3), .val (.int ch4), .val (.ref o_282), .val (.ref o_284), .val (.ref o_290), .val (.int (4 : Int32))] [(.int (4 : Int32))])) _
            refine XS.iload X297.here hx rfl (hb hby at_139) rfl ?_
            refine XS.icmpYes X297.here hx rfl (pc0 := 141) (pc' := 146) rfl (hb hby at_141) rfl (teq (by decide : (4 : Int32) = (4 : Int32))).1 (by decide) (by decide) ?_
            show Steps p.tables e below (T297.setTop (mkF m 146 #[.val (.int p0), .val (.int p1), .val (.int (2 : Int32)), .val (.int ch1), .val (.int ch2), .val (.int (1 : Int32)), .val (.int ch3), .val (.int ch4), .val (.ref o_282), .val (.ref o_284), .val (.ref o_290), .val (.int (4 : Int32))] [])) _
            refine XS.iconst X297.here hx rfl (hb hby at_146) ?_
            refine XS.iload X297.here hx rfl (hb hby at_147) rfl ?_
            refine XS.icmpNo X297.here hx rfl (hb hby at_149) rfl (tlt (by decide : (0 : Int32) < (4 : Int32))).2.1 ?_
            show Steps p.tables e below (T297.setTop (mkF m 152 #[.val (.int p0), .val (.int p1), .val (.int (2 : Int32)), .val (.int ch1), .val (.int ch2), .val (.int (1 : Int32)), .val (.int ch3), .val (.int ch4), .val (.ref o_282), .val (.ref o_284), .val (.ref o_290), .val (.int (4 : Int32))] [])) _
            refine XS.aload X297.here hx rfl (hb hby at_152) rfl rfl ?_
            refine XS.iconst X297.here hx rfl (hb hby at_154) ?_
            show Steps p.tables e below (T297.setTop (mkF m 155 #[.val (.int p0), .val (.int p1), .val (.int (2 : Int32)), .val (.int ch1), .val (.int ch2), .val (.int (1 : Int32)), .val (.int ch3), .val (.int ch4), .val (.ref o_282), .val (.ref o_284), .val (.ref o_290), .val (.int (4 : Int32))] [(.int (0 : Int32)), (.ref o_290)])) _
            refine st301.trans ?_
            show Steps p.tables e below (T301.setTop (mkF m 158 #[.val (.int p0), .val (.int p1), .val (.int (2 : Int32)), .val (.int ch1), .val (.int ch2), .val (.int (1 : Int32)), .val (.int ch3), .val (.int ch4), .val (.ref o_282), .val (.ref o_284), .val (.ref o_290), .val (.int (4 : Int32))] [(.int ch1)])) _
            refine XS.iconst X301.here hx rfl (hb hby at_158) ?_
            refine XS.iloadN X301.here hx rfl (hb hby at_159) rfl ?_
            refine XS.iloadN X301.here hx rfl (hb hby at_160) rfl ?_
            refine XS.iload X301.here hx rfl (hb hby at_161) rfl ?_
            show Steps p.tables e below (T301.setTop (mkF m 163 #[.val (.int p0), .val (.int p1), .val (.int (2 : Int32)), .val (.int ch1), .val (.int ch2), .val (.int (1 : Int32)), .val (.int ch3), .val (.int ch4), .val (.ref o_282), .val (.ref o_284), .val (.ref o_290), .val (.int (4 : Int32))] [(.int ch2), (.int ch1), (.int (2 : Int32)), (.int (0 : Int32)), (.int ch1)])) _
            refine XS.iload X301.here hx rfl (hb hby at_163) rfl ?_
            refine XS.iload X301.here hx rfl (hb hby at_165) rfl ?_
            show Steps p.tables e below (T301.setTop (mkF m 167 #[.val (.int p0), .val (.int p1), .val (.int (2 : Int32)), .val (.int ch1), .val (.int ch2), .val (.int (1 : Int32)), .val (.int ch3), .val (.int ch4), .val (.ref o_282), .val (.ref o_284), .val (.ref o_290), .val (.int (4 : Int32))] [(.int ch4), (.int ch3), (.int ch2), (.int ch1), (.int (2 : Int32)), (.int (0 : Int32)), (.int ch1)])) _
            refine st302 _ ?_
            show Steps p.tables e below (T302.setTop (mkF m 170 #[.val (.int p0), .val (.int p1), .val (.int (2 : Int32)), .val (.int ch1), .val (.int ch2), .val (.int (1 : Int32)), .val (.int ch3), .val (.int ch4), .val (.ref o_282), .val (.ref o_284), .val (.ref o_290), .val (.int (4 : Int32))] [(.int ch1), (.int ch1)])) _
            refine XS.icmpYes X302.here hx rfl (pc0 := 170) (pc' := 175) rfl (hb hby at_170) rfl (teq (rfl : ch1 = ch1)).1 (by decide) (by decide) ?_
            show Steps p.tables e below (T302.setTop (mkF m 175 #[.val (.int p0), .val (.int p1), .val (.int (2 : Int32)), .val (.int ch1), .val (.int ch2), .val (.int (1 : Int32)), .val (.int ch3), .val (.int ch4), .val (.ref o_282), .val (.ref o_284), .val (.ref o_290), .val (.int (4 : Int32))] [])) _
            refine XS.iconst X302.here hx rfl (hb hby at_175) ?_
            refine XS.iload X302.here hx rfl (hb hby at_176) rfl ?_
            refine XS.icmpNo X302.here hx rfl (hb hby at_178) rfl (tlt (by decide : (1 : Int32) < (4 : Int32))).2.1 ?_
            show Steps p.tables e below (T302.setTop (mkF m 181 #[.val (.int p0), .val (.int p1), .val (.int (2 : Int32)), .val (.int ch1), .val (.int ch2), .val (.int (1 : Int32)), .val (.int ch3), .val (.int ch4), .val (.ref o_282), .val (.ref o_284), .val (.ref o_290), .val (.int (4 : Int32))] [])) _
            refine XS.aload X302.here hx rfl (hb hby at_181) rfl rfl ?_
            refine XS.iconst X302.here hx rfl (hb hby at_183) ?_
            show Steps p.tables e below (T302.setTop (mkF m 184 #[.val (.int p0), .val (.int p1), .val (.int (2 : Int32)), .val (.int ch1), .val (.int ch2), .val (.int (1 : Int32)), .val (.int ch3), .val (.int ch4), .val (.ref o_282), .val (.ref o_284), .val (.ref o_290), .val (.int (4 : Int32))] [(.int (1 : Int32)), (.ref o_290)])) _
            refine st304.trans ?_
            show Steps p.tables e below (T304.setTop (mkF m 187 #[.val (.int p0), .val (.int p1), .val (.int (2 : Int32)), .val (.int ch1), .val (.int ch2), .val (.int (1 : Int32)), .val (.int ch3), .val (.int ch4), .val (.ref o_282), .val (.ref o_284), .val (.ref o_290), .val (.int (4 : Int32))] [(.int ch2)])) _
            refine XS.iconst X304.here hx rfl (hb hby at_187) ?_
            refine XS.iloadN X304.here hx rfl (hb hby at_188) rfl ?_
            refine XS.iloadN X304.here hx rfl (hb hby at_189) rfl ?_
            refine XS.iload X304.here hx rfl (hb hby at_190) rfl ?_
            show Steps p.tables e below (T304.setTop (mkF m 192 #[.val (.int p0), .val (.int p1), .val (.int (2 : Int32)), .val (.int ch1), .val (.int ch2), .val (.int (1 : Int32)), .val (.int ch3), .val (.int ch4), .val (.ref o_282), .val (.ref o_284), .val (.ref o_290), .val (.int (4 : Int32))] [(.int ch2), (.int ch1), (.int (2 : Int32)), (.int (1 : Int32)), (.int ch2)])) _
            refine XS.iload X304.here hx rfl (hb hby at_192) rfl ?_
            refine XS.iload X304.here hx rfl (hb hby at_194) rfl ?_
            show Steps p.tables e below (T304.setTop (mkF m 196 #[.val (.int p0), .val (.int p1), .val (.int (2 : Int32)), .val (.int ch1), .val (.int ch2), .val (.int (1 : Int32)), .val (.int ch3), .val (.int ch4), .val (.ref o_282), .val (.ref o_284), .val (.ref o_290), .val (.int (4 : Int32))] [(.int ch4), (.int ch3), (.int ch2), (.int ch1), (.int (2 : Int32)), (.int (1 : Int32)), (.int ch2)])) _
            refine st305 _ ?_
            show Steps p.tables e below (T305.setTop (mkF m 199 #[.val (.int p0), .val (.int p1), .val (.int (2 : Int32)), .val (.int ch1), .val (.int ch2), .val (.int (1 : Int32)), .val (.int ch3), .val (.int ch4), .val (.ref o_282), .val (.ref o_284), .val (.ref o_290), .val (.int (4 : Int32))] [(.int ch2), (.int ch2)])) _
            refine XS.icmpYes X305.here hx rfl (pc0 := 199) (pc' := 204) rfl (hb hby at_199) rfl (teq (rfl : ch2 = ch2)).1 (by decide) (by decide) ?_
            show Steps p.tables e below (T305.setTop (mkF m 204 #[.val (.int p0), .val (.int p1), .val (.int (2 : Int32)), .val (.int ch1), .val (.int ch2), .val (.int (1 : Int32)), .val (.int ch3), .val (.int ch4), .val (.ref o_282), .val (.ref o_284), .val (.ref o_290), .val (.int (4 : Int32))] [])) _
            refine XS.iconst X305.here hx rfl (hb hby at_204) ?_
            refine XS.iload X305.here hx rfl (hb hby at_205) rfl ?_
            refine XS.icmpNo X305.here hx rfl (hb hby at_207) rfl (tlt (by decide : (2 : Int32) < (4 : Int32))).2.1 ?_
            show Steps p.tables e below (T305.setTop (mkF m 210 #[.val (.int p0), .val (.int p1), .val (.int (2 : Int32)), .val (.int ch1), .val (.int ch2), .val (.int (1 : Int32)), .val (.int ch3), .val (.int ch4), .val (.ref o_282), .val (.ref o_284), .val (.ref o_290), .val (.int (4 : Int32))] [])) _
            refine XS.aload X305.here hx rfl (hb hby at_210) rfl rfl ?_
            refine XS.iconst X305.here hx rfl (hb hby at_212) ?_
            show Steps p.tables e below (T305.setTop (mkF m 213 #[.val (.int p0), .val (.int p1), .val (.int (2 : Int32)), .val (.int ch1), .val (.int ch2), .val (.int (1 : Int32)), .val (.int ch3), .val (.int ch4), .val (.ref o_282), .val (.ref o_284), .val (.ref o_290), .val (.int (4 : Int32))] [(.int (2 : Int32)), (.ref o_290)])) _
            refine st307.trans ?_
            show Steps p.tables e below (T307.setTop (mkF m 216 #[.val (.int p0), .val (.int p1), .val (.int (2 : Int32)), .val (.int ch1), .val (.int ch2), .val (.int (1 : Int32)), .val (.int ch3), .val (.int ch4), .val (.ref o_282), .val (.ref o_284), .val (.ref o_290), .val (.int (4 : Int32))] [(.int (46 : Int32))])) _
            refine XS.iconst X307.here hx rfl (hb hby at_216) ?_
            refine XS.iloadN X307.here hx rfl (hb hby at_217) rfl ?_
            refine XS.iloadN X307.here hx rfl (hb hby at_218) rfl ?_
            refine XS.iload X307.here hx rfl (hb hby at_219) rfl ?_
            show Steps p.tables e below (T307.setTop (mkF m 221 #[.val (.int p0), .val (.int p1), .val (.int (2 : Int32)), .val (.int ch1), .val (.int ch2), .val (.int (1 : Int32)), .val (.int ch3), .val (.int ch4), .val (.ref o_282), .val (.ref o_284), .val (.ref o_290), .val (.int (4 : Int32))] [(.int ch2), (.int ch1), (.int (2 : Int32)), (.int (2 : Int32)), (.int (46 : Int32))])) _
            refine XS.iload X307.here hx rfl (hb hby at_221) rfl ?_
            refine XS.iload X307.here hx rfl (hb hby at_223) rfl ?_
            show Steps p.tables e below (T307.setTop (mkF m 225 #[.val (.int p0), .val (.int p1), .val (.int (2 : Int32)), .val (.int ch1), .val (.int ch2), .val (.int (1 : Int32)), .val (.int ch3), .val (.int ch4), .val (.ref o_282), .val (.ref o_284), .val (.ref o_290), .val (.int (4 : Int32))] [(.int ch4), (.int ch3), (.int ch2), (.int ch1), (.int (2 : Int32)), (.int (2 : Int32)), (.int (46 : Int32))])) _
            refine st308 _ ?_
            show Steps p.tables e below (T308.setTop (mkF m 228 #[.val (.int p0), .val (.int p1), .val (.int (2 : Int32)), .val (.int ch1), .val (.int ch2), .val (.int (1 : Int32)), .val (.int ch3), .val (.int ch4), .val (.ref o_282), .val (.ref o_284), .val (.ref o_290), .val (.int (4 : Int32))] [(.int (46 : Int32)), (.int (46 : Int32))])) _
            refine XS.icmpYes X308.here hx rfl (pc0 := 228) (pc' := 233) rfl (hb hby at_228) rfl (teq (by decide : (46 : Int32) = (46 : Int32))).1 (by decide) (by decide) ?_
            show Steps p.tables e below (T308.setTop (mkF m 233 #[.val (.int p0), .val (.int p1), .val (.int (2 : Int32)), .val (.int ch1), .val (.int ch2), .val (.int (1 : Int32)), .val (.int ch3), .val (.int ch4), .val (.ref o_282), .val (.ref o_284), .val (.ref o_290), .val (.int (4 : Int32))] [])) _
            refine XS.iconst X308.here hx rfl (hb hby at_233) ?_
            refine XS.iload X308.here hx rfl (hb hby at_234) rfl ?_
            refine XS.icmpNo X308.here hx rfl (hb hby at_236) rfl (tlt (by decide : (3 : Int32) < (4 : Int32))).2.1 ?_
            show Steps p.tables e below (T308.setTop (mkF m 239 #[.val (.int p0), .val (.int p1), .val (.int (2 : Int32)), .val (.int ch1), .val (.int ch2), .val (.int (1 : Int32)), .val (.int ch3), .val (.int ch4), .val (.ref o_282), .val (.ref o_284), .val (.ref o_290), .val (.int (4 : Int32))] [])) _
            refine XS.aload X308.here hx rfl (hb hby at_239) rfl rfl ?_
            refine XS.iconst X308.here hx rfl (hb hby at_241) ?_
            show Steps p.tables e below (T308.setTop (mkF m 242 #[.val (.int p0), .val (.int p1), .val (.int (2 : Int32)), .val (.int ch1), .val (.int ch2), .val (.int (1 : Int32)), .val (.int ch3), .val (.int ch4), .val (.ref o_282), .val (.ref o_284), .val (.ref o_290), .val (.int (4 : Int32))] [(.int (3 : Int32)), (.ref o_290)])) _
            refine st310.trans ?_
            show Steps p.tables e below (T310.setTop (mkF m 245 #[.val (.int p0), .val (.int p1), .val (.int (2 : Int32)), .val (.int ch1), .val (.int ch2), .val (.int (1 : Int32)), .val (.int ch3), .val (.int ch4), .val (.ref o_282), .val (.ref o_284), .val (.ref o_290), .val (.int (4 : Int32))] [(.int ch3)])) _
            refine XS.iconst X310.here hx rfl (hb hby at_245) ?_
            refine XS.iloadN X310.here hx rfl (hb hby at_246) rfl ?_
            refine XS.iloadN X310.here hx rfl (hb hby at_247) rfl ?_
            refine XS.iload X310.here hx rfl (hb hby at_248) rfl ?_
            show Steps p.tables e below (T310.setTop (mkF m 250 #[.val (.int p0), .val (.int p1), .val (.int (2 : Int32)), .val (.int ch1), .val (.int ch2), .val (.int (1 : Int32)), .val (.int ch3), .val (.int ch4), .val (.ref o_282), .val (.ref o_284), .val (.ref o_290), .val (.int (4 : Int32))] [(.int ch2), (.int ch1), (.int (2 : Int32)), (.int (3 : Int32)), (.int ch3)])) _
            refine XS.iload X310.here hx rfl (hb hby at_250) rfl ?_
            refine XS.iload X310.here hx rfl (hb hby at_252) rfl ?_
            show Steps p.tables e below (T310.setTop (mkF m 254 #[.val (.int p0), .val (.int p1), .val (.int (2 : Int32)), .val (.int ch1), .val (.int ch2), .val (.int (1 : Int32)), .val (.int ch3), .val (.int ch4), .val (.ref o_282), .val (.ref o_284), .val (.ref o_290), .val (.int (4 : Int32))] [(.int ch4), (.int ch3), (.int ch2), (.int ch1), (.int (2 : Int32)), (.int (3 : Int32)), (.int ch3)])) _
            refine st311 _ ?_
            show Steps p.tables e below (T311.setTop (mkF m 257 #[.val (.int p0), .val (.int p1), .val (.int (2 : Int32)), .val (.int ch1), .val (.int ch2), .val (.int (1 : Int32)), .val (.int ch3), .val (.int ch4), .val (.ref o_282), .val (.ref o_284), .val (.ref o_290), .val (.int (4 : Int32))] [(.int ch3), (.int ch3)])) _
            refine XS.icmpYes X311.here hx rfl (pc0 := 257) (pc' := 262) rfl (hb hby at_257) rfl (teq (rfl : ch3 = ch3)).1 (by decide) (by decide) ?_
            show Steps p.tables e below (T311.setTop (mkF m 262 #[.val (.int p0), .val (.int p1), .val (.int (2 : Int32)), .val (.int ch1), .val (.int ch2), .val (.int (1 : Int32)), .val (.int ch3), .val (.int ch4), .val (.ref o_282), .val (.ref o_284), .val (.ref o_290), .val (.int (4 : Int32))] [])) _
            refine XS.iconst X311.here hx rfl (hb hby at_262) ?_
            refine XS.iload X311.here hx rfl (hb hby at_263) rfl ?_
            refine XS.icmpYes X311.here hx rfl (pc0 := 265) (pc' := 291) rfl (hb hby at_265) rfl (flt (by decide : ¬ ((4 : Int32) < (4 : Int32)))).2.1 (by decide) (by decide) ?_
            show Steps p.tables e below (T311.setTop (mkF m 291 #[.val (.int p0), .val (.int p1), .val (.int (2 : Int32)), .val (.int ch1), .val (.int ch2), .val (.int (1 : Int32)), .val (.int ch3), .val (.int ch4), .val (.ref o_282), .val (.ref o_284), .val (.ref o_290), .val (.int (4 : Int32))] [])) _
            refine XS.iconst X311.here hx rfl (hb hby at_291) ?_
            show Steps p.tables e below (T311.setTop (mkF m 292 #[.val (.int p0), .val (.int p1), .val (.int (2 : Int32)), .val (.int ch1), .val (.int ch2), .val (.int (1 : Int32)), .val (.int ch3), .val (.int ch4), .val (.ref o_282), .val (.ref o_284), .val (.ref o_290), .val (.int (4 : Int32))] [(.int (1 : Int32))])) _
            exact Jvm.RoadKit.retOut X311 hx Bd.returns rfl (Or.inl ⟨rfl, by simp, _, rfl⟩) (hb hby at_292) hr
          · show Q_rm0 Z p0 p1 zc fm h0 n0 _ T311.heap _
            rw [e311]
            unfold Q_rm0
            exact ⟨rfl, N311, K314⟩
        · obtain ⟨ch1, ech1, gch1⟩ : ∃ z, z = ((p0 &&& (255 : Int32)).toUInt32.toUInt16.toUInt32.toInt32) ∧ C8 z := ⟨_, rfl, own_ch8 _⟩
          obtain ⟨ch2, ech2, gch2⟩ : ∃ z, z = ((((p0.toUInt32 >>> ((8 : Int32) &&& 31).toUInt32).toInt32) &&& (255 : Int32)).toUInt32.toUInt16.toUInt32.toInt32) ∧ C8 z := ⟨_, rfl, own_ch8 _⟩
          obtain ⟨ch3, ech3, gch3⟩ : ∃ z, z = ((p1 &&& (255 : Int32)).toUInt32.toUInt16.toUInt32.toInt32) ∧ C8 z := ⟨_, rfl, own_ch8 _⟩
          obtain ⟨ch4, ech4, gch4⟩ : ∃ z, z = ((((p1.toUInt32 >>> ((8 : Int32) &&& 31).toUInt32).toInt32) &&& (255 : Int32)).toUInt32.toUInt16.toUInt32.toInt32) ∧ C8 z := ⟨_, rfl, own_ch8 _⟩
          obtain ⟨_, _, ⟨T316, L316, k316, n316⟩, -, X316, ⟨Lc316, hQ316, l316, y316, z316⟩, st316⟩ := Jvm.LawKit.callS X0 hx (y := (⟨"com/example/syndex/syndex/SectionKeyPathPinLaw", "mk", "(ICC)Ljava/lang/String;"⟩ : MethodName)) hown (mvT hZ (hwk hw 0 rfl)) (mvT hZ (hwk hw 1 rfl)) (mvT hZ (hwk hw 2 rfl)) (mvT hZ (hwk hw 3 rfl)) (by decide) (backOf (W := 0) (mk2 l Z a0 hw [] ch1 ch2 zc h0 n0 O0 gch1 gch2 SZ PZ) hZ (hwk hw 3 rfl) (hwk hw 2 rfl) (by decide) (by decide)) (g := (mkF m 64 #[.val (.int p0), .val (.int p1), .val (.int (2 : Int32)), .val (.int ch1), .val (.int ch2), .val (.int (2 : Int32)), .val (.int ch3), .val (.int ch4), .unset, .unset, .unset, .unset] [(.int ch2), (.int ch1), (.int (2 : Int32))])) rfl (by rw [hml]; rfl) (argsL := [(.int (2 : Int32)), (.int ch1), (.int ch2)]) (rest := []) (lenOf pd_23 rfl) rfl (by show 2 * 0 + _ ≤ _; exact Nat.le_of_eq rfl) (hb hby at_64) (fun _ _ => ⟨rfl, e0, (by decide : 0 + 3 ≤ _), (by decide : 0 + 8 ≤ _)⟩)
          dsimp only [Pt.U, Pt.locs, Pt.cells, Pt.slots] at X316 l316 y316 z316 st316 hQ316
          subst l316 y316 z316
          unfold Q_mk2 at hQ316
          obtain ⟨o_316, t_316, kb_316, rfl, N316q, K316, ge_o_316, f316_0, f316_1, f316_2, f316_3⟩ := hQ316
          have N316 := Fr.app N0 N316q
          have g_o_316 : n0 ≤ o_316 := Nat.le_trans (old_le O0) ge_o_316
          have O317 : Old Z n0 T316.heap := Old.keep O0 K316 all0
          obtain ⟨_, _, ⟨T318, L318, k318, n318⟩, -, X318, ⟨Lc318, hQ318, l318, y318, z318⟩, st318⟩ := Jvm.LawKit.callS X316 hx (y := (⟨"com/example/syndex/syndex/SectionKeyPathPinLaw", "mk", "(ICC)Ljava/lang/String;"⟩ : MethodName)) hown (mvT hZ (hwk hw 0 rfl)) (mvT hZ (hwk hw 1 rfl)) (mvT hZ (hwk hw 2 rfl)) (mvT hZ (hwk hw 3 rfl)) (by decide) (backOf (W := 0) (mk2 l Z a0 hw [] ch3 ch4 zc T316.heap n0 O317 gch3 gch4 SZ PZ) hZ (hwk hw 3 rfl) (hwk hw 2 rfl) (by decide) (by decide)) (g := (mkF m 75 #[.val (.int p0), .val (.int p1), .val (.int (2 : Int32)), .val (.int ch1), .val (.int ch2), .val (.int (2 : Int32)), .val (.int ch3), .val (.int ch4), .val (.ref o_316), .unset, .unset, .unset] [(.int ch4), (.int ch3), (.int (2 : Int32))])) rfl (by rw [hml]; rfl) (argsL := [(.int (2 : Int32)), (.int ch3), (.int ch4)]) (rest := []) (lenOf pd_23 rfl) rfl (by show 2 * 0 + _ ≤ _; exact Nat.le_of_eq rfl) (hb hby at_75) (fun _ _ => ⟨rfl, (rfl : T316.heap = T316.heap), (by decide : 3 + 3 ≤ _), (by decide : 8 + 8 ≤ _)⟩)
          dsimp only [Pt.U, Pt.locs, Pt.cells, Pt.slots] at X318 l318 y318 z318 st318 hQ318
          subst l318 y318 z318
          unfold Q_mk2 at hQ318
          obtain ⟨o_318, t_318, kb_318, rfl, N318q, K318, ge_o_318, f318_0, f318_1, f318_2, f318_3⟩ := hQ318
          have N318 := Fr.app N316 N318q
          have g_o_318 : n0 ≤ o_318 := Nat.le_trans (old_le O317) ge_o_318
          have c319 : Exa Z T318.heap o_316 "java/lang/String" := (Exa.keep f316_0 K318)
          have c320 : Fld Z T318.heap o_316 "java/lang/String" "value" "[B" (.ref t_316) := (Fld.keep f316_1 K318 nin0)
          have c321 : Fld Z T318.heap o_316 "java/lang/String" "coder" "B" (.int (0 : Int32)) := (Fld.keep f316_2 K318 nin0)
          have c322 : Arv Z T318.heap t_316 kb_316 .byte (2 : Int32) [(.int (BY ch1)), (.int (BY ch2))] (.int (0 : Int32)) := (Arv.keep f316_3 K318 nin0)
          have O323 : Old Z n0 T318.heap := Old.keep O317 K318 all0
          have CR325 : CHr Z consts_1 s.vm h0 s.vm T316.heap := CHr.trans CR0 (CHr.keep K316 all0 CR0.1)
          have CR326 : CHr Z consts_1 s.vm h0 s.vm T318.heap := CHr.trans CR325 (CHr.keep K318 all0 CR325.1)
          obtain ⟨_, _, ⟨T324, L324, k324, n324⟩, -, X324, hs324', hg324', ⟨Lc324, hQ324, l324, y324, z324, CX324⟩, st324⟩ := Jvm.RoadKit.callSS X318 hx (y := (⟨"com/example/syndex/syndex/Section", "keyPath", "(Ljava/lang/String;Ljava/lang/String;)Ljava/lang/String;"⟩ : MethodName)) hown (mvT hZ (hwk hw 26 rfl)) (mvT hZ (hwk hw 27 rfl)) (mvT hZ (hwk hw 28 rfl)) (mvT hZ (hwk hw 29 rfl)) (by decide) (own_backSH (W := 0) (kp1 l Z a0 hw [] o_316 t_316 kb_316 (2 : Int32) ([(.int (BY ch1)), (.int (BY ch2))]) o_318 t_318 kb_318 (2 : Int32) ([(.int (BY ch3)), (.int (BY ch4))]) zc T318.heap n0 O323 c319 c320 c321 c322 f318_0 f318_1 f318_2 f318_3 (by decide) (by decide) rfl rfl SZ PZ) hZ (hwk hw 29 rfl) (hwk hw 28 rfl) (by decide) (by decide) hEL CR326.1 (fun _ q => nomatch q)) (g := (mkF m 84 #[.val (.int p0), .val (.int p1), .val (.int (2 : Int32)), .val (.int ch1), .val (.int ch2), .val (.int (2 : Int32)), .val (.int ch3), .val (.int ch4), .val (.ref o_316), .val (.ref o_318), .unset, .unset] [(.ref o_318), (.ref o_316)])) rfl (by rw [hml]; rfl) (argsL := [(.ref o_316), (.ref o_318)]) (rest := []) (lenOf pd_24 rfl) rfl (by show 2 * 0 + _ ≤ _; exact Nat.le_of_eq rfl) (hb hby at_84) (fun _ _ => ⟨rfl, (rfl : T318.heap = T318.heap), (by decide : 6 + 6 ≤ _), (by decide : 16 + 48 ≤ _)⟩)
          dsimp only [Pt.U, Pt.locs, Pt.cells, Pt.slots] at X324 l324 y324 z324 st324 hQ324 hs324' hg324' CX324
          subst l324 y324 z324
          obtain ⟨X324b, hS324, hZ324, hown324⟩ := rebS hS0 (show _ ≤ T318.heap.size from by rw [(rfl : T318.heap = T318.heap)]; exact (Nat.le_trans (Nat.le_refl _) (Nat.le_trans (Nat.le_trans (Nat.le_refl _) K316.1) K318.1))) X324 hs324' hg324' hZ hown
          unfold Q_kp1 at hQ324
          obtain ⟨o_324, t_324, kb_324, rfl, N324q, K324, ge_o_324, f324_0, f324_1, f324_2, f324_3⟩ := hQ324
          have N324 := Fr.app N318 N324q
          have g_o_324 : n0 ≤ o_324 := Nat.le_trans (old_le O323) ge_o_324
          have W329 : Arv Z T324.heap t_324 kb_324 .byte (5 : Int32) [(.int (BY ch1)), (.int (BY ch2)), (.int (46 : Int32)), (.int (BY ch3)), (.int (BY ch4))] (.int (0 : Int32)) := own_arv f324_3 rfl
          have hc328 : ∀ c ∈ ([ch1, ch2, (46 : Int32), ch3, ch4] : List Int32), ¬ c < 0 ∧ ¬ (255 : Int32) < c := by
            intro c hc
            simp only [List.mem_cons, List.not_mem_nil, or_false] at hc
            rcases hc with rfl | rfl | rfl | rfl | rfl
            · exact gch1
            · exact gch2
            · exact (by decide)
            · exact gch3
            · exact gch4
          have OS327 : OwnStr [ch1, ch2, (46 : Int32), ch3, ch4] (5 : Int32) [(.int (BY ch1)), (.int (BY ch2)), (.int (46 : Int32)), (.int (BY ch3)), (.int (BY ch4))] := own_s255 hc328 (Nat.le_of_ble_eq_true rfl)
          have O330 : Old Z n0 T324.heap := Old.keep O323 K324 all0
          obtain ⟨cq331, kq331, q331a, q331b, q331c⟩ := isOf hZ324 (rfl : T324.heap = T324.heap) f324_0
          obtain ⟨_, _, ⟨T331, L331, k331, n331⟩, -, X331, ⟨Lc331, hQ331, l331, y331, z331⟩, st331⟩ := X324b.virtualBack hx (y := (⟨"java/lang/String", "length", "()I"⟩ : MethodName)) (z := (⟨"java/lang/String", "length", "()I"⟩ : MethodName)) hown324 (mvT hZ324 (hwk hw 35 rfl)) (mvT hZ324 (hwk hw 36 rfl)) (notFace_of_selects (args := #[]) (mvT hZ324 (hwk hw 38 rfl))) (mvT hZ324 (hwk hw 38 rfl)) (mvT hZ324 (hwk hw 37 rfl)) (by decide) (backOf (W := 0) (rm7 l Z a0 hw [] o_324 t_324 kb_324 (5 : Int32) ([(.int (BY ch1)), (.int (BY ch2)), (.int (46 : Int32)), (.int (BY ch3)), (.int (BY ch4))]) zc T324.heap n0 O330 f324_0 f324_1 f324_2 W329 SZ PZ) hZ324 (hwk hw 39 rfl) (hwk hw 6 rfl) (by decide) (by decide)) q331a q331c (g := (mkF m 136 #[.val (.int p0), .val (.int p1), .val (.int (2 : Int32)), .val (.int ch1), .val (.int ch2), .val (.int (2 : Int32)), .val (.int ch3), .val (.int ch4), .val (.ref o_316), .val (.ref o_318), .val (.ref o_324), .val (.int (5 : Int32))] [(.ref o_324)])) rfl (by rw [hml]; rfl) (Steps.refl _) (argsL := []) (rest := []) (lenOf pd_10 rfl) rfl (by show 2 * 0 + _ ≤ _; exact Nat.le_of_eq rfl) (hb hby at_136) (fun _ _ => ⟨rfl, (rfl : T324.heap = T324.heap), (by decide : 12 + 0 ≤ _), (by decide : 64 + 0 ≤ _)⟩)
          dsimp only [Pt.U, Pt.locs, Pt.cells, Pt.slots] at X331 l331 y331 z331 st331 hQ331
          subst l331 y331 z331
          unfold Q_rm7 at hQ331
          obtain ⟨rfl, N331q, e331⟩ := hQ331
          have N331 := Fr.app N324 N331q
          have hws332 : ∀ d ∈ StrChars.Road.wordsChN, d.before a0 Z = true := fun d hd => hw d ((by decide +kernel : ∀ d ∈ StrChars.Road.wordsChN, d ∈ tables_1) d hd)
          have c333 : Sta Z T324.heap "java/lang/String" "COMPACT_STRINGS" "Z" (.int zc) := Sta.ext (O330).2 SZ
          have c334 : Sta Z T324.heap "jdk/internal/util/Preconditions" "SIOOBE_FORMATTER" "Ljava/util/function/BiFunction;" fm := Sta.ext (O330).2 SF
          obtain ⟨cq335, kq335, q335a, q335b, q335c⟩ := isOf hZ324 e331 f324_0
          obtain ⟨_, _, ⟨T335, L335, k335, n335⟩, -, X335, ⟨Lc335, hQ335, l335, y335, z335⟩, st335⟩ := X331.virtualBack hx (y := (⟨"java/lang/String", "charAt", "(I)C"⟩ : MethodName)) (z := (⟨"java/lang/String", "charAt", "(I)C"⟩ : MethodName)) hown324 (mvT hZ324 (hwk hw 163 rfl)) (mvT hZ324 (hwk hw 164 rfl)) (notFace_of_selects (args := #[]) (mvT hZ324 (hwk hw 166 rfl))) (mvT hZ324 (hwk hw 166 rfl)) (mvT hZ324 (hwk hw 165 rfl)) (by decide) (StrChars.Road.chN (W := 0) hZ324 hws332 (kI := 4) (hwk hw 5 rfl) (i := 0) f324_0 f324_1 f324_2 W329 OS327.1 OS327.2.1 c333 PZ c334 RF OS327.2.2 (Nat.le_of_ble_eq_true rfl) (by decide) (by decide) (by decide)) q335a q335c (g := (mkF m 155 #[.val (.int p0), .val (.int p1), .val (.int (2 : Int32)), .val (.int ch1), .val (.int ch2), .val (.int (2 : Int32)), .val (.int ch3), .val (.int ch4), .val (.ref o_316), .val (.ref o_318), .val (.ref o_324), .val (.int (5 : Int32))] [(.int (0 : Int32)), (.ref o_324)])) rfl (by rw [hml]; rfl) (Steps.refl _) (argsL := [(.int (0 : Int32))]) (rest := []) (lenOf pd_26 rfl) rfl (by show 2 * 0 + _ ≤ _; exact Nat.le_of_eq rfl) (hb hby at_155) (fun _ _ => ⟨rfl, e331, (by decide : 12 + 0 ≤ _), (by decide : 64 + 0 ≤ _)⟩)
          dsimp only [Pt.U, Pt.locs, Pt.cells, Pt.slots] at X335 l335 y335 z335 st335 hQ335
          subst l335 y335 z335
          obtain ⟨hv335, hl335, e335⟩ := hQ335
          cases (show _ = some (Value.int ch1) from hv335)
          have N335 := Fr.app N331 (own_frnil hl335)
          obtain ⟨_, _, ⟨T336, L336, k336, n336⟩, -, X336, ⟨Lc336, hQ336, l336, y336, z336⟩, st336⟩ := Jvm.LawKit.callS X335 hx (y := (⟨"com/example/syndex/syndex/SectionKeyPathPinLaw", "exp", "(IICCCC)C"⟩ : MethodName)) hown324 (mvT hZ324 (hwk hw 185 rfl)) (mvT hZ324 (hwk hw 186 rfl)) (mvT hZ324 (hwk hw 2 rfl)) (mvT hZ324 (hwk hw 187 rfl)) (by decide) (backOf (W := 1) (ex02 l Z a0 hw [] ch1 ch2 ch3 ch4 T324.heap n0 O330 gch1 gch2 gch3 gch4) hZ324 (hwk hw 187 rfl) (hwk hw 2 rfl) (by decide) (by decide)) (g := (mkF m 167 #[.val (.int p0), .val (.int p1), .val (.int (2 : Int32)), .val (.int ch1), .val (.int ch2), .val (.int (2 : Int32)), .val (.int ch3), .val (.int ch4), .val (.ref o_316), .val (.ref o_318), .val (.ref o_324), .val (.int (5 : Int32))] [(.int ch4), (.int ch3), (.int ch2), (.int ch1), (.int (2 : Int32)), (.int (0 : Int32)), (.int ch1)])) rfl (by rw [hml]; rfl) (argsL := [(.int (0 : Int32)), (.int (2 : Int32)), (.int ch1), (.int ch2), (.int ch3), (.int ch4)]) (rest := [(.int ch1)]) (lenOf pd_27 rfl) rfl (by show 2 * 0 + _ ≤ _; exact Nat.le_of_eq rfl) (hb hby at_167) (fun _ _ => ⟨rfl, e335, (by decide : 12 + 0 ≤ _), (by decide : 64 + 0 ≤ _)⟩)
          dsimp only [Pt.U, Pt.locs, Pt.cells, Pt.slots] at X336 l336 y336 z336 st336 hQ336
          subst l336 y336 z336
          unfold Q_ex02 at hQ336
          obtain ⟨rfl, N336q, e336⟩ := hQ336
          have N336 := Fr.app N335 N336q
          have hws337 : ∀ d ∈ StrChars.Road.wordsChN, d.before a0 Z = true := fun d hd => hw d ((by decide +kernel : ∀ d ∈ StrChars.Road.wordsChN, d ∈ tables_1) d hd)
          obtain ⟨cq338, kq338, q338a, q338b, q338c⟩ := isOf hZ324 e336 f324_0
          obtain ⟨_, _, ⟨T338, L338, k338, n338⟩, -, X338, ⟨Lc338, hQ338, l338, y338, z338⟩, st338⟩ := X336.virtualBack hx (y := (⟨"java/lang/String", "charAt", "(I)C"⟩ : MethodName)) (z := (⟨"java/lang/String", "charAt", "(I)C"⟩ : MethodName)) hown324 (mvT hZ324 (hwk hw 163 rfl)) (mvT hZ324 (hwk hw 164 rfl)) (notFace_of_selects (args := #[]) (mvT hZ324 (hwk hw 166 rfl))) (mvT hZ324 (hwk hw 166 rfl)) (mvT hZ324 (hwk hw 165 rfl)) (by decide) (StrChars.Road.chN (W := 0) hZ324 hws337 (kI := 4) (hwk hw 5 rfl) (i := 1) f324_0 f324_1 f324_2 W329 OS327.1 OS327.2.1 c333 PZ c334 RF OS327.2.2 (Nat.le_of_ble_eq_true rfl) (by decide) (by decide) (by decide)) q338a q338c (g := (mkF m 184 #[.val (.int p0), .val (.int p1), .val (.int (2 : Int32)), .val (.int ch1), .val (.int ch2), .val (.int (2 : Int32)), .val (.int ch3), .val (.int ch4), .val (.ref o_316), .val (.ref o_318), .val (.ref o_324), .val (.int (5 : Int32))] [(.int (1 : Int32)), (.ref o_324)])) rfl (by rw [hml]; rfl) (Steps.refl _) (argsL := [(.int (1 : Int32))]) (rest := []) (lenOf pd_26 rfl) rfl (by show 2 * 0 + _ ≤ _; exact Nat.le_of_eq rfl) (hb hby at_184) (fun _ _ => ⟨rfl, e336, (by decide : 12 + 0 ≤ _), (by decide : 64 + 0 ≤ _)⟩)
          dsimp only [Pt.U, Pt.locs, Pt.cells, Pt.slots] at X338 l338 y338 z338 st338 hQ338
          subst l338 y338 z338
          obtain ⟨hv338, hl338, e338⟩ := hQ338
          cases (show _ = some (Value.int ch2) from hv338)
          have N338 := Fr.app N336 (own_frnil hl338)
          obtain ⟨_, _, ⟨T339, L339, k339, n339⟩, -, X339, ⟨Lc339, hQ339, l339, y339, z339⟩, st339⟩ := Jvm.LawKit.callS X338 hx (y := (⟨"com/example/syndex/syndex/SectionKeyPathPinLaw", "exp", "(IICCCC)C"⟩ : MethodName)) hown324 (mvT hZ324 (hwk hw 185 rfl)) (mvT hZ324 (hwk hw 186 rfl)) (mvT hZ324 (hwk hw 2 rfl)) (mvT hZ324 (hwk hw 187 rfl)) (by decide) (backOf (W := 1) (ex12 l Z a0 hw [] ch1 ch2 ch3 ch4 T324.heap n0 O330 gch1 gch2 gch3 gch4) hZ324 (hwk hw 187 rfl) (hwk hw 2 rfl) (by decide) (by decide)) (g := (mkF m 196 #[.val (.int p0), .val (.int p1), .val (.int (2 : Int32)), .val (.int ch1), .val (.int ch2), .val (.int (2 : Int32)), .val (.int ch3), .val (.int ch4), .val (.ref o_316), .val (.ref o_318), .val (.ref o_324), .val (.int (5 : Int32))] [(.int ch4), (.int ch3), (.int ch2), (.int ch1), (.int (2 : Int32)), (.int (1 : Int32)), (.int ch2)])) rfl (by rw [hml]; rfl) (argsL := [(.int (1 : Int32)), (.int (2 : Int32)), (.int ch1), (.int ch2), (.int ch3), (.int ch4)]) (rest := [(.int ch2)]) (lenOf pd_27 rfl) rfl (by show 2 * 0 + _ ≤ _; exact Nat.le_of_eq rfl) (hb hby at_196) (fun _ _ => ⟨rfl, e338, (by decide : 12 + 0 ≤ _), (by decide : 64 + 0 ≤ _)⟩)
          dsimp only [Pt.U, Pt.locs, Pt.cells, Pt.slots] at X339 l339 y339 z339 st339 hQ339
          subst l339 y339 z339
          unfold Q_ex12 at hQ339
          obtain ⟨rfl, N339q, e339⟩ := hQ339
          have N339 := Fr.app N338 N339q
          have hws340 : ∀ d ∈ StrChars.Road.wordsChN, d.before a0 Z = true := fun d hd => hw d ((by decide +kernel : ∀ d ∈ StrChars.Road.wordsChN, d ∈ tables_1) d hd)
          obtain ⟨cq341, kq341, q341a, q341b, q341c⟩ := isOf hZ324 e339 f324_0
          obtain ⟨_, _, ⟨T341, L341, k341, n341⟩, -, X341, ⟨Lc341, hQ341, l341, y341, z341⟩, st341⟩ := X339.virtualBack hx (y := (⟨"java/lang/String", "charAt", "(I)C"⟩ : MethodName)) (z := (⟨"java/lang/String", "charAt", "(I)C"⟩ : MethodName)) hown324 (mvT hZ324 (hwk hw 163 rfl)) (mvT hZ324 (hwk hw 164 rfl)) (notFace_of_selects (args := #[]) (mvT hZ324 (hwk hw 166 rfl))) (mvT hZ324 (hwk hw 166 rfl)) (mvT hZ324 (hwk hw 165 rfl)) (by decide) (StrChars.Road.chN (W := 0) hZ324 hws340 (kI := 4) (hwk hw 5 rfl) (i := 2) f324_0 f324_1 f324_2 W329 OS327.1 OS327.2.1 c333 PZ c334 RF OS327.2.2 (Nat.le_of_ble_eq_true rfl) (by decide) (by decide) (by decide)) q341a q341c (g := (mkF m 213 #[.val (.int p0), .val (.int p1), .val (.int (2 : Int32)), .val (.int ch1), .val (.int ch2), .val (.int (2 : Int32)), .val (.int ch3), .val (.int ch4), .val (.ref o_316), .val (.ref o_318), .val (.ref o_324), .val (.int (5 : Int32))] [(.int (2 : Int32)), (.ref o_324)])) rfl (by rw [hml]; rfl) (Steps.refl _) (argsL := [(.int (2 : Int32))]) (rest := []) (lenOf pd_26 rfl) rfl (by show 2 * 0 + _ ≤ _; exact Nat.le_of_eq rfl) (hb hby at_213) (fun _ _ => ⟨rfl, e339, (by decide : 12 + 0 ≤ _), (by decide : 64 + 0 ≤ _)⟩)
          dsimp only [Pt.U, Pt.locs, Pt.cells, Pt.slots] at X341 l341 y341 z341 st341 hQ341
          subst l341 y341 z341
          obtain ⟨hv341, hl341, e341⟩ := hQ341
          cases (show _ = some (Value.int (46 : Int32)) from hv341)
          have N341 := Fr.app N339 (own_frnil hl341)
          obtain ⟨_, _, ⟨T342, L342, k342, n342⟩, -, X342, ⟨Lc342, hQ342, l342, y342, z342⟩, st342⟩ := Jvm.LawKit.callS X341 hx (y := (⟨"com/example/syndex/syndex/SectionKeyPathPinLaw", "exp", "(IICCCC)C"⟩ : MethodName)) hown324 (mvT hZ324 (hwk hw 185 rfl)) (mvT hZ324 (hwk hw 186 rfl)) (mvT hZ324 (hwk hw 2 rfl)) (mvT hZ324 (hwk hw 187 rfl)) (by decide) (backOf (W := 1) (ex22 l Z a0 hw [] ch1 ch2 ch3 ch4 T324.heap n0 O330 gch1 gch2 gch3 gch4) hZ324 (hwk hw 187 rfl) (hwk hw 2 rfl) (by decide) (by decide)) (g := (mkF m 225 #[.val (.int p0), .val (.int p1), .val (.int (2 : Int32)), .val (.int ch1), .val (.int ch2), .val (.int (2 : Int32)), .val (.int ch3), .val (.int ch4), .val (.ref o_316), .val (.ref o_318), .val (.ref o_324), .val (.int (5 : Int32))] [(.int ch4), (.int ch3), (.int ch2), (.int ch1), (.int (2 : Int32)), (.int (2 : Int32)), (.int (46 : Int32))])) rfl (by rw [hml]; rfl) (argsL := [(.int (2 : Int32)), (.int (2 : Int32)), (.int ch1), (.int ch2), (.int ch3), (.int ch4)]) (rest := [(.int (46 : Int32))]) (lenOf pd_27 rfl) rfl (by show 2 * 0 + _ ≤ _; exact Nat.le_of_eq rfl) (hb hby at_225) (fun _ _ => ⟨rfl, e341, (by decide : 12 + 0 ≤ _), (by decide : 64 + 0 ≤ _)⟩)
          dsimp only [Pt.U, Pt.locs, Pt.cells, Pt.slots] at X342 l342 y342 z342 st342 hQ342
          subst l342 y342 z342
          unfold Q_ex22 at hQ342
          obtain ⟨rfl, N342q, e342⟩ := hQ342
          have N342 := Fr.app N341 N342q
          have hws343 : ∀ d ∈ StrChars.Road.wordsChN, d.before a0 Z = true := fun d hd => hw d ((by decide +kernel : ∀ d ∈ StrChars.Road.wordsChN, d ∈ tables_1) d hd)
          obtain ⟨cq344, kq344, q344a, q344b, q344c⟩ := isOf hZ324 e342 f324_0
          obtain ⟨_, _, ⟨T344, L344, k344, n344⟩, -, X344, ⟨Lc344, hQ344, l344, y344, z344⟩, st344⟩ := X342.virtualBack hx (y := (⟨"java/lang/String", "charAt", "(I)C"⟩ : MethodName)) (z := (⟨"java/lang/String", "charAt", "(I)C"⟩ : MethodName)) hown324 (mvT hZ324 (hwk hw 163 rfl)) (mvT hZ324 (hwk hw 164 rfl)) (notFace_of_selects (args := #[]) (mvT hZ324 (hwk hw 166 rfl))) (mvT hZ324 (hwk hw 166 rfl)) (mvT hZ324 (hwk hw 165 rfl)) (by decide) (StrChars.Road.chN (W := 0) hZ324 hws343 (kI := 4) (hwk hw 5 rfl) (i := 3) f324_0 f324_1 f324_2 W329 OS327.1 OS327.2.1 c333 PZ c334 RF OS327.2.2 (Nat.le_of_ble_eq_true rfl) (by decide) (by decide) (by decide)) q344a q344c (g := (mkF m 242 #[.val (.int p0), .val (.int p1), .val (.int (2 : Int32)), .val (.int ch1), .val (.int ch2), .val (.int (2 : Int32)), .val (.int ch3), .val (.int ch4), .val (.ref o_316), .val (.ref o_318), .val (.ref o_324), .val (.int (5 : Int32))] [(.int (3 : Int32)), (.ref o_324)])) rfl (by rw [hml]; rfl) (Steps.refl _) (argsL := [(.int (3 : Int32))]) (rest := []) (lenOf pd_26 rfl) rfl (by show 2 * 0 + _ ≤ _; exact Nat.le_of_eq rfl) (hb hby at_242) (fun _ _ => ⟨rfl, e342, (by decide : 12 + 0 ≤ _), (by decide : 64 + 0 ≤ _)⟩)
          dsimp only [Pt.U, Pt.locs, Pt.cells, Pt.slots] at X344 l344 y344 z344 st344 hQ344
          subst l344 y344 z344
          obtain ⟨hv344, hl344, e344⟩ := hQ344
          cases (show _ = some (Value.int ch3) from hv344)
          have N344 := Fr.app N342 (own_frnil hl344)
          obtain ⟨_, _, ⟨T345, L345, k345, n345⟩, -, X345, ⟨Lc345, hQ345, l345, y345, z345⟩, st345⟩ := Jvm.LawKit.callS X344 hx (y := (⟨"com/example/syndex/syndex/SectionKeyPathPinLaw", "exp", "(IICCCC)C"⟩ : MethodName)) hown324 (mvT hZ324 (hwk hw 185 rfl)) (mvT hZ324 (hwk hw 186 rfl)) (mvT hZ324 (hwk hw 2 rfl)) (mvT hZ324 (hwk hw 187 rfl)) (by decide) (backOf (W := 1) (ex32 l Z a0 hw [] ch1 ch2 ch3 ch4 T324.heap n0 O330 gch1 gch2 gch3 gch4) hZ324 (hwk hw 187 rfl) (hwk hw 2 rfl) (by decide) (by decide)) (g := (mkF m 254 #[.val (.int p0), .val (.int p1), .val (.int (2 : Int32)), .val (.int ch1), .val (.int ch2), .val (.int (2 : Int32)), .val (.int ch3), .val (.int ch4), .val (.ref o_316), .val (.ref o_318), .val (.ref o_324), .val (.int (5 : Int32))] [(.int ch4), (.int ch3), (.int ch2), (.int ch1), (.int (2 : Int32)), (.int (3 : Int32)), (.int ch3)])) rfl (by rw [hml]; rfl) (argsL := [(.int (3 : Int32)), (.int (2 : Int32)), (.int ch1), (.int ch2), (.int ch3), (.int ch4)]) (rest := [(.int ch3)]) (lenOf pd_27 rfl) rfl (by show 2 * 0 + _ ≤ _; exact Nat.le_of_eq rfl) (hb hby at_254) (fun _ _ => ⟨rfl, e344, (by decide : 12 + 0 ≤ _), (by decide : 64 + 0 ≤ _)⟩)
          dsimp only [Pt.U, Pt.locs, Pt.cells, Pt.slots] at X345 l345 y345 z345 st345 hQ345
          subst l345 y345 z345
          unfold Q_ex32 at hQ345
          obtain ⟨rfl, N345q, e345⟩ := hQ345
          have N345 := Fr.app N344 N345q
          have hws346 : ∀ d ∈ StrChars.Road.wordsChN, d.before a0 Z = true := fun d hd => hw d ((by decide +kernel : ∀ d ∈ StrChars.Road.wordsChN, d ∈ tables_1) d hd)
          obtain ⟨cq347, kq347, q347a, q347b, q347c⟩ := isOf hZ324 e345 f324_0
          obtain ⟨_, _, ⟨T347, L347, k347, n347⟩, -, X347, ⟨Lc347, hQ347, l347, y347, z347⟩, st347⟩ := X345.virtualBack hx (y := (⟨"java/lang/String", "charAt", "(I)C"⟩ : MethodName)) (z := (⟨"java/lang/String", "charAt", "(I)C"⟩ : MethodName)) hown324 (mvT hZ324 (hwk hw 163 rfl)) (mvT hZ324 (hwk hw 164 rfl)) (notFace_of_selects (args := #[]) (mvT hZ324 (hwk hw 166 rfl))) (mvT hZ324 (hwk hw 166 rfl)) (mvT hZ324 (hwk hw 165 rfl)) (by decide) (StrChars.Road.chN (W := 0) hZ324 hws346 (kI := 4) (hwk hw 5 rfl) (i := 4) f324_0 f324_1 f324_2 W329 OS327.1 OS327.2.1 c333 PZ c334 RF OS327.2.2 (Nat.le_of_ble_eq_true rfl) (by decide) (by decide) (by decide)) q347a q347c (g := (mkF m 271 #[.val (.int p0), .val (.int p1), .val (.int (2 : Int32)), .val (.int ch1), .val (.int ch2), .val (.int (2 : Int32)), .val (.int ch3), .val (.int ch4), .val (.ref o_316), .val (.ref o_318), .val (.ref o_324), .val (.int (5 : Int32))] [(.int (4 : Int32)), (.ref o_324)])) rfl (by rw [hml]; rfl) (Steps.refl _) (argsL := [(.int (4 : Int32))]) (rest := []) (lenOf pd_26 rfl) rfl (by show 2 * 0 + _ ≤ _; exact Nat.le_of_eq rfl) (hb hby at_271) (fun _ _ => ⟨rfl, e345, (by decide : 12 + 0 ≤ _), (by decide : 64 + 0 ≤ _)⟩)
          dsimp only [Pt.U, Pt.locs, Pt.cells, Pt.slots] at X347 l347 y347 z347 st347 hQ347
          subst l347 y347 z347
          obtain ⟨hv347, hl347, e347⟩ := hQ347
          cases (show _ = some (Value.int ch4) from hv347)
          have N347 := Fr.app N345 (own_frnil hl347)
          obtain ⟨_, _, ⟨T348, L348, k348, n348⟩, -, X348, ⟨Lc348, hQ348, l348, y348, z348⟩, st348⟩ := Jvm.LawKit.callS X347 hx (y := (⟨"com/example/syndex/syndex/SectionKeyPathPinLaw", "exp", "(IICCCC)C"⟩ : MethodName)) hown324 (mvT hZ324 (hwk hw 185 rfl)) (mvT hZ324 (hwk hw 186 rfl)) (mvT hZ324 (hwk hw 2 rfl)) (mvT hZ324 (hwk hw 187 rfl)) (by decide) (backOf (W := 1) (ex42 l Z a0 hw [] ch1 ch2 ch3 ch4 T324.heap n0 O330 gch1 gch2 gch3 gch4) hZ324 (hwk hw 187 rfl) (hwk hw 2 rfl) (by decide) (by decide)) (g := (mkF m 283 #[.val (.int p0), .val (.int p1), .val (.int (2 : Int32)), .val (.int ch1), .val (.int ch2), .val (.int (2 : Int32)), .val (.int ch3), .val (.int ch4), .val (.ref o_316), .val (.ref o_318), .val (.ref o_324), .val (.int (5 : Int32))] [(.int ch4), (.int ch3), (.int ch2), (.int ch1), (.int (2 : Int32)), (.int (4 : Int32)), (.int ch4)])) rfl (by rw [hml]; rfl) (argsL := [(.int (4 : Int32)), (.int (2 : Int32)), (.int ch1), (.int ch2), (.int ch3), (.int ch4)]) (rest := [(.int ch4)]) (lenOf pd_27 rfl) rfl (by show 2 * 0 + _ ≤ _; exact Nat.le_of_eq rfl) (hb hby at_283) (fun _ _ => ⟨rfl, e347, (by decide : 12 + 0 ≤ _), (by decide : 64 + 0 ≤ _)⟩)
          dsimp only [Pt.U, Pt.locs, Pt.cells, Pt.slots] at X348 l348 y348 z348 st348 hQ348
          subst l348 y348 z348
          unfold Q_ex42 at hQ348
          obtain ⟨rfl, N348q, e348⟩ := hQ348
          have N348 := Fr.app N347 N348q
          have K349 : Keep h0 T316.heap [] := Keep.trans (Keep.refl h0 []) K316 all0
          have K350 : Keep h0 T318.heap [] := Keep.trans K349 K318 all0
          have K351 : Keep h0 T324.heap [] := Keep.trans K350 K324 all0
          have CR352 : CHr Z consts_1 s.vm h0 T324.vm T324.heap := CHr.trans CR326 CX324
          obtain ⟨fs, hr, hrun, hended, hRE⟩ := X348.leaveW hS324 (show _ ≤ T348.heap.size from by rw [e348]; exact (Nat.le_refl _)) (v := some (.int (1 : Int32))) (fun h => by rw [Bd.returns] at h; cases h)
          have CRl : CHr Z consts_1 s.vm s.heap (T348.setFrames fs).vm (T348.setFrames fs).heap := by
            have q := CHr.trans CR352 (CHv.at X348 hZ324 hEL CR352.1)
            rw [← hh, ← e348] at q
            exact q
          refine ⟨_, _, S250 _ ?_, hrun, hended, _, _, rfl, ?_, CRl, hRE.1, hRE.2.1, hRE.2.2.1, hRE.2.2.2.mono (by decide) (by decide)⟩
          · show Steps p.tables e below (s₁.setTop (mkF m 39 #[.val (.int p0), .val (.int p1), .val (.int (2 : Int32)), .val (.int ((p0 &&& (255 : Int32)).toUInt32.toUInt16.toUInt32.toInt32)), .val (.int ((((p0.toUInt32 >>> ((8 : Int32) &&& 31).toUInt32).toInt32) &&& (255 : Int32)).toUInt32.toUInt16.toUInt32.toInt32)), .unset, .unset, .unset, .unset, .unset, .unset, .unset] [(.int ((((p1.toUInt32 >>> ((16 : Int32) &&& 31).toUInt32).toInt32) &&& (255 : Int32)) % (3 : Int32)))])) _
            rw [(show ((((p1.toUInt32 >>> ((16 : Int32) &&& 31).toUInt32).toInt32) &&& (255 : Int32)) % (3 : Int32)) = (2 : Int32) from ((own_r3 ((p1.toUInt32 >>> ((16 : Int32) &&& 31).toUInt32).toInt32)).resolve_left hr248).resolve_left hr249)]
            show Steps p.tables e below (s₁.setTop (mkF m 39 #[.val (.int p0), .val (.int p1), .val (.int (2 : Int32)), .val (.int ((p0 &&& (255 : Int32)).toUInt32.toUInt16.toUInt32.toInt32)), .val (.int ((((p0.toUInt32 >>> ((8 : Int32) &&& 31).toUInt32).toInt32) &&& (255 : Int32)).toUInt32.toUInt16.toUInt32.toInt32)), .unset, .unset, .unset, .unset, .unset, .unset, .unset] [(.int (2 : Int32))])) _
            refine XS.istore X0.here hx rfl (hb hby at_39) rfl (l' := #[.val (.int p0), .val (.int p1), .val (.int (2 : Int32)), .val (.int ((p0 &&& (255 : Int32)).toUInt32.toUInt16.toUInt32.toInt32)), .val (.int ((((p0.toUInt32 >>> ((8 : Int32) &&& 31).toUInt32).toInt32) &&& (255 : Int32)).toUInt32.toUInt16.toUInt32.toInt32)), .val (.int (2 : Int32)), .unset, .unset, .unset, .unset, .unset, .unset]) rfl ?_
            show Steps p.tables e below (s₁.setTop (mkF m 41 #[.val (.int p0), .val (.int p1), .val (.int (2 : Int32)), .val (.int ((p0 &&& (255 : Int32)).toUInt32.toUInt16.toUInt32.toInt32)), .val (.int ((((p0.toUInt32 >>> ((8 : Int32) &&& 31).toUInt32).toInt32) &&& (255 : Int32)).toUInt32.toUInt16.toUInt32.toInt32)), .val (.int (2 : Int32)), .unset, .unset, .unset, .unset, .unset, .unset] [])) _
            refine XS.iloadN X0.here hx rfl (hb hby at_41) rfl ?_
            refine XS.sipush X0.here hx rfl (hb hby at_42) ?_
            refine XS.iand X0.here hx rfl (hb hby at_45) rfl ?_
            show Steps p.tables e below (s₁.setTop (mkF m 46 #[.val (.int p0), .val (.int p1), .val (.int (2 : Int32)), .val (.int ((p0 &&& (255 : Int32)).toUInt32.toUInt16.toUInt32.toInt32)), .val (.int ((((p0.toUInt32 >>> ((8 : Int32) &&& 31).toUInt32).toInt32) &&& (255 : Int32)).toUInt32.toUInt16.toUInt32.toInt32)), .val (.int (2 : Int32)), .unset, .unset, .unset, .unset, .unset, .unset] [(.int (p1 &&& (255 : Int32)))])) _
            refine XS.i2c X0.here hx rfl (hb hby at_46) rfl ?_
            show Steps p.tables e below (s₁.setTop (mkF m 47 #[.val (.int p0), .val (.int p1), .val (.int (2 : Int32)), .val (.int ((p0 &&& (255 : Int32)).toUInt32.toUInt16.toUInt32.toInt32)), .val (.int ((((p0.toUInt32 >>> ((8 : Int32) &&& 31).toUInt32).toInt32) &&& (255 : Int32)).toUInt32.toUInt16.toUInt32.toInt32)), .val (.int (2 : Int32)), .unset, .unset, .unset, .unset, .unset, .unset] [(.int ((p1 &&& (255 : Int32)).toUInt32.toUInt16.toUInt32.toInt32))])) _
            refine XS.istore X0.here hx rfl (hb hby at_47) rfl (l' := #[.val (.int p0), .val (.int p1), .val (.int (2 : Int32)), .val (.int ((p0 &&& (255 : Int32)).toUInt32.toUInt16.toUInt32.toInt32)), .val (.int ((((p0.toUInt32 >>> ((8 : Int32) &&& 31).toUInt32).toInt32) &&& (255 : Int32)).toUInt32.toUInt16.toUInt32.toInt32)), .val (.int (2 : Int32)), .val (.int ((p1 &&& (255 : Int32)).toUInt32.toUInt16.toUInt32.toInt32)), .unset, .unset, .unset, .unset, .unset]) rfl ?_
            show Steps p.tables e below (s₁.setTop (mkF m 49 #[.val (.int p0), .val (.int p1), .val (.int (2 : Int32)), .val (.int ((p0 &&& (255 : Int32)).toUInt32.toUInt16.toUInt32.toInt32)), .val (.int ((((p0.toUInt32 >>> ((8 : Int32) &&& 31).toUInt32).toInt32) &&& (255 : Int32)).toUInt32.toUInt16.toUInt32.toInt32)), .val (.int (2 : Int32)), .val (.int ((p1 &&& (255 : Int32)).toUInt32.toUInt16.toUInt32.toInt32)), .unset, .unset, .unset, .unset, .unset] [])) _
            refine XS.iloadN X0.here hx rfl (hb hby at_49) rfl ?_
            refine XS.bipush X0.here hx rfl (hb hby at_50) ?_
            refine XS.iushr X0.here hx rfl (hb hby at_52) rfl ?_
            show Steps p.tables e below (s₁.setTop (mkF m 53 #[.val (.int p0), .val (.int p1), .val (.int (2 : Int32)), .val (.int ((p0 &&& (255 : Int32)).toUInt32.toUInt16.toUInt32.toInt32)), .val (.int ((((p0.toUInt32 >>> ((8 : Int32) &&& 31).toUInt32).toInt32) &&& (255 : Int32)).toUInt32.toUInt16.toUInt32.toInt32)), .val (.int (2 : Int32)), .val (.int ((p1 &&& (255 : Int32)).toUInt32.toUInt16.toUInt32.toInt32)), .unset, .unset, .unset, .unset, .unset] [(.int ((p1.toUInt32 >>> ((8 : Int32) &&& 31).toUInt32).toInt32))])) _
            refine XS.sipush X0.here hx rfl (hb hby at_53) ?_
            refine XS.iand X0.here hx rfl (hb hby at_56) rfl ?_
            show Steps p.tables e below (s₁.setTop (mkF m 57 #[.val (.int p0), .val (.int p1), .val (.int (2 : Int32)), .val (.int ((p0 &&& (255 : Int32)).toUInt32.toUInt16.toUInt32.toInt32)), .val (.int ((((p0.toUInt32 >>> ((8 : Int32) &&& 31).toUInt32).toInt32) &&& (255 : Int32)).toUInt32.toUInt16.toUInt32.toInt32)), .val (.int (2 : Int32)), .val (.int ((p1 &&& (255 : Int32)).toUInt32.toUInt16.toUInt32.toInt32)), .unset, .unset, .unset, .unset, .unset] [(.int (((p1.toUInt32 >>> ((8 : Int32) &&& 31).toUInt32).toInt32) &&& (255 : Int32)))])) _
            refine XS.i2c X0.here hx rfl (hb hby at_57) rfl ?_
            show Steps p.tables e below (s₁.setTop (mkF m 58 #[.val (.int p0), .val (.int p1), .val (.int (2 : Int32)), .val (.int ((p0 &&& (255 : Int32)).toUInt32.toUInt16.toUInt32.toInt32)), .val (.int ((((p0.toUInt32 >>> ((8 : Int32) &&& 31).toUInt32).toInt32) &&& (255 : Int32)).toUInt32.toUInt16.toUInt32.toInt32)), .val (.int (2 : Int32)), .val (.int ((p1 &&& (255 : Int32)).toUInt32.toUInt16.toUInt32.toInt32)), .unset, .unset, .unset, .unset, .unset] [(.int ((((p1.toUInt32 >>> ((8 : Int32) &&& 31).toUInt32).toInt32) &&& (255 : Int32)).toUInt32.toUInt16.toUInt32.toInt32))])) _
            refine XS.istore X0.here hx rfl (hb hby at_58) rfl (l' := #[.val (.int p0), .val (.int p1), .val (.int (2 : Int32)), .val (.int ((p0 &&& (255 : Int32)).toUInt32.toUInt16.toUInt32.toInt32)), .val (.int ((((p0.toUInt32 >>> ((8 : Int32) &&& 31).toUInt32).toInt32) &&& (255 : Int32)).toUInt32.toUInt16.toUInt32.toInt32)), .val (.int (2 : Int32)), .val (.int ((p1 &&& (255 : Int32)).toUInt32.toUInt16.toUInt32.toInt32)), .val (.int ((((p1.toUInt32 >>> ((8 : Int32) &&& 31).toUInt32).toInt32) &&& (255 : Int32)).toUInt32.toUInt16.toUInt32.toInt32)), .unset, .unset, .unset, .unset]) rfl ?_
            show Steps p.tables e below (s₁.setTop (mkF m 60 #[.val (.int p0), .val (.int p1), .val (.int (2 : Int32)), .val (.int ((p0 &&& (255 : Int32)).toUInt32.toUInt16.toUInt32.toInt32)), .val (.int ((((p0.toUInt32 >>> ((8 : Int32) &&& 31).toUInt32).toInt32) &&& (255 : Int32)).toUInt32.toUInt16.toUInt32.toInt32)), .val (.int (2 : Int32)), .val (.int ((p1 &&& (255 : Int32)).toUInt32.toUInt16.toUInt32.toInt32)), .val (.int ((((p1.toUInt32 >>> ((8 : Int32) &&& 31).toUInt32).toInt32) &&& (255 : Int32)).toUInt32.toUInt16.toUInt32.toInt32)), .unset, .unset, .unset, .unset] [])) _
            rw [← ech1]
            show Steps p.tables e below (s₁.setTop (mkF m 60 #[.val (.int p0), .val (.int p1), .val (.int (2 : Int32)), .val (.int ch1), .val (.int ((((p0.toUInt32 >>> ((8 : Int32) &&& 31).toUInt32).toInt32) &&& (255 : Int32)).toUInt32.toUInt16.toUInt32.toInt32)), .val (.int (2 : Int32)), .val (.int ((p1 &&& (255 : Int32)).toUInt32.toUInt16.toUInt32.toInt32)), .val (.int ((((p1.toUInt32 >>> ((8 : Int32) &&& 31).toUInt32).toInt32) &&& (255 : Int32)).toUInt32.toUInt16.toUInt32.toInt32)), .unset, .unset, .unset, .unset] [])) _
            rw [← ech2]
            show Steps p.tables e below (s₁.setTop (mkF m 60 #[.val (.int p0), .val (.int p1), .val (.int (2 : Int32)), .val (.int ch1), .val (.int ch2), .val (.int (2 : Int32)), .val (.int ((p1 &&& (255 : Int32)).toUInt32.toUInt16.toUInt32.toInt32)), .val (.int ((((p1.toUInt32 >>> ((8 : Int32) &&& 31).toUInt32).toInt32) &&& (255 : Int32)).toUInt32.toUInt16.toUInt32.toInt32)), .unset, .unset, .unset, .unset] [])) _
            rw [← ech3]
            show Steps p.tables e below (s₁.setTop (mkF m 60 #[.val (.int p0), .val (.int p1), .val (.int (2 : Int32)), .val (.int ch1), .val (.int ch2), .val (.int (2 : Int32)), .val (.int ch3), .val (.int ((((p1.toUInt32 >>> ((8 : Int32) &&& 31).toUInt32).toInt32) &&& (255 : Int32)).toUInt32.toUInt16.toUInt32.toInt32)), .unset, .unset, .unset, .unset] [])) _
            rw [← ech4]
            show Steps p.tables e below (s₁.setTop (mkF m 60 #[.val (.int p0), .val (.int p1), .val (.int (2 : Int32)), .val (.int ch1), .val (.int ch2), .val (.int (2 : Int32)), .val (.int ch3), .val (.int ch4), .unset, .unset, .unset, .unset] [])) _
            refine XS.iloadN X0.here hx rfl (hb hby at_60) rfl ?_
            refine XS.iloadN X0.here hx rfl (hb hby at_61) rfl ?_
            refine XS.iload X0.here hx rfl (hb hby at_62) rfl ?_
            show Steps p.tables e below (s₁.setTop (mkF m 64 #[.val (.int p0), .val (.int p1), .val (.int (2 : Int32)), .val (.int ch1), .val (.int ch2), .val (.int (2 : Int32)), .val (.int ch3), .val (.int ch4), .unset, .unset, .unset, .unset] [(.int ch2), (.int ch1), (.int (2 : Int32))])) _
            refine st316 _ ?_
            show Steps p.tables e below (T316.setTop (mkF m 67 #[.val (.int p0), .val (.int p1), .val (.int (2 : Int32)), .val (.int ch1), .val (.int ch2), .val (.int (2 : Int32)), .val (.int ch3), .val (.int ch4), .unset, .unset, .unset, .unset] [(.ref o_316)])) _
            refine XS.astore X316.here hx rfl (hb hby at_67) rfl rfl (l' := #[.val (.int p0), .val (.int p1), .val (.int (2 : Int32)), .val (.int ch1), .val (.int ch2), .val (.int (2 : Int32)), .val (.int ch3), .val (.int ch4), .val (.ref o_316), .unset, .unset, .unset]) rfl ?_
            show Steps p.tables e below (T316.setTop (mkF m 69 #[.val (.int p0), .val (.int p1), .val (.int (2 : Int32)), .val (.int ch1), .val (.int ch2), .val (.int (2 : Int32)), .val (.int ch3), .val (.int ch4), .val (.ref o_316), .unset, .unset, .unset] [])) _
            refine XS.iload X316.here hx rfl (hb hby at_69) rfl ?_
            refine XS.iload X316.here hx rfl (hb hby at_71) rfl ?_
            refine XS.iload X316.here hx rfl (hb hby at_73) rfl ?_
            show Steps p.tables e below (T316.setTop (mkF m 75 #[.val (.int p0), .val (.int p1), .val (.int (2 : Int32)), .val (.int ch1), .val (.int ch2), .val (.int (2 : Int32)), .val (.int ch3), .val (.int ch4), .val (.ref o_316), .unset, .unset, .unset] [(.int ch4), (.int ch3), (.int (2 : Int32))])) _
            refine st318 _ ?_
            show Steps p.tables e below (T318.setTop (mkF m 78 #[.val (.int p0), .val (.int p1), .val (.int (2 : Int32)), .val (.int ch1), .val (.int ch2), .val (.int (2 : Int32)), .val (.int ch3), .val (.int ch4), .val (.ref o_316), .unset, .unset, .unset] [(.ref o_318)])) _
            refine XS.astore X318.here hx rfl (hb hby at_78) rfl rfl (l' := #[.val (.int p0), .val (.int p1), .val (.int (2 : Int32)), .val (.int ch1), .val (.int ch2), .val (.int (2 : Int32)), .val (.int ch3), .val (.int ch4), .val (.ref o_316), .val (.ref o_318), .unset, .unset]) rfl ?_
            show Steps p.tables e below (T318.setTop (mkF m 80 #[.val (.int p0), .val (.int p1), .val (.int (2 : Int32)), .val (.int ch1), .val (.int ch2), .val (.int (2 : Int32)), .val (.int ch3), .val (.int ch4), .val (.ref o_316), .val (.ref o_318), .unset, .unset] [])) _
            refine XS.aload X318.here hx rfl (hb hby at_80) rfl rfl ?_
            refine XS.aload X318.here hx rfl (hb hby at_82) rfl rfl ?_
            show Steps p.tables e below (T318.setTop (mkF m 84 #[.val (.int p0), .val (.int p1), .val (.int (2 : Int32)), .val (.int ch1), .val (.int ch2), .val (.int (2 : Int32)), .val (.int ch3), .val (.int ch4), .val (.ref o_316), .val (.ref o_318), .unset, .unset] [(.ref o_318), (.ref o_316)])) _
            refine st324.trans ?_
            show Steps p.tables e below (T324.setTop (mkF m 87 #[.val (.int p0), .val (.int p1), .val (.int (2 : Int32)), .val (.int ch1), .val (.int ch2), .val (.int (2 : Int32)), .val (.int ch3), .val (.int ch4), .val (.ref o_316), .val (.ref o_318), .unset, .unset] [(.ref o_324)])) _
            refine XS.astore X324b.here hx rfl (hb hby at_87) rfl rfl (l' := #[.val (.int p0), .val (.int p1), .val (.int (2 : Int32)), .val (.int ch1), .val (.int ch2), .val (.int (2 : Int32)), .val (.int ch3), .val (.int ch4), .val (.ref o_316), .val (.ref o_318), .val (.ref o_324), .unset]) rfl ?_
            show Steps p.tables e below (T324.setTop (mkF m 89 #[.val (.int p0), .val (.int p1), .val (.int (2 : Int32)), .val (.int ch1), .val (.int ch2), .val (.int (2 : Int32)), .val (.int ch3), .val (.int ch4), .val (.ref o_316), .val (.ref o_318), .val (.ref o_324), .unset] [])) _
            refine XS.aload X324b.here hx rfl (hb hby at_89) rfl rfl ?_
            refine XS.ifnonnullYes X324b.here hx rfl (pc0 := 91) (pc' := 96) rfl (hb hby at_91) rfl (by decide) (by decide) ?_
            show Steps p.tables e below (T324.setTop (mkF m 96 #[.val (.int p0), .val (.int p1), .val (.int (2 : Int32)), .val (.int ch1), .val (.int ch2), .val (.int (2 : Int32)), .val (.int ch3), .val (.int ch4), .val (.ref o_316), .val (.ref o_318), .val (.ref o_324), .unset] [])) _
            refine XS.iloadN X324b.here hx rfl (hb hby at_96) rfl ?_
            refine XS.ifYes X324b.here hx rfl (pc0 := 97) (pc' := 126) rfl (hb hby at_97) rfl ((if0 _ _).trans (feq (by decide : ¬ ((2 : Int32) = (0 : Int32)))).2) (by decide) (by decide) ?_
            show Steps p.tables e below (T324.setTop (mkF m 126 #[.val (.int p0), .val (.int p1), .val (.int (2 : Int32)), .val (.int ch1), .val (.int ch2), .val (.int (2 : Int32)), .val (.int ch3), .val (.int ch4), .val (.ref o_316), .val (.ref o_318), .val (.ref o_324), .unset] [])) _
            refine XS.iloadN X324b.here hx rfl (hb hby at_126) rfl ?_
            refine XS.iconst X324b.here hx rfl (hb hby at_127) ?_
            refine XS.iadd X324b.here hx rfl (hb hby at_128) rfl ?_
            show Steps p.tables e below (T324.setTop (mkF m 129 #[.val (.int p0), .val (.int p1), .val (.int (2 : Int32)), .val (.int ch1), .val (.int ch2), .val (.int (2 : Int32)), .val (.int ch3), .val (.int ch4), .val (.ref o_316), .val (.ref o_318), .val (.ref o_324), .unset] [(.int ((2 : Int32) + (1 : Int32)))])) _
            rw [show ((2 : Int32) + (1 : Int32)) = (3 : Int32) from by decide]
            show Steps p.tables e below (T324.setTop (mkF m 129 #[.val (.int p0), .val (.int p1), .val (.int (2 : Int32)), .val (.int ch1), .val (.int ch2), .val (.int (2 : Int32)), .val (.int ch3), .val (.int ch4), .val (.ref o_316), .val (.ref o_318), .val (.ref o_324), .unset] [(.int (3 : Int32))])) _
            refine XS.iload X324b.here hx rfl (hb hby at_129) rfl ?_
            refine XS.iadd X324b.here hx rfl (hb hby at_131) rfl ?_
            show Steps p.tables e below (T324.setTop (mkF m 132 #[.val (.int p0), .val (.int p1), .val (.int (2 : Int32)), .val (.int ch1), .val (.int ch2), .val (.int (2 : Int32)), .val (.int ch3), .val (.int ch4), .val (.ref o_316), .val (.ref o_318), .val (.ref o_324), .unset] [(.int ((3 : Int32) + (2 : Int32)))])) _
            rw [show ((3 : Int32) + (2 : Int32)) = (5 : Int32) from by decide]
            show Steps p.tables e below (T324.setTop (mkF m 132 #[.val (.int p0), .val (.int p1), .val (.int (2 : Int32)), .val (.int ch1), .val (.int ch2), .val (.int (2 : Int32)), .val (.int ch3), .val (.int ch4), .val (.ref o_316), .val (.ref o_318), .val (.ref o_324), .unset] [(.int (5 : Int32))])) _
            refine XS.istore X324b.here hx rfl (hb hby at_132) rfl (l' := #[.val (.int p0), .val (.int p1), .val (.int (2 : Int32)), .val (.int ch1), .val (.int ch2), .val (.int (2 : Int32)), .val (.int ch3), .val (.int ch4), .val (.ref o_316), .val (.ref o_318), .val (.ref o_324), .val (.int (5 : Int32))]) rfl ?_
            show Steps p.tables e below (T324.setTop (mkF m 134 #[.val (.int p0), .val (.int p1), .val (.int (2 : Int32)), .val (.int ch1), .val (.int ch2), .val (.int (2 : Int32)), .val (.int ch3), .val (.int ch4), .val (.ref o_316), .val (.ref o_318), .val (.ref o_324), .val (.int (5 : Int32))] [])) _
            refine XS.aload X324b.here hx rfl (hb hby at_134) rfl rfl ?_
            show Steps p.tables e below (T324.setTop (mkF m 136 #[.val (.int p0), .val (.int p1), .val (.int (2 : Int32)), .val (.int ch1), .val (.int ch2), .val (.int (2 : Int32)), .val (.int ch3), .val (.int ch4), .val (.ref o_316), .val (.ref o_318), .val (.ref o_324), .val (.int (5 : Int32))] [(.ref o_324)])) _
            refine st331.trans ?_
            show Steps p.tables e below (T331.setTop (mkF m 139 #[.val (.int p0), .val (.int p1), .val (.int (2 : Int32)), .val (.int ch1), .val (.int ch2), .val (.int (2 : Int32)), .val (.int ch3), .val (.int ch4), .val (.ref o_316), .val (.ref o_318), .val (.ref o_324), .val (.int (5 : Int32))] [(.int (5 : Int32))])) _
            refine XS.iload X331.here hx rfl (hb hby at_139) rfl ?_
            refine XS.icmpYes X331.here hx rfl (pc0 := 141) (pc' := 146) rfl (hb hby at_141) rfl (teq (by decide : (5 : Int32) = (5 : Int32))).1 (by decide) (by decide) ?_
            show Steps p.tables e below (T331.setTop (mkF m 146 #[.val (.int p0), .val (.int p1), .val (.int (2 : Int32)), .val (.int ch1), .val (.int ch2), .val (.int (2 : Int32)), .val (.int ch3), .val (.int ch4), .val (.ref o_316), .val (.ref o_318), .val (.ref o_324), .val (.int (5 : Int32))] [])) _
            refine XS.iconst X331.here hx rfl (hb hby at_146) ?_
            refine XS.iload X331.here hx rfl (hb hby at_147) rfl ?_
            refine XS.icmpNo X331.here hx rfl (hb hby at_149) rfl (tlt (by decide : (0 : Int32) < (5 : Int32))).2.1 ?_
            show Steps p.tables e below (T331.setTop (mkF m 152 #[.val (.int p0), .val (.int p1), .val (.int (2 : Int32)), .val (.int ch1), .val (.int ch2), .val (.int (2 : Int32)), .val (.int ch3), .val (.int ch4), .val (.ref o_316), .val (.ref o_318), .val (.ref o_324), .val (.int (5 : Int32))] [])) _
            refine XS.aload X331.here hx rfl (hb hby at_152) rfl rfl ?_
            refine XS.iconst X331.here hx rfl (hb hby at_154) ?_
            show Steps p.tables e below (T331.setTop (mkF m 155 #[.val (.int p0), .val (.int p1), .val (.int (2 : Int32)), .val (.int ch1), .val (.int ch2), .val (.int (2 : Int32)), .val (.int ch3), .val (.int ch4), .val (.ref o_316), .val (.ref o_318), .val (.ref o_324), .val (.int (5 : Int32))] [(.int (0 : Int32)), (.ref o_324)])) _
            refine st335.trans ?_
            show Steps p.tables e below (T335.setTop (mkF m 158 #[.val (.int p0), .val (.int p1), .val (.int (2 : Int32)), .val (.int ch1), .val (.int ch2), .val (.int (2 : Int32)), .val (.int ch3), .val (.int ch4), .val (.ref o_316), .val (.ref o_318), .val (.ref o_324), .val (.int (5 : Int32))] [(.int ch1)])) _
            refine XS.iconst X335.here hx rfl (hb hby at_158) ?_
            refine XS.iloadN X335.here hx rfl (hb hby at_159) rfl ?_
            refine XS.iloadN X335.here hx rfl (hb hby at_160) rfl ?_
            refine XS.iload X335.here hx rfl (hb hby at_161) rfl ?_
            show Steps p.tables e below (T335.setTop (mkF m 163 #[.val (.int p0), .val (.int p1), .val (.int (2 : Int32)), .val (.int ch1), .val (.int ch2), .val (.int (2 : Int32)), .val (.int ch3), .val (.int ch4), .val (.ref o_316), .val (.ref o_318), .val (.ref o_324), .val (.int (5 : Int32))] [(.int ch2), (.int ch1), (.int (2 : Int32)), (.int (0 : Int32)), (.int ch1)])) _
            refine XS.iload X335.here hx rfl (hb hby at_163) rfl ?_
            refine XS.iload X335.here hx rfl (hb hby at_165) rfl ?_
            show Steps p.tables e below (T335.setTop (mkF m 167 #[.val (.int p0), .val (.int p1), .val (.int (2 : Int32)), .val (.int ch1), .val (.int ch2), .val (.int (2 : Int32)), .val (.int ch3), .val (.int ch4), .val (.ref o_316), .val (.ref o_318), .val (.ref o_324), .val (.int (5 : Int32))] [(.int ch4), (.int ch3), (.int ch2), (.int ch1), (.int (2 : Int32)), (.int (0 : Int32)), (.int ch1)])) _
            refine st336 _ ?_
            show Steps p.tables e below (T336.setTop (mkF m 170 #[.val (.int p0), .val (.int p1), .val (.int (2 : Int32)), .val (.int ch1), .val (.int ch2), .val (.int (2 : Int32)), .val (.int ch3), .val (.int ch4), .val (.ref o_316), .val (.ref o_318), .val (.ref o_324), .val (.int (5 : Int32))] [(.int ch1), (.int ch1)])) _
            refine XS.icmpYes X336.here hx rfl (pc0 := 170) (pc' := 175) rfl (hb hby at_170) rfl (teq (rfl : ch1 = ch1)).1 (by decide) (by decide) ?_
            show Steps p.tables e below (T336.setTop (mkF m 175 #[.val (.int p0), .val (.int p1), .val (.int (2 : Int32)), .val (.int ch1), .val (.int ch2), .val (.int (2 : Int32)), .val (.int ch3), .val (.int ch4), .val (.ref o_316), .val (.ref o_318), .val (.ref o_324), .val (.int (5 : Int32))] [])) _
            refine XS.iconst X336.here hx rfl (hb hby at_175) ?_
            refine XS.iload X336.here hx rfl (hb hby at_176) rfl ?_
            refine XS.icmpNo X336.here hx rfl (hb hby at_178) rfl (tlt (by decide : (1 : Int32) < (5 : Int32))).2.1 ?_
            show Steps p.tables e below (T336.setTop (mkF m 181 #[.val (.int p0), .val (.int p1), .val (.int (2 : Int32)), .val (.int ch1), .val (.int ch2), .val (.int (2 : Int32)), .val (.int ch3), .val (.int ch4), .val (.ref o_316), .val (.ref o_318), .val (.ref o_324), .val (.int (5 : Int32))] [])) _
            refine XS.aload X336.here hx rfl (hb hby at_181) rfl rfl ?_
            refine XS.iconst X336.here hx rfl (hb hby at_183) ?_
            show Steps p.tables e below (T336.setTop (mkF m 184 #[.val (.int p0), .val (.int p1), .val (.int (2 : Int32)), .val (.int ch1), .val (.int ch2), .val (.int (2 : Int32)), .val (.int ch3), .val (.int ch4), .val (.ref o_316), .val (.ref o_318), .val (.ref o_324), .val (.int (5 : Int32))] [(.int (1 : Int32)), (.ref o_324)])) _
            refine st338.trans ?_
            show Steps p.tables e below (T338.setTop (mkF m 187 #[.val (.int p0), .val (.int p1), .val (.int (2 : Int32)), .val (.int ch1), .val (.int ch2), .val (.int (2 : Int32)), .val (.int ch3), .val (.int ch4), .val (.ref o_316), .val (.ref o_318), .val (.ref o_324), .val (.int (5 : Int32))] [(.int ch2)])) _
            refine XS.iconst X338.here hx rfl (hb hby at_187) ?_
            refine XS.iloadN X338.here hx rfl (hb hby at_188) rfl ?_
            refine XS.iloadN X338.here hx rfl (hb hby at_189) rfl ?_
            refine XS.iload X338.here hx rfl (hb hby at_190) rfl ?_
            show Steps p.tables e below (T338.setTop (mkF m 192 #[.val (.int p0), .val (.int p1), .val (.int (2 : Int32)), .val (.int ch1), .val (.int ch2), .val (.int (2 : Int32)), .val (.int ch3), .val (.int ch4), .val (.ref o_316), .val (.ref o_318), .val (.ref o_324), .val (.int (5 : Int32))] [(.int ch2), (.int ch1), (.int (2 : Int32)), (.int (1 : Int32)), (.int ch2)])) _
            refine XS.iload X338.here hx rfl (hb hby at_192) rfl ?_
            refine XS.iload X338.here hx rfl (hb hby at_194) rfl ?_
            show Steps p.tables e below (T338.setTop (mkF m 196 #[.val (.int p0), .val (.int p1), .val (.int (2 : Int32)), .val (.int ch1), .val (.int ch2), .val (.int (2 : Int32)), .val (.int ch3), .val (.int ch4), .val (.ref o_316), .val (.ref o_318), .val (.ref o_324), .val (.int (5 : Int32))] [(.int ch4), (.int ch3), (.int ch2), (.int ch1), (.int (2 : Int32)), (.int (1 : Int32)), (.int ch2)])) _
            refine st339 _ ?_
            show Steps p.tables e below (T339.setTop (mkF m 199 #[.val (.int p0), .val (.int p1), .val (.int (2 : Int32)), .val (.int ch1), .val (.int ch2), .val (.int (2 : Int32)), .val (.int ch3), .val (.int ch4), .val (.ref o_316), .val (.ref o_318), .val (.ref o_324), .val (.int (5 : Int32))] [(.int ch2), (.int ch2)])) _
            refine XS.icmpYes X339.here hx rfl (pc0 := 199) (pc' := 204) rfl (hb hby at_199) rfl (teq (rfl : ch2 = ch2)).1 (by decide) (by decide) ?_
            show Steps p.tables e below (T339.setTop (mkF m 204 #[.val (.int p0), .val (.int p1), .val (.int (2 : Int32)), .val (.int ch1), .val (.int ch2), .val (.int (2 : Int32)), .val (.int ch3), .val (.int ch4), .val (.ref o_316), .val (.ref o_318), .val (.ref o_324), .val (.int (5 : Int32))] [])) _
            refine XS.iconst X339.here hx rfl (hb hby at_204) ?_
            refine XS.iload X339.here hx rfl (hb hby at_205) rfl ?_
            refine XS.icmpNo X339.here hx rfl (hb hby at_207) rfl (tlt (by decide : (2 : Int32) < (5 : Int32))).2.1 ?_
            show Steps p.tables e below (T339.setTop (mkF m 210 #[.val (.int p0), .val (.int p1), .val (.int (2 : Int32)), .val (.int ch1), .val (.int ch2), .val (.int (2 : Int32)), .val (.int ch3), .val (.int ch4), .val (.ref o_316), .val (.ref o_318), .val (.ref o_324), .val (.int (5 : Int32))] [])) _
            refine XS.aload X339.here hx rfl (hb hby at_210) rfl rfl ?_
            refine XS.iconst X339.here hx rfl (hb hby at_212) ?_
            show Steps p.tables e below (T339.setTop (mkF m 213 #[.val (.int p0), .val (.int p1), .val (.int (2 : Int32)), .val (.int ch1), .val (.int ch2), .val (.int (2 : Int32)), .val (.int ch3), .val (.int ch4), .val (.ref o_316), .val (.ref o_318), .val (.ref o_324), .val (.int (5 : Int32))] [(.int (2 : Int32)), (.ref o_324)])) _
            refine st341.trans ?_
            show Steps p.tables e below (T341.setTop (mkF m 216 #[.val (.int p0), .val (.int p1), .val (.int (2 : Int32)), .val (.int ch1), .val (.int ch2), .val (.int (2 : Int32)), .val (.int ch3), .val (.int ch4), .val (.ref o_316), .val (.ref o_318), .val (.ref o_324), .val (.int (5 : Int32))] [(.int (46 : Int32))])) _
            refine XS.iconst X341.here hx rfl (hb hby at_216) ?_
            refine XS.iloadN X341.here hx rfl (hb hby at_217) rfl ?_
            refine XS.iloadN X341.here hx rfl (hb hby at_218) rfl ?_
            refine XS.iload X341.here hx rfl (hb hby at_219) rfl ?_
            show Steps p.tables e below (T341.setTop (mkF m 221 #[.val (.int p0), .val (.int p1), .val (.int (2 : Int32)), .val (.int ch1), .val (.int ch2), .val (.int (2 : Int32)), .val (.int ch3), .val (.int ch4), .val (.ref o_316), .val (.ref o_318), .val (.ref o_324), .val (.int (5 : Int32))] [(.int ch2), (.int ch1), (.int (2 : Int32)), (.int (2 : Int32)), (.int (46 : Int32))])) _
            refine XS.iload X341.here hx rfl (hb hby at_221) rfl ?_
            refine XS.iload X341.here hx rfl (hb hby at_223) rfl ?_
            show Steps p.tables e below (T341.setTop (mkF m 225 #[.val (.int p0), .val (.int p1), .val (.int (2 : Int32)), .val (.int ch1), .val (.int ch2), .val (.int (2 : Int32)), .val (.int ch3), .val (.int ch4), .val (.ref o_316), .val (.ref o_318), .val (.ref o_324), .val (.int (5 : Int32))] [(.int ch4), (.int ch3), (.int ch2), (.int ch1), (.int (2 : Int32)), (.int (2 : Int32)), (.int (46 : Int32))])) _
            refine st342 _ ?_
            show Steps p.tables e below (T342.setTop (mkF m 228 #[.val (.int p0), .val (.int p1), .val (.int (2 : Int32)), .val (.int ch1), .val (.int ch2), .val (.int (2 : Int32)), .val (.int ch3), .val (.int ch4), .val (.ref o_316), .val (.ref o_318), .val (.ref o_324), .val (.int (5 : Int32))] [(.int (46 : Int32)), (.int (46 : Int32))])) _
            refine XS.icmpYes X342.here hx rfl (pc0 := 228) (pc' := 233) rfl (hb hby at_228) rfl (teq (by decide : (46 : Int32) = (46 : Int32))).1 (by decide) (by decide) ?_
            show Steps p.tables e below (T342.setTop (mkF m 233 #[.val (.int p0), .val (.int p1), .val (.int (2 : Int32)), .val (.int ch1), .val (.int ch2), .val (.int (2 : Int32)), .val (.int ch3), .val (.int ch4), .val (.ref o_316), .val (.ref o_318), .val (.ref o_324), .val (.int (5 : Int32))] [])) _
            refine XS.iconst X342.here hx rfl (hb hby at_233) ?_
            refine XS.iload X342.here hx rfl (hb hby at_234) rfl ?_
            refine XS.icmpNo X342.here hx rfl (hb hby at_236) rfl (tlt (by decide : (3 : Int32) < (5 : Int32))).2.1 ?_
            show Steps p.tables e below (T342.setTop (mkF m 239 #[.val (.int p0), .val (.int p1), .val (.int (2 : Int32)), .val (.int ch1), .val (.int ch2), .val (.int (2 : Int32)), .val (.int ch3), .val (.int ch4), .val (.ref o_316), .val (.ref o_318), .val (.ref o_324), .val (.int (5 : Int32))] [])) _
            refine XS.aload X342.here hx rfl (hb hby at_239) rfl rfl ?_
            refine XS.iconst X342.here hx rfl (hb hby at_241) ?_
            show Steps p.tables e below (T342.setTop (mkF m 242 #[.val (.int p0), .val (.int p1), .val (.int (2 : Int32)), .val (.int ch1), .val (.int ch2), .val (.int (2 : Int32)), .val (.int ch3), .val (.int ch4), .val (.ref o_316), .val (.ref o_318), .val (.ref o_324), .val (.int (5 : Int32))] [(.int (3 : Int32)), (.ref o_324)])) _
            refine st344.trans ?_
            show Steps p.tables e below (T344.setTop (mkF m 245 #[.val (.int p0), .val (.int p1), .val (.int (2 : Int32)), .val (.int ch1), .val (.int ch2), .val (.int (2 : Int32)), .val (.int ch3), .val (.int ch4), .val (.ref o_316), .val (.ref o_318), .val (.ref o_324), .val (.int (5 : Int32))] [(.int ch3)])) _
            refine XS.iconst X344.here hx rfl (hb hby at_245) ?_
            refine XS.iloadN X344.here hx rfl (hb hby at_246) rfl ?_
            refine XS.iloadN X344.here hx rfl (hb hby at_247) rfl ?_
            refine XS.iload X344.here hx rfl (hb hby at_248) rfl ?_
            show Steps p.tables e below (T344.setTop (mkF m 250 #[.val (.int p0), .val (.int p1), .val (.int (2 : Int32)), .val (.int ch1), .val (.int ch2), .val (.int (2 : Int32)), .val (.int ch3), .val (.int ch4), .val (.ref o_316), .val (.ref o_318), .val (.ref o_324), .val (.int (5 : Int32))] [(.int ch2), (.int ch1), (.int (2 : Int32)), (.int (3 : Int32)), (.int ch3)])) _
            refine XS.iload X344.here hx rfl (hb hby at_250) rfl ?_
            refine XS.iload X344.here hx rfl (hb hby at_252) rfl ?_
            show Steps p.tables e below (T344.setTop (mkF m 254 #[.val (.int p0), .val (.int p1), .val (.int (2 : Int32)), .val (.int ch1), .val (.int ch2), .val (.int (2 : Int32)), .val (.int ch3), .val (.int ch4), .val (.ref o_316), .val (.ref o_318), .val (.ref o_324), .val (.int (5 : Int32))] [(.int ch4), (.int ch3), (.int ch2), (.int ch1), (.int (2 : Int32)), (.int (3 : Int32)), (.int ch3)])) _
            refine st345 _ ?_
            show Steps p.tables e below (T345.setTop (mkF m 257 #[.val (.int p0), .val (.int p1), .val (.int (2 : Int32)), .val (.int ch1), .val (.int ch2), .val (.int (2 : Int32)), .val (.int ch3), .val (.int ch4), .val (.ref o_316), .val (.ref o_318), .val (.ref o_324), .val (.int (5 : Int32))] [(.int ch3), (.int ch3)])) _
            refine XS.icmpYes X345.here hx rfl (pc0 := 257) (pc' := 262) rfl (hb hby at_257) rfl (teq (rfl : ch3 = ch3)).1 (by decide) (by decide) ?_
            show Steps p.tables e below (T345.setTop (mkF m 262 #[.val (.int p0), .val (.int p1), .val (.int (2 : Int32)), .val (.int ch1), .val (.int ch2), .val (.int (2 : Int32)), .val (.int ch3), .val (.int ch4), .val (.ref o_316), .val (.ref o_318), .val (.ref o_324), .val (.int (5 : Int32))] [])) _
            refine XS.iconst X345.here hx rfl (hb hby at_262) ?_
            refine XS.iload X345.here hx rfl (hb hby at_263) rfl ?_
            refine XS.icmpNo X345.here hx rfl (hb hby at_265) rfl (tlt (by decide : (4 : Int32) < (5 : Int32))).2.1 ?_
            show Steps p.tables e below (T345.setTop (mkF m 268 #[.val (.int p0), .val (.int p1), .val (.int (2 : Int32)), .val (.int ch1), .val (.int ch2), .val (.int (2 : Int32)), .val (.int ch3), .val (.int ch4), .val (.ref o_316), .val (.ref o_318), .val (.ref o_324), .val (.int (5 : Int32))] [])) _
            refine XS.aload X345.here hx rfl (hb hby at_268) rfl rfl ?_
            refine XS.iconst X345.here hx rfl (hb hby at_270) ?_
            show Steps p.tables e below (T345.setTop (mkF m 271 #[.val (.int p0), .val (.int p1), .val (.int (2 : Int32)), .val (.int ch1), .val (.int ch2), .val (.int (2 : Int32)), .val (.int ch3), .val (.int ch4), .val (.ref o_316), .val (.ref o_318), .val (.ref o_324), .val (.int (5 : Int32))] [(.int (4 : Int32)), (.ref o_324)])) _
            refine st347.trans ?_
            show Steps p.tables e below (T347.setTop (mkF m 274 #[.val (.int p0), .val (.int p1), .val (.int (2 : Int32)), .val (.int ch1), .val (.int ch2), .val (.int (2 : Int32)), .val (.int ch3), .val (.int ch4), .val (.ref o_316), .val (.ref o_318), .val (.ref o_324), .val (.int (5 : Int32))] [(.int ch4)])) _
            refine XS.iconst X347.here hx rfl (hb hby at_274) ?_
            refine XS.iloadN X347.here hx rfl (hb hby at_275) rfl ?_
            refine XS.iloadN X347.here hx rfl (hb hby at_276) rfl ?_
            refine XS.iload X347.here hx rfl (hb hby at_277) rfl ?_
            show Steps p.tables e below (T347.setTop (mkF m 279 #[.val (.int p0), .val (.int p1), .val (.int (2 : Int32)), .val (.int ch1), .val (.int ch2), .val (.int (2 : Int32)), .val (.int ch3), .val (.int ch4), .val (.ref o_316), .val (.ref o_318), .val (.ref o_324), .val (.int (5 : Int32))] [(.int ch2), (.int ch1), (.int (2 : Int32)), (.int (4 : Int32)), (.int ch4)])) _
            refine XS.iload X347.here hx rfl (hb hby at_279) rfl ?_
            refine XS.iload X347.here hx rfl (hb hby at_281) rfl ?_
            show Steps p.tables e below (T347.setTop (mkF m 283 #[.val (.int p0), .val (.int p1), .val (.int (2 : Int32)), .val (.int ch1), .val (.int ch2), .val (.int (2 : Int32)), .val (.int ch3), .val (.int ch4), .val (.ref o_316), .val (.ref o_318), .val (.ref o_324), .val (.int (5 : Int32))] [(.int ch4), (.int ch3), (.int ch2), (.int ch1), (.int (2 : Int32)), (.int (4 : Int32)), (.int ch4)])) _
            refine st348 _ ?_
            show Steps p.tables e below (T348.setTop (mkF m 286 #[.val (.int p0), .val (.int p1), .val (.int (2 : Int32)), .val (.int ch1), .val (.int ch2), .val (.int (2 : Int32)), .val (.int ch3), .val (.int ch4), .val (.ref o_316), .val (.ref o_318), .val (.ref o_324), .val (.int (5 : Int32))] [(.int ch4), (.int ch4)])) _
            refine XS.icmpYes X348.here hx rfl (pc0 := 286) (pc' := 291) rfl (hb hby at_286) rfl (teq (rfl : ch4 = ch4)).1 (by decide) (by decide) ?_
            show Steps p.tables e below (T348.setTop (mkF m 291 #[.val (.int p0), .val (.int p1), .val (.int (2 : Int32)), .val (.int ch1), .val (.int ch2), .val (.int (2 : Int32)), .val (.int ch3), .val (.int ch4), .val (.ref o_316), .val (.ref o_318), .val (.ref o_324), .val (.int (5 : Int32))] [])) _
            refine XS.iconst X348.here hx rfl (hb hby at_291) ?_
            show Steps p.tables e below (T348.setTop (mkF m 292 #[.val (.int p0), .val (.int p1), .val (.int (2 : Int32)), .val (.int ch1), .val (.int ch2), .val (.int (2 : Int32)), .val (.int ch3), .val (.int ch4), .val (.ref o_316), .val (.ref o_318), .val (.ref o_324), .val (.int (5 : Int32))] [(.int (1 : Int32))])) _
            exact Jvm.RoadKit.retOut X348 hx Bd.returns rfl (Or.inl ⟨rfl, by simp, _, rfl⟩) (hb hby at_292) hr
          · show Q_rm0 Z p0 p1 zc fm h0 n0 _ T348.heap _
            rw [e348]
            unfold Q_rm0
            exact ⟨rfl, N348, K351⟩
theorem own_evR {args : Array Value} {s : State} {a b : Term} {y : Addr} (h : (Jvm.Cond.eq a b).value args s none s [] = some true) (hb : b.eval args s none [] s = some (.ref y)) : a.eval args s none [] s = some (.ref y) := by
  obtain ⟨x, z, h1, h2, h3, h4⟩ := cmp_v (Or.inl h)
  cases h2.symm.trans hb
  have hx : x.isRef = true := h4.2
  have q := gotT (eq_R h1 hb hx rfl) h
  rw [h1, q]
theorem own_len {args : Array Value} {s : State} {t : Term} {a : Addr} {cl : Cell} {ty : FieldType} {n : Int32} (A : Arr s s.heap a cl ty) (ev : t.eval args s none [] s = some (.ref a)) (h : (Term.length t).eval args s none [] s = some (.int n)) : cl.slots.size < 2 ^ 31 ∧ cl.slots.size.toInt32 = n := by
  have ha : s.arrayAt? a = some cl := A.fin (Vm.Alike.refl _)
  have hl := SBG.length_lt ev ha h
  have q := len_f ev ha hl
  exact ⟨hl, by simpa using Option.some.inj (q.symm.trans h)⟩
theorem own_arvU {s : State} {a : Addr} {cl : Cell} {ty : FieldType} {n : Int32} {dv : Value} (hf : Fit s) (A : Arr s s.heap a cl ty) (q : cl.slots.size < 2 ^ 31) (e : cl.slots.size.toInt32 = n) (hn : ¬ n < 0) : Arv s s.heap a cl.cls ty n cl.slots.toList dv := by
  have S : cl.slots.size = n.toNatClampNeg := by rw [← e]; simp only [Int32.toNatClampNeg, len_toInt q]; rfl
  have H : Has cl cl.slots.toList dv := fun j hj => by simp [hj]
  refine ⟨cl, A, rfl, S, hn, H, fun j hj => ?_⟩
  have e1 : (Nat.toInt32 j).toNatClampNeg = j := by simp only [Int32.toNatClampNeg, len_toInt (Nat.lt_trans hj q)]; rfl
  exact elem_fits (j := Nat.toInt32 j) hf A (idx_in hj q) (by rw [e1]; exact H j hj)
set_option maxRecDepth 65536 in
set_option maxHeartbeats 40000000 in
theorem comes_1 {Post : Tables → Env → Array Value → State → Outcome → State → Prop} (hpost : ∀ tb e args s v u, (limb_1_1.after args s (.returned v) u = true ∧ limb_1_2.after args s (.returned v) u = true ∧ True) → ReturnedEndW s (.returned v) u (Jvm.fieldLocs frame_1_writes args s ++ Jvm.arrayLocs frame_1_arrays args s ++ Jvm.staticLocs frame_1_statics s) 32 2240 → Post tb e args s (.returned v) u) :
    ArmFor flags0 classFile x code maxLocals ret World_1 tables_1 room_1 Calls_1 rest_1 Pre_1 Post := by
  intro l hfl _ _ p e ha hc hk s m args below hf hA hF happ hP
  obtain ⟨hcalls, hrest, hpre⟩ := hP
  obtain ⟨-, -, -, hnamed, -, -, -, hat⟩ := (Spec.applies_iff hf).mp happ
  obtain ⟨hg, hn⟩ := and_e (Cond.before_iff.mp (show (Jvm.Cond.and given_1 narrow_1).before args s = true from hpre))
  obtain ⟨gg1, gg2⟩ := and_e hg
  obtain ⟨gg3, gg4⟩ := and_e gg2
  obtain ⟨w0, w1, rfl⟩ : ∃ w0 w1 : Value, args = #[w0, w1] := by
    have hs : args.size = 2 := by simpa [Cond.value, given_1] using gg1
    obtain ⟨L⟩ := args
    match L, hs with
    | [w0, w1], _ => exact ⟨w0, w1, rfl⟩
  have hw := fun d (hd : d ∈ tables_1) => atoms_spec (ws := Jvm.Cond.code x code maxLocals ret :: tables_1) hat d (List.mem_cons_of_mem _ hd)
  have hfit : Fit s := fun {y c} hc i hi => by
    obtain ⟨ha, rfl⟩ := Array.getElem?_eq_some_iff.mp hc
    have q := List.all_eq_true.mp ((Array.all_eq_true_iff_forall_mem.mp hF) _ (Array.getElem_mem ha)) i (List.mem_range.mpr hi)
    simpa [Array.getElem?_eq_getElem hi] using q
  obtain ⟨hsets, hown0⟩ := atoms_of _ (rest_1_c_eq ▸ (show rest_1_c.before _ s = true from hrest))
  have hr0 := Cond.before_iff.mp hown0
  obtain ⟨i0, ei0⟩ := is_v gg3
  obtain rfl : w0 = (.int i0) := Option.some.inj ei0
  obtain ⟨i1, ei1⟩ := is_v gg4
  obtain rfl : w1 = (.int i1) := Option.some.inj ei1
  obtain ⟨zc, evz⟩ := is_v (Cond.before_iff.mp (hsets _ (List.mem_of_getElem? (i := 1) rfl)))
  have SZ : Sta s s.heap "java/lang/String" "COMPACT_STRINGS" "Z" (.int zc) := Sta.start evz (Or.inl (hsets _ (List.mem_of_getElem? (i := 0) rfl)))
  have PZ : ¬ (zc = (0 : Int32)) := gotF (Jvm.Cond.eq_ints evz rfl) (not_v (Cond.before_iff.mp (hsets _ (List.mem_of_getElem? (i := 2) rfl))))
  obtain ⟨fm, evf, RF⟩ := isR_v (Cond.before_iff.mp (hsets _ (List.mem_of_getElem? (i := 8) rfl)))
  have SF : Sta s s.heap "jdk/internal/util/Preconditions" "SIOOBE_FORMATTER" "Ljava/util/function/BiFunction;" fm := Sta.start evf (Or.inl (hsets _ (List.mem_of_getElem? (i := 7) rfl)))
  obtain ⟨n, o, h1, h2, h3, _, L, rfl, hQ, CHX, hq⟩ := rm0 l s _ hw tables_1 i0 i1 zc fm s.heap s.heap.size (Old.start s) SZ PZ SF RF p e ha hc hk s m _ below hf ((Spec.applies_iff_loose hf).mp happ).1 ⟨rfl, State.Warmed39.refl s, rfl, CHv.start (own_EW hw) (fun p hp => hcalls.1 p hp) (hsets _ (List.mem_of_getElem? (i := 2) rfl)) (hwk hw 19 rfl) (hwk hw 5 rfl), fun x hx => nomatch hx⟩ trivial
  unfold Q_rm0 at hQ
  obtain ⟨rfl, N, -⟩ := hQ
  refine ⟨n, _, h1, h2, h3, hpost _ _ _ _ _ _ ⟨Cond.after_iff.mpr rfl, Cond.after_iff.mpr (eq_i res_at (Term.int_eval (1)) rfl), trivial⟩ ⟨hq.1, hq.2.1, hq.2.2.1, (hq.2.2.2.sift fun y hy => Or.inr (N y hy)).mono (by decide) (by decide)⟩⟩
theorem main_1_1 : Claimed_1_1 := comes_1 fun _ _ _ _ _ _ h hF => ⟨h.1, hF⟩
theorem main_1_2 : Claimed_1_2 := comes_1 fun _ _ _ _ _ _ h hF => ⟨h.2.1, hF⟩
end Jvm.Pilot.@@N@@
namespace Jvm.Pilot.@@N@@
open Jvm Jvm.ClassFile Sem Op Lib Jvm.Free Jvm.Stand Jvm.Pilot.@@N@@.Jvm.D
/-! MADE BY PROGRAM (witnessworld.py) out of the Statement's table words and the real class files: 26 classes; the members and pool entries that the words name. The judged class is class 1, her method 3. -/
namespace start1
open Jvm.ClassFile
def u (s : String) : CpInfo := .utf8 (stringToUtf16 s)
/-- a pool by its gaps: so many unusable entries, then the entry; so many at the end -/
def gap : Nat → List CpInfo → List CpInfo
  | 0, r => r
  | n + 1, r => .unusable :: gap n r
def poolList (es : List (Nat × CpInfo)) (last : Nat) : List CpInfo := es.foldr (fun e r => gap e.1 (e.2 :: r)) (gap last [])
def pool (es : List (Nat × CpInfo)) (last : Nat) : Array CpInfo := ⟨poolList es last⟩
def fileOf (pool : Array CpInfo) (this : Nat) (attrs : Array Attribute := #[]) (ms : Array MethodInfo := #[]) (fl : Nat := 33) (sup : Nat := 0) (ifs : Array Nat := #[]) (fds : Array FieldInfo := #[]) : ClassFile where
  minorVersion := 0
  majorVersion := 65
  constantPool := pool
  accessFlags := fl
  thisClass := this
  superClass := sup
  interfaces := ifs
  fields := fds
  methods := ms
  attributes := attrs
def plain (name : String) (sup : Option ClassId) : Class where
  name := name
  kind := .ordinary
  loader := none
  accessFlags := 33
  super := sup
  interfaces := #[]
  cf := none
  fields := #[]
  methods := #[]
  instanceTypes := #[]
  staticTypes := #[]
  resolved := #[]
  callSites := []
  init := .initialized
  statics := none
  mirror := none

def pool0 : Array CpInfo := pool [(5, u "<init>"), (0, u "()V"), (1, .class_ 10), (1, u "java/lang/Object")] 113

def k0c0 : Code := { maxStack := 0, maxLocals := 1, code := object_method_1_code, exceptionTable := #[], attributes := #[] }
def k0m0 : Method := { name := "<init>", desc := "()V", sig := { parameters := [], returnType := none }, accessFlags := 1, code := some k0c0 }
/-- java/lang/Object -/
def k0 : Class := { plain "java/lang/Object" none with
  accessFlags := 33
  interfaces := #[]
  cf := some (fileOf pool0 8 #[] #[{ accessFlags := 1, nameIndex := 5, descriptorIndex := 6, attributes := #[] }] 33 0 #[] #[])
  fields := #[]
  methods := #[k0m0]
  instanceTypes := #[]
  staticTypes := #[]
  resolved := Array.replicate 124 none
  statics := none }

def pool1 : Array CpInfo := pool [(2, .class_ 4), (1, u "java/lang/Object"), (0, u "<init>"), (0, u "()V"), (0, .class_ 8), (0, u "java/lang/String"), (0, .methodref 7 10), (0, .nameAndType 5 11), (0, u "([C)V"), (0, .methodref 7 13), (0, .nameAndType 14 15), (0, u "valueOf"), (0, u "(C)Ljava/lang/String;"), (0, .methodref 17 18), (0, .class_ 19), (0, .nameAndType 20 21), (0, u "com/example/syndex/syndex/SectionKeyPathPinLaw"), (0, u "mk"), (0, u "(ICC)Ljava/lang/String;"), (0, .methodref 23 24), (0, .class_ 25), (0, .nameAndType 26 27), (0, u "com/example/syndex/syndex/Section"), (0, u "keyPath"), (0, u "(Ljava/lang/String;Ljava/lang/String;)Ljava/lang/String;"), (0, .methodref 7 29), (0, .nameAndType 30 31), (0, u "length"), (0, u "()I"), (0, .methodref 7 33), (0, .nameAndType 34 35), (0, u "equals"), (0, u "(Ljava/lang/Object;)Z"), (0, .methodref 7 37), (0, .nameAndType 38 39), (0, u "charAt"), (0, u "(I)C"), (0, .methodref 17 41), (0, .nameAndType 42 43), (0, u "exp"), (0, u "(IICCCC)C"), (3, u "law"), (0, u "(II)Z")] 2

def k1m0 : Method := { name := "<init>", desc := "()V", sig := { parameters := [], returnType := none }, accessFlags := 1, code := none }
def k1c1 : Code := { maxStack := 6, maxLocals := 3, code := method_2_code, exceptionTable := #[], attributes := #[] }
def k1m1 : Method := { name := "mk", desc := "(ICC)Ljava/lang/String;", sig := { parameters := [.int, .char, .char], returnType := some (.object "java/lang/String") }, accessFlags := 10, code := some k1c1 }
def k1c2 : Code := { maxStack := 2, maxLocals := 7, code := method_3_code, exceptionTable := #[], attributes := #[] }
def k1m2 : Method := { name := "exp", desc := "(IICCCC)C", sig := { parameters := [.int, .int, .char, .char, .char, .char], returnType := some .char }, accessFlags := 10, code := some k1c2 }
def k1c3 : Code := { maxStack := 7, maxLocals := 12, code := code, exceptionTable := #[], attributes := #[] }
def k1m3 : Method := { name := "law", desc := "(II)Z", sig := { parameters := [.int, .int], returnType := some .boolean }, accessFlags := 9, code := some k1c3 }
/-- com/example/syndex/syndex/SectionKeyPathPinLaw -/
def k1 : Class := { plain "com/example/syndex/syndex/SectionKeyPathPinLaw" (some 0) with
  accessFlags := 49
  interfaces := #[]
  cf := some (fileOf pool1 17 #[] #[{ accessFlags := 1, nameIndex := 5, descriptorIndex := 6, attributes := #[] }, { accessFlags := 10, nameIndex := 20, descriptorIndex := 21, attributes := #[] }, { accessFlags := 10, nameIndex := 42, descriptorIndex := 43, attributes := #[] }, { accessFlags := 9, nameIndex := 47, descriptorIndex := 48, attributes := #[] }] 49 2 #[] #[])
  fields := #[]
  methods := #[k1m0, k1m1, k1m2, k1m3]
  instanceTypes := #[]
  staticTypes := #[]
  resolved := Array.replicate 51 none
  statics := none }

def pool2 : Array CpInfo := pool [(1, .class_ 2), (0, u "java/io/Serializable"), (0, .class_ 4), (0, u "java/lang/Object")] 2

/-- java/io/Serializable -/
def k2 : Class := { plain "java/io/Serializable" (some 0) with
  accessFlags := 1537
  interfaces := #[]
  cf := some (fileOf pool2 1 #[] #[] 1537 3 #[] #[])
  fields := #[]
  methods := #[]
  instanceTypes := #[]
  staticTypes := #[]
  resolved := Array.replicate 7 none
  statics := none }

def pool3 : Array CpInfo := pool [(1, .class_ 2), (0, u "java/lang/Comparable"), (0, .class_ 4), (0, u "java/lang/Object")] 7

/-- java/lang/Comparable -/
def k3 : Class := { plain "java/lang/Comparable" (some 0) with
  accessFlags := 1537
  interfaces := #[]
  cf := some (fileOf pool3 1 #[] #[] 1537 3 #[] #[])
  fields := #[]
  methods := #[]
  instanceTypes := #[]
  staticTypes := #[]
  resolved := Array.replicate 12 none
  statics := none }

def pool4 : Array CpInfo := pool [(2, .class_ 4), (1, u "java/lang/CharSequence"), (42, .class_ 48), (0, u "java/lang/CharSequence$1CodePointIterator"), (10, .class_ 60), (0, u "java/lang/CharSequence$1CharIterator"), (5, .class_ 67), (0, u "java/lang/Object")] 63

/-- java/lang/CharSequence -/
def k4 : Class := { plain "java/lang/CharSequence" (some 0) with
  accessFlags := 1537
  interfaces := #[]
  cf := some (fileOf pool4 2 #[.nestMembers #[47, 59]] #[] 1537 66 #[] #[])
  fields := #[]
  methods := #[]
  instanceTypes := #[]
  staticTypes := #[]
  resolved := Array.replicate 131 none
  statics := none }

def pool5 : Array CpInfo := pool [(1, .class_ 2), (0, u "java/lang/constant/Constable"), (0, .class_ 4), (0, u "java/lang/Object")] 6

/-- java/lang/constant/Constable -/
def k5 : Class := { plain "java/lang/constant/Constable" (some 0) with
  accessFlags := 1537
  interfaces := #[]
  cf := some (fileOf pool5 1 #[] #[] 1537 3 #[] #[])
  fields := #[]
  methods := #[]
  instanceTypes := #[]
  staticTypes := #[]
  resolved := Array.replicate 11 none
  statics := none }

def pool6 : Array CpInfo := pool [(1, .class_ 2), (0, u "java/lang/constant/ConstantDesc"), (0, .class_ 4), (0, u "java/lang/Object")] 32

/-- java/lang/constant/ConstantDesc -/
def k6 : Class := { plain "java/lang/constant/ConstantDesc" (some 0) with
  accessFlags := 1537
  interfaces := #[]
  cf := some (fileOf pool6 1 #[] #[] 1537 3 #[] #[])
  fields := #[]
  methods := #[]
  instanceTypes := #[]
  staticTypes := #[]
  resolved := Array.replicate 37 none
  statics := none }

def pool7 : Array CpInfo := pool [(1, .methodref 2 3), (0, .class_ 4), (0, .nameAndType 5 6), (0, u "java/lang/Object"), (0, u "<init>"), (0, u "()V"), (0, .string 8), (0, u ""), (0, .fieldref 10 11), (0, .class_ 12), (0, .nameAndType 13 14), (0, u "java/lang/String"), (0, u "value"), (0, u "[B"), (0, .fieldref 10 16), (0, .nameAndType 17 18), (0, u "coder"), (0, u "B"), (2, u "hash"), (0, u "I"), (2, u "hashIsZero"), (0, u "Z"), (0, .methodref 10 28), (0, .nameAndType 5 29), (0, u "([CIILjava/lang/Void;)V"), (8, .fieldref 10 39), (0, .nameAndType 40 26), (0, u "COMPACT_STRINGS"), (1, .class_ 44), (1, u "java/lang/StringUTF16"), (0, u "compress"), (1, .methodref 42 48), (0, .nameAndType 49 50), (0, u "coderFromArrayLen"), (0, u "([BI)B"), (2, u "toBytes"), (0, .methodref 55 56), (0, .class_ 57), (0, .nameAndType 58 59), (0, u "java/util/Arrays"), (0, u "copyOfRange"), (0, u "([BII)[B"), (47, .class_ 109), (1, u "java/lang/StringLatin1"), (32, u "()Z"), (34, .methodref 42 178), (0, .nameAndType 45 179), (0, u "([CII)[B"), (13, .class_ 195), (1, u "java/lang/System"), (13, .methodref 10 210), (0, .nameAndType 5 211), (0, u "([BB)V"), (0, .methodref 193 213), (0, .nameAndType 214 215), (0, u "arraycopy"), (0, u "(Ljava/lang/Object;ILjava/lang/Object;II)V"), (118, u "()I"), (0, .methodref 10 336), (0, .nameAndType 17 337), (0, u "()B"), (2, u "()[B"), (22, u "([BI)C"), (5, u "(C)Z"), (21, u "(II)V"), (35, u "(I)C"), (61, .methodref 10 490), (0, .nameAndType 5 491), (0, u "(Ljava/lang/AbstractStringBuilder;Ljava/lang/Void;)V"), (0, .methodref 10 493), (0, .nameAndType 494 142), (0, u "isLatin1"), (0, .methodref 107 496), (0, .nameAndType 497 363), (0, u "charAt"), (3, u "checkIndex"), (4, .nameAndType 507 334), (0, u "length"), (24, u "getBytes"), (10, u "equals"), (5, .methodref 550 506), (0, .class_ 551), (0, u "java/lang/AbstractStringBuilder"), (0, .methodref 550 553), (0, .nameAndType 554 340), (0, u "getValue"), (18, u "(Ljava/lang/Object;)Z"), (1, .class_ 576), (0, u "java/lang/CharSequence"), (22, u "CASE_INSENSITIVE_ORDER"), (0, u "Ljava/util/Comparator;"), (91, u "isEmpty"), (89, u "valueOf"), (0, u "(C)Ljava/lang/String;"), (37, u "([BIB)V"), (188, u "([C)V"), (4, .methodref 107 1016), (0, .nameAndType 1017 369), (0, u "canEncode"), (0, .methodref 107 1019), (0, .nameAndType 53 1020), (0, u "(C)[B"), (26, .methodref 550 493), (5, .fieldref 1054 1055), (0, .class_ 1056), (0, .nameAndType 1057 1058), (0, u "jdk/internal/util/Preconditions"), (0, u "SIOOBE_FORMATTER"), (0, u "Ljava/util/function/BiFunction;"), (0, .methodref 1054 1060), (0, .nameAndType 501 1061), (0, u "(IILjava/util/function/BiFunction;)I"), (39, u "serialPersistentFields"), (0, u "[Ljava/io/ObjectStreamField;"), (0, .class_ 1104), (0, u "java/lang/String$CaseInsensitiveComparator"), (1, .class_ 1107), (0, u "java/io/Serializable"), (0, .class_ 1109), (0, u "java/lang/Comparable"), (0, .class_ 1111), (0, u "java/lang/constant/Constable"), (0, .class_ 1113), (0, u "java/lang/constant/ConstantDesc"), (2, u "serialVersionUID"), (0, u "J"), (3, u "REPL"), (0, u "C"), (2, u "LATIN1"), (1, u "UTF16"), (105, u "(Ljava/lang/StringBuilder;)V")] 217

def k7m0 : Method := { name := "<init>", desc := "()V", sig := { parameters := [], returnType := none }, accessFlags := 1, code := none }
def k7c1 : Code := { maxStack := 5, maxLocals := 2, code := jdk_42_method_3_code, exceptionTable := #[], attributes := #[] }
def k7m1 : Method := { name := "<init>", desc := "([C)V", sig := { parameters := [(.array .char)], returnType := none }, accessFlags := 1, code := some k7c1 }
def k7c2 : Code := { maxStack := 3, maxLocals := 2, code := jdk_42_method_53_code, exceptionTable := #[], attributes := #[] }
def k7m2 : Method := { name := "<init>", desc := "(Ljava/lang/StringBuilder;)V", sig := { parameters := [(.object "java/lang/StringBuilder")], returnType := none }, accessFlags := 1, code := some k7c2 }
def k7c3 : Code := { maxStack := 2, maxLocals := 1, code := jdk_42_method_54_code, exceptionTable := #[], attributes := #[] }
def k7m3 : Method := { name := "length", desc := "()I", sig := { parameters := [], returnType := some .int }, accessFlags := 1, code := some k7c3 }
def k7c4 : Code := { maxStack := 1, maxLocals := 1, code := jdk_42_method_55_code, exceptionTable := #[], attributes := #[] }
def k7m4 : Method := { name := "isEmpty", desc := "()Z", sig := { parameters := [], returnType := some .boolean }, accessFlags := 1, code := some k7c4 }
def k7c5 : Code := { maxStack := 2, maxLocals := 2, code := jdk_42_method_56_code, exceptionTable := #[], attributes := #[] }
def k7m5 : Method := { name := "charAt", desc := "(I)C", sig := { parameters := [.int], returnType := some .char }, accessFlags := 1, code := some k7c5 }
def k7c6 : Code := { maxStack := 2, maxLocals := 3, code := jdk_42_method_66_code, exceptionTable := #[], attributes := #[] }
def k7m6 : Method := { name := "equals", desc := "(Ljava/lang/Object;)Z", sig := { parameters := [(.object "java/lang/Object")], returnType := some .boolean }, accessFlags := 1, code := some k7c6 }
def k7c7 : Code := { maxStack := 4, maxLocals := 1, code := jdk_42_method_139_code, exceptionTable := #[], attributes := #[] }
def k7m7 : Method := { name := "valueOf", desc := "(C)Ljava/lang/String;", sig := { parameters := [.char], returnType := some (.object "java/lang/String") }, accessFlags := 9, code := some k7c7 }
def k7c8 : Code := { maxStack := 5, maxLocals := 4, code := jdk_42_method_147_code, exceptionTable := #[], attributes := #[] }
def k7m8 : Method := { name := "getBytes", desc := "([BIB)V", sig := { parameters := [(.array .byte), .int, .byte], returnType := none }, accessFlags := 0, code := some k7c8 }
def k7c9 : Code := { maxStack := 4, maxLocals := 6, code := jdk_42_method_149_code, exceptionTable := #[], attributes := #[] }
def k7m9 : Method := { name := "<init>", desc := "([CIILjava/lang/Void;)V", sig := { parameters := [(.array .char), .int, .int, (.object "java/lang/Void")], returnType := none }, accessFlags := 2, code := some k7c9 }
def k7c10 : Code := { maxStack := 5, maxLocals := 5, code := jdk_42_method_150_code, exceptionTable := #[], attributes := #[] }
def k7m10 : Method := { name := "<init>", desc := "(Ljava/lang/AbstractStringBuilder;Ljava/lang/Void;)V", sig := { parameters := [(.object "java/lang/AbstractStringBuilder"), (.object "java/lang/Void")], returnType := none }, accessFlags := 0, code := some k7c10 }
def k7c11 : Code := { maxStack := 2, maxLocals := 3, code := jdk_42_method_151_code, exceptionTable := #[], attributes := #[] }
def k7m11 : Method := { name := "<init>", desc := "([BB)V", sig := { parameters := [(.array .byte), .byte], returnType := none }, accessFlags := 0, code := some k7c11 }
def k7c12 : Code := { maxStack := 1, maxLocals := 1, code := jdk_42_method_152_code, exceptionTable := #[], attributes := #[] }
def k7m12 : Method := { name := "coder", desc := "()B", sig := { parameters := [], returnType := some .byte }, accessFlags := 0, code := some k7c12 }
def k7c13 : Code := { maxStack := 1, maxLocals := 1, code := jdk_42_method_154_code, exceptionTable := #[], attributes := #[] }
def k7m13 : Method := { name := "isLatin1", desc := "()Z", sig := { parameters := [], returnType := some .boolean }, accessFlags := 0, code := some k7c13 }
def k7c14 : Code := { maxStack := 3, maxLocals := 2, code := jdk_42_method_155_code, exceptionTable := #[], attributes := #[] }
def k7m14 : Method := { name := "checkIndex", desc := "(II)V", sig := { parameters := [.int, .int], returnType := none }, accessFlags := 8, code := some k7c14 }
/-- java/lang/String -/
def k7 : Class := { plain "java/lang/String" (some 0) with
  accessFlags := 49
  interfaces := #[2, 3, 4, 5, 6]
  cf := some (fileOf pool7 10 #[.nestMembers #[1103]] #[{ accessFlags := 1, nameIndex := 5, descriptorIndex := 6, attributes := #[] }, { accessFlags := 1, nameIndex := 5, descriptorIndex := 1010, attributes := #[] }, { accessFlags := 1, nameIndex := 5, descriptorIndex := 1233, attributes := #[] }, { accessFlags := 1, nameIndex := 507, descriptorIndex := 334, attributes := #[] }, { accessFlags := 1, nameIndex := 692, descriptorIndex := 142, attributes := #[] }, { accessFlags := 1, nameIndex := 497, descriptorIndex := 427, attributes := #[] }, { accessFlags := 1, nameIndex := 543, descriptorIndex := 573, attributes := #[] }, { accessFlags := 9, nameIndex := 782, descriptorIndex := 783, attributes := #[] }, { accessFlags := 0, nameIndex := 532, descriptorIndex := 821, attributes := #[] }, { accessFlags := 2, nameIndex := 5, descriptorIndex := 29, attributes := #[] }, { accessFlags := 0, nameIndex := 5, descriptorIndex := 491, attributes := #[] }, { accessFlags := 0, nameIndex := 5, descriptorIndex := 211, attributes := #[] }, { accessFlags := 0, nameIndex := 17, descriptorIndex := 337, attributes := #[] }, { accessFlags := 0, nameIndex := 494, descriptorIndex := 142, attributes := #[] }, { accessFlags := 8, nameIndex := 501, descriptorIndex := 391, attributes := #[] }] 49 2 #[1106, 1108, 575, 1110, 1112] #[{ accessFlags := 18, nameIndex := 13, descriptorIndex := 14, attributes := #[] }, { accessFlags := 18, nameIndex := 17, descriptorIndex := 18, attributes := #[] }, { accessFlags := 2, nameIndex := 21, descriptorIndex := 22, attributes := #[] }, { accessFlags := 2, nameIndex := 25, descriptorIndex := 26, attributes := #[] }, { accessFlags := 26, nameIndex := 1116, descriptorIndex := 1117, attributes := #[] }, { accessFlags := 24, nameIndex := 40, descriptorIndex := 26, attributes := #[] }, { accessFlags := 26, nameIndex := 1101, descriptorIndex := 1102, attributes := #[] }, { accessFlags := 26, nameIndex := 1121, descriptorIndex := 1122, attributes := #[] }, { accessFlags := 25, nameIndex := 599, descriptorIndex := 600, attributes := #[] }, { accessFlags := 24, nameIndex := 1125, descriptorIndex := 18, attributes := #[] }, { accessFlags := 24, nameIndex := 1127, descriptorIndex := 18, attributes := #[] }])
  fields := #[{ name := "value", type := (.array .byte), accessFlags := 18, slot := 0, constantValue := 0 }, { name := "coder", type := .byte, accessFlags := 18, slot := 1, constantValue := 0 }, { name := "hash", type := .int, accessFlags := 2, slot := 2, constantValue := 0 }, { name := "hashIsZero", type := .boolean, accessFlags := 2, slot := 3, constantValue := 0 }, { name := "serialVersionUID", type := .long, accessFlags := 26, slot := 0, constantValue := 0 }, { name := "COMPACT_STRINGS", type := .boolean, accessFlags := 24, slot := 1, constantValue := 0 }, { name := "serialPersistentFields", type := (.array (.object "java/io/ObjectStreamField")), accessFlags := 26, slot := 2, constantValue := 0 }, { name := "REPL", type := .char, accessFlags := 26, slot := 3, constantValue := 0 }, { name := "CASE_INSENSITIVE_ORDER", type := (.object "java/util/Comparator"), accessFlags := 25, slot := 4, constantValue := 0 }, { name := "LATIN1", type := .byte, accessFlags := 24, slot := 5, constantValue := 0 }, { name := "UTF16", type := .byte, accessFlags := 24, slot := 6, constantValue := 0 }]
  methods := #[k7m0, k7m1, k7m2, k7m3, k7m4, k7m5, k7m6, k7m7, k7m8, k7m9, k7m10, k7m11, k7m12, k7m13, k7m14]
  instanceTypes := #[(.array .byte), .byte, .int, .boolean]
  staticTypes := #[.long, .boolean, (.array (.object "java/io/ObjectStreamField")), .char, (.object "java/util/Comparator"), .byte, .byte]
  resolved := Array.replicate 1451 none
  statics := some 0 }

def pool8 : Array CpInfo := pool [(2, .class_ 4), (0, .nameAndType 5 6), (0, u "java/lang/Object"), (0, u "<init>"), (0, u "()V"), (1, .class_ 10), (1, u "com/example/syndex/syndex/Section"), (0, u "file"), (0, u "Ljava/lang/String;"), (2, u "path"), (2, u "entries"), (0, u "Ljava/util/Map;"), (0, .methodref 21 22), (0, .class_ 23), (0, .nameAndType 24 25), (0, u "java/lang/String"), (0, u "isEmpty"), (0, u "()Z"), (0, .class_ 27), (0, u "java/lang/StringBuilder"), (0, .methodref 26 3), (0, .methodref 26 30), (0, .nameAndType 31 32), (0, u "append"), (0, u "(Ljava/lang/String;)Ljava/lang/StringBuilder;"), (0, .string 34), (0, u "."), (0, .methodref 26 36), (0, .nameAndType 37 38), (0, u "toString"), (0, u "()Ljava/lang/String;"), (59, u "keyPath"), (0, u "(Ljava/lang/String;Ljava/lang/String;)Ljava/lang/String;"), (112, u "TIME"), (0, u "Ljava/time/format/DateTimeFormatter;"), (62, .class_ 278), (1, u "com/example/syndex/syndex/Section$ItemReader"), (46, u "MISSING")] 104

def k8c0 : Code := { maxStack := 2, maxLocals := 2, code := prog_68_method_2_code, exceptionTable := #[], attributes := #[] }
def k8m0 : Method := { name := "keyPath", desc := "(Ljava/lang/String;Ljava/lang/String;)Ljava/lang/String;", sig := { parameters := [(.object "java/lang/String"), (.object "java/lang/String")], returnType := some (.object "java/lang/String") }, accessFlags := 8, code := some k8c0 }
/-- com/example/syndex/syndex/Section -/
def k8 : Class := { plain "com/example/syndex/syndex/Section" (some 0) with
  accessFlags := 48
  interfaces := #[]
  cf := some (fileOf pool8 8 #[.nestMembers #[276]] #[{ accessFlags := 8, nameIndex := 98, descriptorIndex := 99, attributes := #[] }] 48 2 #[] #[{ accessFlags := 26, nameIndex := 325, descriptorIndex := 12, attributes := #[] }, { accessFlags := 26, nameIndex := 212, descriptorIndex := 213, attributes := #[] }, { accessFlags := 18, nameIndex := 11, descriptorIndex := 12, attributes := #[] }, { accessFlags := 18, nameIndex := 15, descriptorIndex := 12, attributes := #[] }, { accessFlags := 18, nameIndex := 18, descriptorIndex := 19, attributes := #[] }])
  fields := #[{ name := "MISSING", type := (.object "java/lang/String"), accessFlags := 26, slot := 0, constantValue := 0 }, { name := "TIME", type := (.object "java/time/format/DateTimeFormatter"), accessFlags := 26, slot := 1, constantValue := 0 }, { name := "file", type := (.object "java/lang/String"), accessFlags := 18, slot := 0, constantValue := 0 }, { name := "path", type := (.object "java/lang/String"), accessFlags := 18, slot := 1, constantValue := 0 }, { name := "entries", type := (.object "java/util/Map"), accessFlags := 18, slot := 2, constantValue := 0 }]
  methods := #[k8m0]
  instanceTypes := #[(.object "java/lang/String"), (.object "java/lang/String"), (.object "java/util/Map")]
  staticTypes := #[(.object "java/lang/String"), (.object "java/time/format/DateTimeFormatter")]
  resolved := Array.replicate 430 none
  statics := none }

def pool9 : Array CpInfo := pool [(6, .class_ 8), (1, u "java/lang/Object"), (0, u "<init>"), (0, u "()V"), (1, .class_ 14), (1, u "java/lang/StringUTF16"), (31, u "$assertionsDisabled"), (0, u "Z"), (13, u "HI_BYTE_SHIFT"), (0, u "I"), (2, u "LO_BYTE_SHIFT"), (49, .methodref 12 116), (0, .nameAndType 117 118), (0, u "compress"), (0, u "([CI[BII)I"), (3, u "([CII)[B"), (138, u "coderFromArrayLen"), (0, u "([BI)B"), (106, .class_ 371), (1, u "java/lang/StringUTF16$LinesSpliterator"), (58, u "MAX_LENGTH"), (196, .class_ 628), (0, u "java/lang/StringUTF16$CodePointsSpliterator"), (0, .class_ 630), (0, u "java/lang/StringUTF16$CharsSpliterator")] 4

def k9m0 : Method := { name := "<init>", desc := "()V", sig := { parameters := [], returnType := none }, accessFlags := 0, code := none }
def k9c1 : Code := { maxStack := 2, maxLocals := 2, code := jdk_52_method_15_code, exceptionTable := #[], attributes := #[] }
def k9m1 : Method := { name := "coderFromArrayLen", desc := "([BI)B", sig := { parameters := [(.array .byte), .int], returnType := some .byte }, accessFlags := 8, code := some k9c1 }
def k9c2 : Code := { maxStack := 5, maxLocals := 6, code := jdk_52_method_16_code, exceptionTable := #[], attributes := #[] }
def k9m2 : Method := { name := "compress", desc := "([CII)[B", sig := { parameters := [(.array .char), .int, .int], returnType := some (.array .byte) }, accessFlags := 9, code := some k9c2 }
def k9c3 : Code := { maxStack := 3, maxLocals := 7, code := jdk_52_method_21_code, exceptionTable := #[], attributes := #[] }
def k9m3 : Method := { name := "compress", desc := "([CI[BII)I", sig := { parameters := [(.array .char), .int, (.array .byte), .int, .int], returnType := some .int }, accessFlags := 9, code := some k9c3 }
/-- java/lang/StringUTF16 -/
def k9 : Class := { plain "java/lang/StringUTF16" (some 0) with
  accessFlags := 48
  interfaces := #[]
  cf := some (fileOf pool9 12 #[.nestMembers #[627, 629, 369]] #[{ accessFlags := 0, nameIndex := 9, descriptorIndex := 10, attributes := #[] }, { accessFlags := 8, nameIndex := 261, descriptorIndex := 262, attributes := #[] }, { accessFlags := 9, nameIndex := 117, descriptorIndex := 122, attributes := #[] }, { accessFlags := 9, nameIndex := 117, descriptorIndex := 118, attributes := #[] }] 48 6 #[] #[{ accessFlags := 26, nameIndex := 61, descriptorIndex := 62, attributes := #[] }, { accessFlags := 26, nameIndex := 65, descriptorIndex := 62, attributes := #[] }, { accessFlags := 24, nameIndex := 430, descriptorIndex := 62, attributes := #[] }, { accessFlags := 4120, nameIndex := 46, descriptorIndex := 47, attributes := #[] }])
  fields := #[{ name := "HI_BYTE_SHIFT", type := .int, accessFlags := 26, slot := 0, constantValue := 0 }, { name := "LO_BYTE_SHIFT", type := .int, accessFlags := 26, slot := 1, constantValue := 0 }, { name := "MAX_LENGTH", type := .int, accessFlags := 24, slot := 2, constantValue := 0 }, { name := "$assertionsDisabled", type := .boolean, accessFlags := 4120, slot := 3, constantValue := 0 }]
  methods := #[k9m0, k9m1, k9m2, k9m3]
  instanceTypes := #[]
  staticTypes := #[.int, .int, .int, .boolean]
  resolved := Array.replicate 635 none
  statics := none }

def pool10 : Array CpInfo := pool [(1, .class_ 2), (0, u "java/lang/Appendable"), (0, .class_ 4), (0, u "java/lang/Object")] 9

/-- java/lang/Appendable -/
def k10 : Class := { plain "java/lang/Appendable" (some 0) with
  accessFlags := 1537
  interfaces := #[]
  cf := some (fileOf pool10 1 #[] #[] 1537 3 #[] #[])
  fields := #[]
  methods := #[]
  instanceTypes := #[]
  staticTypes := #[]
  resolved := Array.replicate 14 none
  statics := none }

def pool11 : Array CpInfo := pool [(1, .class_ 2), (0, u "java/lang/String"), (0, .methodref 4 5), (0, .class_ 6), (0, .nameAndType 7 8), (0, u "java/lang/Object"), (0, u "<init>"), (0, u "()V"), (1, .class_ 12), (1, u "java/lang/AbstractStringBuilder"), (0, u "EMPTYVALUE"), (0, u "[B"), (0, .fieldref 10 16), (0, .nameAndType 17 14), (0, u "value"), (0, .fieldref 1 19), (0, .nameAndType 20 21), (0, u "COMPACT_STRINGS"), (0, u "Z"), (0, .fieldref 10 23), (0, .nameAndType 24 25), (0, u "coder"), (0, u "B"), (6, .methodref 1 33), (0, .nameAndType 34 35), (0, u "length"), (0, u "()I"), (4, .methodref 1 41), (0, .nameAndType 24 42), (0, u "()B"), (2, u "append"), (0, u "(Ljava/lang/String;)Ljava/lang/AbstractStringBuilder;"), (1, .class_ 49), (0, u "java/lang/CharSequence"), (19, u "(Ljava/lang/String;)V"), (5, u "maybeLatin1"), (3, .fieldref 10 80), (0, .nameAndType 81 82), (0, u "count"), (0, u "I"), (2, u "isLatin1"), (0, u "()Z"), (13, .methodref 10 101), (0, .nameAndType 102 103), (0, u "ensureCapacityInternal"), (0, u "(I)V"), (104, .methodref 10 209), (0, .nameAndType 210 211), (0, u "putStringAt"), (0, u "(ILjava/lang/String;)V"), (5, u "inflateIfNeededFor"), (2, .nameAndType 221 222), (0, u "getBytes"), (0, u "([BIB)V"), (174, .methodref 10 398), (0, .nameAndType 217 69), (0, .methodref 1 220), (3, u "()[B"), (40, .class_ 445), (0, u "java/lang/Appendable"), (106, u "getValue")] 56

def k11m0 : Method := { name := "<init>", desc := "()V", sig := { parameters := [], returnType := none }, accessFlags := 0, code := none }
def k11c1 : Code := { maxStack := 2, maxLocals := 2, code := jdk_68_method_2_code, exceptionTable := #[], attributes := #[] }
def k11m1 : Method := { name := "<init>", desc := "(I)V", sig := { parameters := [.int], returnType := none }, accessFlags := 0, code := some k11c1 }
def k11c2 : Code := { maxStack := 1, maxLocals := 1, code := jdk_68_method_6_code, exceptionTable := #[], attributes := #[] }
def k11m2 : Method := { name := "length", desc := "()I", sig := { parameters := [], returnType := some .int }, accessFlags := 1, code := some k11c2 }
def k11c3 : Code := { maxStack := 4, maxLocals := 3, code := jdk_68_method_9_code, exceptionTable := #[], attributes := #[] }
def k11m3 : Method := { name := "ensureCapacityInternal", desc := "(I)V", sig := { parameters := [.int], returnType := none }, accessFlags := 2, code := some k11c3 }
def k11c4 : Code := { maxStack := 3, maxLocals := 3, code := jdk_68_method_22_code, exceptionTable := #[], attributes := #[] }
def k11m4 : Method := { name := "append", desc := "(Ljava/lang/String;)Ljava/lang/AbstractStringBuilder;", sig := { parameters := [(.object "java/lang/String")], returnType := some (.object "java/lang/AbstractStringBuilder") }, accessFlags := 1, code := some k11c4 }
def k11c5 : Code := { maxStack := 1, maxLocals := 1, code := jdk_68_method_64_code, exceptionTable := #[], attributes := #[] }
def k11m5 : Method := { name := "getValue", desc := "()[B", sig := { parameters := [], returnType := some (.array .byte) }, accessFlags := 16, code := some k11c5 }
def k11c6 : Code := { maxStack := 1, maxLocals := 1, code := jdk_68_method_68_code, exceptionTable := #[], attributes := #[] }
def k11m6 : Method := { name := "isLatin1", desc := "()Z", sig := { parameters := [], returnType := some .boolean }, accessFlags := 16, code := some k11c6 }
def k11c7 : Code := { maxStack := 2, maxLocals := 2, code := jdk_68_method_71_code, exceptionTable := #[], attributes := #[] }
def k11m7 : Method := { name := "inflateIfNeededFor", desc := "(Ljava/lang/String;)V", sig := { parameters := [(.object "java/lang/String")], returnType := none }, accessFlags := 2, code := some k11c7 }
def k11c8 : Code := { maxStack := 4, maxLocals := 3, code := jdk_68_method_73_code, exceptionTable := #[], attributes := #[] }
def k11m8 : Method := { name := "putStringAt", desc := "(ILjava/lang/String;)V", sig := { parameters := [.int, (.object "java/lang/String")], returnType := none }, accessFlags := 2, code := some k11c8 }
/-- java/lang/AbstractStringBuilder -/
def k11 : Class := { plain "java/lang/AbstractStringBuilder" (some 0) with
  accessFlags := 1056
  interfaces := #[10, 4]
  cf := some (fileOf pool11 10 #[] #[{ accessFlags := 0, nameIndex := 7, descriptorIndex := 8, attributes := #[] }, { accessFlags := 0, nameIndex := 7, descriptorIndex := 103, attributes := #[] }, { accessFlags := 1, nameIndex := 34, descriptorIndex := 35, attributes := #[] }, { accessFlags := 2, nameIndex := 102, descriptorIndex := 103, attributes := #[] }, { accessFlags := 1, nameIndex := 45, descriptorIndex := 46, attributes := #[] }, { accessFlags := 16, nameIndex := 552, descriptorIndex := 403, attributes := #[] }, { accessFlags := 16, nameIndex := 85, descriptorIndex := 86, attributes := #[] }, { accessFlags := 2, nameIndex := 217, descriptorIndex := 69, attributes := #[] }, { accessFlags := 2, nameIndex := 210, descriptorIndex := 211, attributes := #[] }] 1056 4 #[444, 48] #[{ accessFlags := 0, nameIndex := 17, descriptorIndex := 14, attributes := #[] }, { accessFlags := 0, nameIndex := 24, descriptorIndex := 25, attributes := #[] }, { accessFlags := 0, nameIndex := 75, descriptorIndex := 21, attributes := #[] }, { accessFlags := 0, nameIndex := 81, descriptorIndex := 82, attributes := #[] }, { accessFlags := 26, nameIndex := 13, descriptorIndex := 14, attributes := #[] }])
  fields := #[{ name := "value", type := (.array .byte), accessFlags := 0, slot := 0, constantValue := 0 }, { name := "coder", type := .byte, accessFlags := 0, slot := 1, constantValue := 0 }, { name := "maybeLatin1", type := .boolean, accessFlags := 0, slot := 2, constantValue := 0 }, { name := "count", type := .int, accessFlags := 0, slot := 3, constantValue := 0 }, { name := "EMPTYVALUE", type := (.array .byte), accessFlags := 26, slot := 0, constantValue := 0 }]
  methods := #[k11m0, k11m1, k11m2, k11m3, k11m4, k11m5, k11m6, k11m7, k11m8]
  instanceTypes := #[(.array .byte), .byte, .boolean, .int]
  staticTypes := #[(.array .byte)]
  resolved := Array.replicate 609 none
  statics := none }

def pool12 : Array CpInfo := pool [(1, .methodref 2 3), (0, .class_ 4), (0, .nameAndType 5 6), (0, u "java/lang/AbstractStringBuilder"), (0, u "<init>"), (0, u "(I)V"), (11, .class_ 20), (1, u "java/lang/String"), (3, .class_ 26), (1, u "java/lang/StringBuilder"), (0, u "append"), (0, u "(Ljava/lang/String;)Ljava/lang/StringBuilder;"), (0, .methodref 2 30), (0, .nameAndType 27 31), (0, u "(Ljava/lang/String;)Ljava/lang/AbstractStringBuilder;"), (105, .methodref 18 138), (0, .nameAndType 5 139), (0, u "(Ljava/lang/StringBuilder;)V"), (5, u "()V"), (10, u "()I"), (186, .methodref 2 344), (0, .nameAndType 345 156), (0, u "length"), (3, .class_ 350), (0, u "java/lang/Appendable"), (0, .class_ 352), (0, u "java/io/Serializable"), (0, .class_ 354), (0, u "java/lang/Comparable"), (0, .class_ 356), (0, u "java/lang/CharSequence"), (0, u "serialVersionUID"), (0, u "J"), (40, u "toString"), (0, u "()Ljava/lang/String;")] 21

def k12c0 : Code := { maxStack := 2, maxLocals := 1, code := jdk_67_method_1_code, exceptionTable := #[], attributes := #[] }
def k12m0 : Method := { name := "<init>", desc := "()V", sig := { parameters := [], returnType := none }, accessFlags := 1, code := some k12c0 }
def k12c1 : Code := { maxStack := 2, maxLocals := 2, code := jdk_67_method_7_code, exceptionTable := #[], attributes := #[] }
def k12m1 : Method := { name := "append", desc := "(Ljava/lang/String;)Ljava/lang/StringBuilder;", sig := { parameters := [(.object "java/lang/String")], returnType := some (.object "java/lang/StringBuilder") }, accessFlags := 1, code := some k12c1 }
def k12c2 : Code := { maxStack := 3, maxLocals := 1, code := jdk_67_method_42_code, exceptionTable := #[], attributes := #[] }
def k12m2 : Method := { name := "toString", desc := "()Ljava/lang/String;", sig := { parameters := [], returnType := some (.object "java/lang/String") }, accessFlags := 1, code := some k12c2 }
def k12c3 : Code := { maxStack := 1, maxLocals := 1, code := jdk_67_method_93_code, exceptionTable := #[], attributes := #[] }
def k12m3 : Method := { name := "length", desc := "()I", sig := { parameters := [], returnType := some .int }, accessFlags := 4161, code := some k12c3 }
/-- java/lang/StringBuilder -/
def k12 : Class := { plain "java/lang/StringBuilder" (some 11) with
  accessFlags := 49
  interfaces := #[10, 2, 3, 4]
  cf := some (fileOf pool12 24 #[] #[{ accessFlags := 1, nameIndex := 5, descriptorIndex := 145, attributes := #[] }, { accessFlags := 1, nameIndex := 27, descriptorIndex := 28, attributes := #[] }, { accessFlags := 1, nameIndex := 399, descriptorIndex := 400, attributes := #[] }, { accessFlags := 4161, nameIndex := 345, descriptorIndex := 156, attributes := #[] }] 49 2 #[349, 351, 353, 355] #[{ accessFlags := 24, nameIndex := 357, descriptorIndex := 358, attributes := #[] }])
  fields := #[{ name := "serialVersionUID", type := .long, accessFlags := 24, slot := 0, constantValue := 0 }]
  methods := #[k12m0, k12m1, k12m2, k12m3]
  instanceTypes := #[(.array .byte), .byte, .boolean, .int]
  staticTypes := #[.long]
  resolved := Array.replicate 422 none
  statics := none }

def pool13 : Array CpInfo := pool [(2, .class_ 4), (1, u "java/lang/Object"), (0, u "<init>"), (0, u "()V"), (1, .class_ 10), (1, u "java/lang/System"), (0, u "allowSecurityManager"), (0, u "I"), (16, u "cons"), (0, u "Ljava/io/Console;"), (77, .class_ 110), (1, u "java/lang/System$CallersHolder"), (43, u "initialErrStream"), (0, u "Ljava/io/PrintStream;"), (19, u "security"), (0, u "Ljava/lang/SecurityManager;"), (31, .class_ 209), (0, u "java/lang/System$1"), (7, u "props"), (0, u "Ljava/util/Properties;"), (2, u "lineSeparator"), (0, u "Ljava/lang/String;"), (96, .class_ 321), (1, u "java/lang/System$LoggerFinder"), (5, .class_ 328), (0, u "java/lang/System$Logger"), (67, u "err"), (2, u "out"), (91, u "notSupportedJnuEncoding"), (15, u "in"), (17, u "initialIn"), (0, u "Ljava/io/InputStream;"), (35, u "bootLayer"), (0, u "Ljava/lang/ModuleLayer;"), (99, .class_ 664), (0, u "java/lang/System$2"), (9, u "NEVER"), (2, u "MAYBE"), (49, u "arraycopy"), (0, u "(Ljava/lang/Object;ILjava/lang/Object;II)V"), (72, .class_ 802), (0, u "java/lang/System$Logger$Level")] 31

def k13m0 : Method := { name := "<init>", desc := "()V", sig := { parameters := [], returnType := none }, accessFlags := 2, code := none }
def k13m1 : Method := { name := "arraycopy", desc := "(Ljava/lang/Object;ILjava/lang/Object;II)V", sig := { parameters := [(.object "java/lang/Object"), .int, (.object "java/lang/Object"), .int, .int], returnType := none }, accessFlags := 265, code := none }
/-- java/lang/System -/
def k13 : Class := { plain "java/lang/System" (some 0) with
  accessFlags := 49
  interfaces := #[]
  cf := some (fileOf pool13 8 #[.nestMembers #[319, 327, 801, 108, 663, 208]] #[{ accessFlags := 2, nameIndex := 5, descriptorIndex := 6, attributes := #[] }, { accessFlags := 265, nameIndex := 727, descriptorIndex := 728, attributes := #[] }] 49 2 #[] #[{ accessFlags := 25, nameIndex := 507, descriptorIndex := 526, attributes := #[] }, { accessFlags := 25, nameIndex := 399, descriptorIndex := 155, attributes := #[] }, { accessFlags := 25, nameIndex := 396, descriptorIndex := 155, attributes := #[] }, { accessFlags := 10, nameIndex := 525, descriptorIndex := 526, attributes := #[] }, { accessFlags := 26, nameIndex := 674, descriptorIndex := 12, attributes := #[] }, { accessFlags := 26, nameIndex := 677, descriptorIndex := 12, attributes := #[] }, { accessFlags := 10, nameIndex := 11, descriptorIndex := 12, attributes := #[] }, { accessFlags := 74, nameIndex := 175, descriptorIndex := 176, attributes := #[] }, { accessFlags := 10, nameIndex := 491, descriptorIndex := 222, attributes := #[] }, { accessFlags := 74, nameIndex := 29, descriptorIndex := 30, attributes := #[] }, { accessFlags := 74, nameIndex := 154, descriptorIndex := 155, attributes := #[] }, { accessFlags := 10, nameIndex := 217, descriptorIndex := 218, attributes := #[] }, { accessFlags := 10, nameIndex := 221, descriptorIndex := 222, attributes := #[] }, { accessFlags := 8, nameIndex := 562, descriptorIndex := 563, attributes := #[] }])
  fields := #[{ name := "in", type := (.object "java/io/InputStream"), accessFlags := 25, slot := 0, constantValue := 0 }, { name := "out", type := (.object "java/io/PrintStream"), accessFlags := 25, slot := 1, constantValue := 0 }, { name := "err", type := (.object "java/io/PrintStream"), accessFlags := 25, slot := 2, constantValue := 0 }, { name := "initialIn", type := (.object "java/io/InputStream"), accessFlags := 10, slot := 3, constantValue := 0 }, { name := "NEVER", type := .int, accessFlags := 26, slot := 4, constantValue := 0 }, { name := "MAYBE", type := .int, accessFlags := 26, slot := 5, constantValue := 0 }, { name := "allowSecurityManager", type := .int, accessFlags := 10, slot := 6, constantValue := 0 }, { name := "security", type := (.object "java/lang/SecurityManager"), accessFlags := 74, slot := 7, constantValue := 0 }, { name := "notSupportedJnuEncoding", type := (.object "java/lang/String"), accessFlags := 10, slot := 8, constantValue := 0 }, { name := "cons", type := (.object "java/io/Console"), accessFlags := 74, slot := 9, constantValue := 0 }, { name := "initialErrStream", type := (.object "java/io/PrintStream"), accessFlags := 74, slot := 10, constantValue := 0 }, { name := "props", type := (.object "java/util/Properties"), accessFlags := 10, slot := 11, constantValue := 0 }, { name := "lineSeparator", type := (.object "java/lang/String"), accessFlags := 10, slot := 12, constantValue := 0 }, { name := "bootLayer", type := (.object "java/lang/ModuleLayer"), accessFlags := 8, slot := 13, constantValue := 0 }]
  methods := #[k13m0, k13m1]
  instanceTypes := #[]
  staticTypes := #[(.object "java/io/InputStream"), (.object "java/io/PrintStream"), (.object "java/io/PrintStream"), (.object "java/io/InputStream"), .int, .int, .int, (.object "java/lang/SecurityManager"), (.object "java/lang/String"), (.object "java/io/Console"), (.object "java/io/PrintStream"), (.object "java/util/Properties"), (.object "java/lang/String"), (.object "java/lang/ModuleLayer")]
  resolved := Array.replicate 834 none
  statics := none }

def pool14 : Array CpInfo := pool [(2, .class_ 4), (1, u "java/lang/Object"), (0, u "<init>"), (0, u "()V"), (7, .class_ 16), (1, u "java/util/Arrays"), (57, .class_ 76), (1, u "java/util/Arrays$NaturalOrder"), (36, .class_ 115), (1, u "java/util/Arrays$LegacyMergeSort"), (1, u "Z"), (21, u "copyOfRange"), (10, .methodref 151 152), (0, .class_ 153), (0, .nameAndType 154 155), (0, u "java/lang/System"), (0, u "arraycopy"), (0, u "(Ljava/lang/Object;ILjava/lang/Object;II)V"), (148, .methodref 305 306), (0, .class_ 307), (0, .nameAndType 308 309), (0, u "java/lang/Math"), (0, u "min"), (0, u "(II)I"), (29, .methodref 14 340), (0, .nameAndType 341 342), (0, u "copyOfRangeByte"), (0, u "([BII)[B"), (0, .methodref 14 344), (0, .nameAndType 345 346), (0, u "checkLength"), (0, u "(II)V"), (28, .class_ 376), (0, u "java/util/Arrays$ArrayList"), (68, u "$assertionsDisabled"), (269, u "MIN_ARRAY_SORT_GRAN"), (0, u "I"), (2, u "INSERTIONSORT_THRESHOLD"), (255, .class_ 976), (0, u "java/util/Arrays$ArrayItr")] 52

def k14m0 : Method := { name := "<init>", desc := "()V", sig := { parameters := [], returnType := none }, accessFlags := 2, code := none }
def k14c1 : Code := { maxStack := 4, maxLocals := 2, code := jdk_65_method_131_code, exceptionTable := #[], attributes := #[] }
def k14m1 : Method := { name := "checkLength", desc := "(II)V", sig := { parameters := [.int, .int], returnType := none }, accessFlags := 10, code := some k14c1 }
def k14c2 : Code := { maxStack := 3, maxLocals := 3, code := jdk_65_method_132_code, exceptionTable := #[], attributes := #[] }
def k14m2 : Method := { name := "copyOfRange", desc := "([BII)[B", sig := { parameters := [(.array .byte), .int, .int], returnType := some (.array .byte) }, accessFlags := 9, code := some k14c2 }
def k14c3 : Code := { maxStack := 6, maxLocals := 5, code := jdk_65_method_133_code, exceptionTable := #[], attributes := #[] }
def k14m3 : Method := { name := "copyOfRangeByte", desc := "([BII)[B", sig := { parameters := [(.array .byte), .int, .int], returnType := some (.array .byte) }, accessFlags := 10, code := some k14c3 }
/-- java/util/Arrays -/
def k14 : Class := { plain "java/util/Arrays" (some 0) with
  accessFlags := 49
  interfaces := #[]
  cf := some (fileOf pool14 14 #[.nestMembers #[975, 375, 113, 74]] #[{ accessFlags := 2, nameIndex := 5, descriptorIndex := 6, attributes := #[] }, { accessFlags := 10, nameIndex := 345, descriptorIndex := 346, attributes := #[] }, { accessFlags := 9, nameIndex := 139, descriptorIndex := 342, attributes := #[] }, { accessFlags := 10, nameIndex := 341, descriptorIndex := 342, attributes := #[] }] 49 2 #[] #[{ accessFlags := 26, nameIndex := 715, descriptorIndex := 716, attributes := #[] }, { accessFlags := 26, nameIndex := 719, descriptorIndex := 716, attributes := #[] }, { accessFlags := 4120, nameIndex := 445, descriptorIndex := 117, attributes := #[] }])
  fields := #[{ name := "MIN_ARRAY_SORT_GRAN", type := .int, accessFlags := 26, slot := 0, constantValue := 0 }, { name := "INSERTIONSORT_THRESHOLD", type := .int, accessFlags := 26, slot := 1, constantValue := 0 }, { name := "$assertionsDisabled", type := .boolean, accessFlags := 4120, slot := 2, constantValue := 0 }]
  methods := #[k14m0, k14m1, k14m2, k14m3]
  instanceTypes := #[]
  staticTypes := #[.int, .int, .boolean]
  resolved := Array.replicate 1029 none
  statics := none }

def pool15 : Array CpInfo := pool [(1, .class_ 2), (0, u "java/lang/Math"), (1, .class_ 6), (1, u "java/lang/Object"), (0, u "<init>"), (0, u "()V"), (89, .class_ 100), (1, u "java/lang/Math$RandomNumberGeneratorHolder"), (71, u "negativeZeroFloatBits"), (0, u "J"), (2, u "negativeZeroDoubleBits"), (24, u "min"), (43, u "$assertionsDisabled"), (0, u "Z"), (88, u "(II)I"), (2, u "twoToTheDoubleScaleDown"), (0, u "D"), (4, u "twoToTheDoubleScaleUp"), (9, u "E"), (3, u "PI"), (2, u "TAU"), (2, u "DEGREES_TO_RADIANS"), (0, u "RADIANS_TO_DEGREES")] 94

def k15m0 : Method := { name := "<init>", desc := "()V", sig := { parameters := [], returnType := none }, accessFlags := 2, code := none }
def k15c1 : Code := { maxStack := 2, maxLocals := 2, code := jdk_29_method_69_code, exceptionTable := #[], attributes := #[] }
def k15m1 : Method := { name := "min", desc := "(II)I", sig := { parameters := [.int, .int], returnType := some .int }, accessFlags := 9, code := some k15c1 }
/-- java/lang/Math -/
def k15 : Class := { plain "java/lang/Math" (some 0) with
  accessFlags := 49
  interfaces := #[]
  cf := some (fileOf pool15 1 #[.nestMembers #[98]] #[{ accessFlags := 2, nameIndex := 7, descriptorIndex := 8, attributes := #[] }, { accessFlags := 9, nameIndex := 201, descriptorIndex := 335, attributes := #[] }] 49 4 #[] #[{ accessFlags := 25, nameIndex := 354, descriptorIndex := 339, attributes := #[] }, { accessFlags := 25, nameIndex := 358, descriptorIndex := 339, attributes := #[] }, { accessFlags := 25, nameIndex := 361, descriptorIndex := 339, attributes := #[] }, { accessFlags := 26, nameIndex := 364, descriptorIndex := 339, attributes := #[] }, { accessFlags := 26, nameIndex := 365, descriptorIndex := 339, attributes := #[] }, { accessFlags := 26, nameIndex := 172, descriptorIndex := 173, attributes := #[] }, { accessFlags := 26, nameIndex := 176, descriptorIndex := 173, attributes := #[] }, { accessFlags := 8, nameIndex := 344, descriptorIndex := 339, attributes := #[] }, { accessFlags := 8, nameIndex := 338, descriptorIndex := 339, attributes := #[] }, { accessFlags := 4120, nameIndex := 245, descriptorIndex := 246, attributes := #[] }])
  fields := #[{ name := "E", type := .double, accessFlags := 25, slot := 0, constantValue := 0 }, { name := "PI", type := .double, accessFlags := 25, slot := 1, constantValue := 0 }, { name := "TAU", type := .double, accessFlags := 25, slot := 2, constantValue := 0 }, { name := "DEGREES_TO_RADIANS", type := .double, accessFlags := 26, slot := 3, constantValue := 0 }, { name := "RADIANS_TO_DEGREES", type := .double, accessFlags := 26, slot := 4, constantValue := 0 }, { name := "negativeZeroFloatBits", type := .long, accessFlags := 26, slot := 5, constantValue := 0 }, { name := "negativeZeroDoubleBits", type := .long, accessFlags := 26, slot := 6, constantValue := 0 }, { name := "twoToTheDoubleScaleUp", type := .double, accessFlags := 8, slot := 7, constantValue := 0 }, { name := "twoToTheDoubleScaleDown", type := .double, accessFlags := 8, slot := 8, constantValue := 0 }, { name := "$assertionsDisabled", type := .boolean, accessFlags := 4120, slot := 9, constantValue := 0 }]
  methods := #[k15m0, k15m1]
  instanceTypes := #[]
  staticTypes := #[.double, .double, .double, .double, .double, .long, .long, .double, .double, .boolean]
  resolved := Array.replicate 460 none
  statics := none }

def pool16 : Array CpInfo := pool [(1, .class_ 2), (0, u "java/lang/String"), (1, .class_ 6), (1, u "java/lang/Object"), (0, u "<init>"), (0, u "()V"), (0, .methodref 1 10), (0, .nameAndType 11 12), (0, u "checkIndex"), (0, u "(II)V"), (1, .class_ 16), (1, u "java/lang/StringLatin1"), (36, u "([BI)C"), (36, u "canEncode"), (14, u "(C)Z"), (15, u "$assertionsDisabled"), (0, u "Z"), (98, .class_ 223), (1, u "java/lang/StringLatin1$LinesSpliterator"), (28, u "charAt"), (127, u "toBytes"), (1, u "(C)[B"), (7, .class_ 391), (0, u "java/lang/StringLatin1$CharsSpliterator")] 3

def k16m0 : Method := { name := "<init>", desc := "()V", sig := { parameters := [], returnType := none }, accessFlags := 0, code := none }
def k16c1 : Code := { maxStack := 2, maxLocals := 2, code := jdk_43_method_2_code, exceptionTable := #[], attributes := #[] }
def k16m1 : Method := { name := "charAt", desc := "([BI)C", sig := { parameters := [(.array .byte), .int], returnType := some .char }, accessFlags := 9, code := some k16c1 }
def k16c2 : Code := { maxStack := 2, maxLocals := 1, code := jdk_43_method_3_code, exceptionTable := #[], attributes := #[] }
def k16m2 : Method := { name := "canEncode", desc := "(C)Z", sig := { parameters := [.char], returnType := some .boolean }, accessFlags := 9, code := some k16c2 }
def k16c3 : Code := { maxStack := 4, maxLocals := 1, code := jdk_43_method_46_code, exceptionTable := #[], attributes := #[] }
def k16m3 : Method := { name := "toBytes", desc := "(C)[B", sig := { parameters := [.char], returnType := some (.array .byte) }, accessFlags := 9, code := some k16c3 }
/-- java/lang/StringLatin1 -/
def k16 : Class := { plain "java/lang/StringLatin1" (some 0) with
  accessFlags := 48
  interfaces := #[]
  cf := some (fileOf pool16 14 #[.nestMembers #[390, 221]] #[{ accessFlags := 0, nameIndex := 7, descriptorIndex := 8, attributes := #[] }, { accessFlags := 9, nameIndex := 252, descriptorIndex := 53, attributes := #[] }, { accessFlags := 9, nameIndex := 90, descriptorIndex := 105, attributes := #[] }, { accessFlags := 9, nameIndex := 380, descriptorIndex := 382, attributes := #[] }] 48 4 #[] #[{ accessFlags := 4120, nameIndex := 121, descriptorIndex := 122, attributes := #[] }])
  fields := #[{ name := "$assertionsDisabled", type := .boolean, accessFlags := 4120, slot := 0, constantValue := 0 }]
  methods := #[k16m0, k16m1, k16m2, k16m3]
  instanceTypes := #[]
  staticTypes := #[.boolean]
  resolved := Array.replicate 395 none
  statics := none }

def pool17 : Array CpInfo := pool [(2, .class_ 4), (1, u "java/lang/Object"), (0, u "<init>"), (0, u "()V"), (17, .class_ 26), (1, u "jdk/internal/util/Preconditions"), (6, u "checkIndex"), (21, .class_ 56), (0, u "jdk/internal/util/Preconditions$4"), (57, .class_ 115), (0, u "jdk/internal/util/Preconditions$1"), (7, u "SIOOBE_FORMATTER"), (0, u "Ljava/util/function/BiFunction;"), (0, .class_ 126), (0, u "jdk/internal/util/Preconditions$2"), (3, u "AIOOBE_FORMATTER"), (0, .class_ 132), (0, u "jdk/internal/util/Preconditions$3"), (3, u "IOOBE_FORMATTER"), (41, u "(IILjava/util/function/BiFunction;)I")] 15

def k17m0 : Method := { name := "<init>", desc := "()V", sig := { parameters := [], returnType := none }, accessFlags := 1, code := none }
def k17c1 : Code := { maxStack := 3, maxLocals := 3, code := jdk_41_method_11_code, exceptionTable := #[], attributes := #[] }
def k17m1 : Method := { name := "checkIndex", desc := "(IILjava/util/function/BiFunction;)I", sig := { parameters := [.int, .int, (.object "java/util/function/BiFunction")], returnType := some .int }, accessFlags := 9, code := some k17c1 }
/-- jdk/internal/util/Preconditions -/
def k17 : Class := { plain "jdk/internal/util/Preconditions" (some 0) with
  accessFlags := 33
  interfaces := #[]
  cf := some (fileOf pool17 24 #[.nestMembers #[55, 131, 125, 114]] #[{ accessFlags := 1, nameIndex := 5, descriptorIndex := 6, attributes := #[] }, { accessFlags := 9, nameIndex := 33, descriptorIndex := 178, attributes := #[] }] 33 2 #[] #[{ accessFlags := 25, nameIndex := 123, descriptorIndex := 124, attributes := #[] }, { accessFlags := 25, nameIndex := 130, descriptorIndex := 124, attributes := #[] }, { accessFlags := 25, nameIndex := 136, descriptorIndex := 124, attributes := #[] }])
  fields := #[{ name := "SIOOBE_FORMATTER", type := (.object "java/util/function/BiFunction"), accessFlags := 25, slot := 0, constantValue := 0 }, { name := "AIOOBE_FORMATTER", type := (.object "java/util/function/BiFunction"), accessFlags := 25, slot := 1, constantValue := 0 }, { name := "IOOBE_FORMATTER", type := (.object "java/util/function/BiFunction"), accessFlags := 25, slot := 2, constantValue := 0 }]
  methods := #[k17m0, k17m1]
  instanceTypes := #[]
  staticTypes := #[(.object "java/util/function/BiFunction"), (.object "java/util/function/BiFunction"), (.object "java/util/function/BiFunction")]
  resolved := Array.replicate 194 none
  statics := some 1 }

def pool18 : Array CpInfo := pool [(9, u "<init>"), (6, .class_ 18), (1, u "java/lang/Object"), (0, u "()V"), (1, .class_ 23), (1, u "jdk/internal/util/ArraysSupport"), (0, u "LOG2_ARRAY_LONG_INDEX_SCALE"), (0, u "I"), (2, u "U"), (0, u "Ljdk/internal/misc/Unsafe;"), (8, u "BIG_ENDIAN"), (0, u "Z"), (8, u "LOG2_BYTE_BIT_SIZE"), (4, u "LOG2_ARRAY_INT_INDEX_SCALE"), (54, u "JLA"), (0, u "Ljdk/internal/access/JavaLangAccess;"), (11, u "LOG2_ARRAY_BOOLEAN_INDEX_SCALE"), (9, u "LOG2_ARRAY_BYTE_INDEX_SCALE"), (5, u "LOG2_ARRAY_CHAR_INDEX_SCALE"), (5, u "LOG2_ARRAY_SHORT_INDEX_SCALE"), (18, u "LOG2_ARRAY_FLOAT_INDEX_SCALE"), (24, u "LOG2_ARRAY_DOUBLE_INDEX_SCALE"), (89, u "T_BOOLEAN"), (2, u "T_CHAR"), (1, u "T_FLOAT"), (1, u "T_DOUBLE"), (1, u "T_BYTE"), (1, u "T_SHORT"), (1, u "T_INT"), (1, u "T_LONG"), (1, u "SOFT_MAX_ARRAY_LENGTH")] 83

def k18m0 : Method := { name := "<init>", desc := "()V", sig := { parameters := [], returnType := none }, accessFlags := 2, code := none }
/-- jdk/internal/util/ArraysSupport -/
def k18 : Class := { plain "jdk/internal/util/ArraysSupport" (some 0) with
  accessFlags := 33
  interfaces := #[]
  cf := some (fileOf pool18 21 #[] #[{ accessFlags := 2, nameIndex := 9, descriptorIndex := 19, attributes := #[] }] 33 16 #[] #[{ accessFlags := 24, nameIndex := 28, descriptorIndex := 29, attributes := #[] }, { accessFlags := 26, nameIndex := 38, descriptorIndex := 39, attributes := #[] }, { accessFlags := 25, nameIndex := 121, descriptorIndex := 25, attributes := #[] }, { accessFlags := 25, nameIndex := 131, descriptorIndex := 25, attributes := #[] }, { accessFlags := 25, nameIndex := 137, descriptorIndex := 25, attributes := #[] }, { accessFlags := 25, nameIndex := 143, descriptorIndex := 25, attributes := #[] }, { accessFlags := 25, nameIndex := 53, descriptorIndex := 25, attributes := #[] }, { accessFlags := 25, nameIndex := 24, descriptorIndex := 25, attributes := #[] }, { accessFlags := 25, nameIndex := 162, descriptorIndex := 25, attributes := #[] }, { accessFlags := 25, nameIndex := 187, descriptorIndex := 25, attributes := #[] }, { accessFlags := 26, nameIndex := 48, descriptorIndex := 25, attributes := #[] }, { accessFlags := 25, nameIndex := 277, descriptorIndex := 25, attributes := #[] }, { accessFlags := 25, nameIndex := 280, descriptorIndex := 25, attributes := #[] }, { accessFlags := 25, nameIndex := 282, descriptorIndex := 25, attributes := #[] }, { accessFlags := 25, nameIndex := 284, descriptorIndex := 25, attributes := #[] }, { accessFlags := 25, nameIndex := 286, descriptorIndex := 25, attributes := #[] }, { accessFlags := 25, nameIndex := 288, descriptorIndex := 25, attributes := #[] }, { accessFlags := 25, nameIndex := 290, descriptorIndex := 25, attributes := #[] }, { accessFlags := 25, nameIndex := 292, descriptorIndex := 25, attributes := #[] }, { accessFlags := 26, nameIndex := 108, descriptorIndex := 109, attributes := #[] }, { accessFlags := 25, nameIndex := 294, descriptorIndex := 25, attributes := #[] }])
  fields := #[{ name := "U", type := (.object "jdk/internal/misc/Unsafe"), accessFlags := 24, slot := 0, constantValue := 0 }, { name := "BIG_ENDIAN", type := .boolean, accessFlags := 26, slot := 1, constantValue := 0 }, { name := "LOG2_ARRAY_BOOLEAN_INDEX_SCALE", type := .int, accessFlags := 25, slot := 2, constantValue := 0 }, { name := "LOG2_ARRAY_BYTE_INDEX_SCALE", type := .int, accessFlags := 25, slot := 3, constantValue := 0 }, { name := "LOG2_ARRAY_CHAR_INDEX_SCALE", type := .int, accessFlags := 25, slot := 4, constantValue := 0 }, { name := "LOG2_ARRAY_SHORT_INDEX_SCALE", type := .int, accessFlags := 25, slot := 5, constantValue := 0 }, { name := "LOG2_ARRAY_INT_INDEX_SCALE", type := .int, accessFlags := 25, slot := 6, constantValue := 0 }, { name := "LOG2_ARRAY_LONG_INDEX_SCALE", type := .int, accessFlags := 25, slot := 7, constantValue := 0 }, { name := "LOG2_ARRAY_FLOAT_INDEX_SCALE", type := .int, accessFlags := 25, slot := 8, constantValue := 0 }, { name := "LOG2_ARRAY_DOUBLE_INDEX_SCALE", type := .int, accessFlags := 25, slot := 9, constantValue := 0 }, { name := "LOG2_BYTE_BIT_SIZE", type := .int, accessFlags := 26, slot := 10, constantValue := 0 }, { name := "T_BOOLEAN", type := .int, accessFlags := 25, slot := 11, constantValue := 0 }, { name := "T_CHAR", type := .int, accessFlags := 25, slot := 12, constantValue := 0 }, { name := "T_FLOAT", type := .int, accessFlags := 25, slot := 13, constantValue := 0 }, { name := "T_DOUBLE", type := .int, accessFlags := 25, slot := 14, constantValue := 0 }, { name := "T_BYTE", type := .int, accessFlags := 25, slot := 15, constantValue := 0 }, { name := "T_SHORT", type := .int, accessFlags := 25, slot := 16, constantValue := 0 }, { name := "T_INT", type := .int, accessFlags := 25, slot := 17, constantValue := 0 }, { name := "T_LONG", type := .int, accessFlags := 25, slot := 18, constantValue := 0 }, { name := "JLA", type := (.object "jdk/internal/access/JavaLangAccess"), accessFlags := 26, slot := 19, constantValue := 0 }, { name := "SOFT_MAX_ARRAY_LENGTH", type := .int, accessFlags := 25, slot := 20, constantValue := 0 }]
  methods := #[k18m0]
  instanceTypes := #[]
  staticTypes := #[(.object "jdk/internal/misc/Unsafe"), .boolean, .int, .int, .int, .int, .int, .int, .int, .int, .int, .int, .int, .int, .int, .int, .int, .int, .int, (.object "jdk/internal/access/JavaLangAccess"), .int]
  resolved := Array.replicate 378 none
  statics := none }

def pool19 : Array CpInfo := pool [(1, u "java/lang/Cloneable"), (0, .class_ 1), (0, u "java/lang/Object"), (0, .class_ 3)] 3

/-- java/lang/Cloneable -/
def k19 : Class := { plain "java/lang/Cloneable" (some 0) with
  accessFlags := 1537
  interfaces := #[]
  cf := some (fileOf pool19 2 #[] #[] 1537 4 #[] #[])
  fields := #[]
  methods := #[]
  instanceTypes := #[]
  staticTypes := #[]
  resolved := Array.replicate 8 none
  statics := none }

/-- the primitive byte -/
def k20 : Class := { plain "byte" none with kind := .primitive 'B', accessFlags := 0x411 }
/-- [B -/
def k21 : Class := { plain "[B" (some 0) with kind := .array 20 .byte, interfaces := #[19, 2], accessFlags := 1041 }

/-- the primitive char -/
def k22 : Class := { plain "char" none with kind := .primitive 'C', accessFlags := 0x411 }
/-- [C -/
def k23 : Class := { plain "[C" (some 0) with kind := .array 22 .char, interfaces := #[19, 2], accessFlags := 1041 }

/-- the primitive int -/
def k24 : Class := { plain "int" none with kind := .primitive 'I', accessFlags := 0x411 }
/-- [I -/
def k25 : Class := { plain "[I" (some 0) with kind := .array 24 .int, interfaces := #[19, 2], accessFlags := 1041 }

def heap : Heap := #[{ cls := 7, slots := #[.long 0, .int 1, .null, .int 0, .null, .int 0, .int 0], vm := .statics 7 },
  { cls := 17, slots := #[.null, .null, .null], vm := .statics 17 }]
def classes : Array Class := #[k0, k1, k2, k3, k4, k5, k6, k7, k8, k9, k10, k11, k12, k13, k14, k15, k16, k17, k18, k19, k20, k21, k22, k23, k24, k25]
def interned : List (Array UInt16 × Addr) := []
def slotsUsed : Nat := 10
def theMethod : MethodId := ⟨1, 3⟩
def args0 : Array Value := #[.int 131137, .int 65602]
def aboutOver (below : List Frame) : State where
  vm := { classes := classes, interned := interned.toArray }
  heap := heap
  slotsUsed := slotsUsed
  threads := #[{ frames := .invoking theMethod args0 :: below }]
def below0 : List Frame := [.native { method := ⟨0, 0⟩, args := #[] }]
def about1 : State := aboutOver below0
def p0 : Program := .bare "" "" ""
def e0 : Env := launch0.env 0 0 0
theorem w_frames : about1.frames = Frame.invoking theMethod args0 :: below0 := rfl
set_option maxRecDepth 65536 in
theorem w_args : argsFit about1.vm theMethod args0 = true := by decide +kernel
set_option maxRecDepth 65536 in
theorem w_heap : heapFits about1 = true := by decide +kernel
set_option maxRecDepth 65536 in
theorem w_runnable : about1.curStatus? = some .runnable := by decide +kernel
set_option maxRecDepth 65536 in
theorem w_alone : about1.alone = true := by decide +kernel
set_option maxRecDepth 65536 in
theorem w_named : about1.methodNamed? x = some theMethod := by decide +kernel
set_option maxRecDepth 65536 in
theorem w_hears : about1.hears theMethod below0 = true := by decide +kernel
set_option maxRecDepth 65536 in
theorem w_ripe : about1.ripe theMethod args0 below0 = true := by decide +kernel
theorem w_running : about1.status = .running := rfl
set_option maxRecDepth 65536 in
theorem w_room : about1.hasRoom e0.platform room_1 = true :=
  launch0.hasRoom_least _ room_1 (by decide +kernel) (by decide +kernel) (by decide +kernel) (by decide +kernel) (by decide +kernel) (by decide +kernel)
theorem allAtoms_all (ts : List Jvm.Cond) (a : Array Jvm.Value) (st : Jvm.State) : (allAtoms ts).before a st = ts.all (fun c => c.before a st) := by
  induction ts with
  | nil => rfl
  | cons c t ih =>
    show (Jvm.Cond.and c (allAtoms t)).before a st = _
    rw [Jvm.Cond.before_and, ih, List.all_cons]
def words1 : List Jvm.Cond := Jvm.Cond.code x code maxLocals ret :: tables_1
/-- a 'code' word, met by the world's own term for the bytes: nothing is compared byte by byte -/
theorem code_word {y : MethodName} {bytes : ByteArray} {mx : Nat} {rt : Option FieldType} {a : Array Value} {s : State} {m : MethodId} {meth : Method} {c : Code} (h1 : s.methodNamed? y = some m) (h2 : s.vm.method? m = some meth) (h3 : meth.code = some c) (h4 : c.code = bytes)
    (h5 : (c.maxLocals == mx && c.exceptionTable.isEmpty && decide (c.maxStack ≤ mostOperands) && decide (meth.sig.returnType = rt) && !meth.locks && decide (parseMethodDescriptor y.desc = some meth.sig)) = true) : (Jvm.Cond.code y bytes mx rt).before a s = true := by
  simp only [Bool.and_eq_true, beq_iff_eq, Bool.not_eq_true', decide_eq_true_eq] at h5
  obtain ⟨⟨⟨⟨⟨g1, g2⟩, g3⟩, g4⟩, g5⟩, g6⟩ := h5
  simp [Cond.before, Cond.holds, Cond.value, h1, h2, h3, h4, g1, g2, g3, g4, g5, g6]
def isCode : Jvm.Cond → Bool
  | .code _ _ _ _ => true
  | _ => false
theorem all_split {L : List Jvm.Cond} {P : Jvm.Cond → Bool} (h1 : L.all (fun c => isCode c || P c) = true) (h2 : ∀ c ∈ L.filter isCode, P c = true) : L.all P = true := by
  refine List.all_eq_true.mpr fun c hc => ?_
  have h := List.all_eq_true.mp h1 c hc
  rcases Bool.eq_false_or_eq_true (isCode c) with hi | hi
  · exact h2 c (List.mem_filter.mpr ⟨hc, hi⟩)
  · simpa [hi] using h
set_option maxRecDepth 65536 in
theorem w_c0 : (Jvm.Cond.code x code maxLocals ret).before args0 about1 = true := code_word (m := ⟨1, 3⟩) (meth := k1m3) (c := k1c3) (by decide +kernel) rfl rfl rfl (by decide +kernel)
set_option maxRecDepth 65536 in
theorem w_c1 : (Jvm.Cond.code ({ cls := "com/example/syndex/syndex/SectionKeyPathPinLaw", name := "mk", desc := "(ICC)Ljava/lang/String;" } : Jvm.MethodName) method_2_code (3 : Nat) (Option.some (Jvm.ClassFile.FieldType.object "java/lang/String"))).before args0 about1 = true := code_word (m := ⟨1, 1⟩) (meth := k1m1) (c := k1c1) (by decide +kernel) rfl rfl rfl (by decide +kernel)
set_option maxRecDepth 65536 in
theorem w_c2 : (Jvm.Cond.code ({ cls := "java/lang/String", name := "<init>", desc := "([C)V" } : Jvm.MethodName) jdk_42_method_3_code (2 : Nat) (Option.none : Option Jvm.ClassFile.FieldType)).before args0 about1 = true := code_word (m := ⟨7, 1⟩) (meth := k7m1) (c := k7c1) (by decide +kernel) rfl rfl rfl (by decide +kernel)
set_option maxRecDepth 65536 in
theorem w_c3 : (Jvm.Cond.code ({ cls := "java/lang/String", name := "<init>", desc := "([CIILjava/lang/Void;)V" } : Jvm.MethodName) jdk_42_method_149_code (6 : Nat) (Option.none : Option Jvm.ClassFile.FieldType)).before args0 about1 = true := code_word (m := ⟨7, 9⟩) (meth := k7m9) (c := k7c9) (by decide +kernel) rfl rfl rfl (by decide +kernel)
set_option maxRecDepth 65536 in
theorem w_c4 : (Jvm.Cond.code ({ cls := "java/lang/Object", name := "<init>", desc := "()V" } : Jvm.MethodName) object_method_1_code (1 : Nat) (Option.none : Option Jvm.ClassFile.FieldType)).before args0 about1 = true := code_word (m := ⟨0, 0⟩) (meth := k0m0) (c := k0c0) (by decide +kernel) rfl rfl rfl (by decide +kernel)
set_option maxRecDepth 65536 in
theorem w_c5 : (Jvm.Cond.code ({ cls := "com/example/syndex/syndex/Section", name := "keyPath", desc := "(Ljava/lang/String;Ljava/lang/String;)Ljava/lang/String;" } : Jvm.MethodName) prog_68_method_2_code (2 : Nat) (Option.some (Jvm.ClassFile.FieldType.object "java/lang/String"))).before args0 about1 = true := code_word (m := ⟨8, 0⟩) (meth := k8m0) (c := k8c0) (by decide +kernel) rfl rfl rfl (by decide +kernel)
set_option maxRecDepth 65536 in
theorem w_c6 : (Jvm.Cond.code ({ cls := "java/lang/String", name := "isEmpty", desc := "()Z" } : Jvm.MethodName) jdk_42_method_55_code (1 : Nat) (Option.some Jvm.ClassFile.FieldType.boolean)).before args0 about1 = true := code_word (m := ⟨7, 4⟩) (meth := k7m4) (c := k7c4) (by decide +kernel) rfl rfl rfl (by decide +kernel)
set_option maxRecDepth 65536 in
theorem w_c7 : (Jvm.Cond.code ({ cls := "java/lang/String", name := "length", desc := "()I" } : Jvm.MethodName) jdk_42_method_54_code (1 : Nat) (Option.some Jvm.ClassFile.FieldType.int)).before args0 about1 = true := code_word (m := ⟨7, 3⟩) (meth := k7m3) (c := k7c3) (by decide +kernel) rfl rfl rfl (by decide +kernel)
set_option maxRecDepth 65536 in
theorem w_c8 : (Jvm.Cond.code ({ cls := "java/lang/String", name := "coder", desc := "()B" } : Jvm.MethodName) jdk_42_method_152_code (1 : Nat) (Option.some Jvm.ClassFile.FieldType.byte)).before args0 about1 = true := code_word (m := ⟨7, 12⟩) (meth := k7m12) (c := k7c12) (by decide +kernel) rfl rfl rfl (by decide +kernel)
set_option maxRecDepth 65536 in
theorem w_c9 : (Jvm.Cond.code ({ cls := "java/lang/String", name := "equals", desc := "(Ljava/lang/Object;)Z" } : Jvm.MethodName) jdk_42_method_66_code (3 : Nat) (Option.some Jvm.ClassFile.FieldType.boolean)).before args0 about1 = true := code_word (m := ⟨7, 6⟩) (meth := k7m6) (c := k7c6) (by decide +kernel) rfl rfl rfl (by decide +kernel)
set_option maxRecDepth 65536 in
theorem w_c10 : (Jvm.Cond.code ({ cls := "java/lang/StringUTF16", name := "compress", desc := "([CII)[B" } : Jvm.MethodName) jdk_52_method_16_code (6 : Nat) (Option.some (Jvm.ClassFile.FieldType.array Jvm.ClassFile.FieldType.byte))).before args0 about1 = true := code_word (m := ⟨9, 2⟩) (meth := k9m2) (c := k9c2) (by decide +kernel) rfl rfl rfl (by decide +kernel)
set_option maxRecDepth 65536 in
theorem w_c11 : (Jvm.Cond.code ({ cls := "java/lang/StringUTF16", name := "compress", desc := "([CI[BII)I" } : Jvm.MethodName) jdk_52_method_21_code (7 : Nat) (Option.some Jvm.ClassFile.FieldType.int)).before args0 about1 = true := code_word (m := ⟨9, 3⟩) (meth := k9m3) (c := k9c3) (by decide +kernel) rfl rfl rfl (by decide +kernel)
set_option maxRecDepth 65536 in
theorem w_c12 : (Jvm.Cond.code ({ cls := "java/lang/StringUTF16", name := "coderFromArrayLen", desc := "([BI)B" } : Jvm.MethodName) jdk_52_method_15_code (2 : Nat) (Option.some Jvm.ClassFile.FieldType.byte)).before args0 about1 = true := code_word (m := ⟨9, 1⟩) (meth := k9m1) (c := k9c1) (by decide +kernel) rfl rfl rfl (by decide +kernel)
set_option maxRecDepth 65536 in
theorem w_c13 : (Jvm.Cond.code ({ cls := "java/lang/StringBuilder", name := "<init>", desc := "()V" } : Jvm.MethodName) jdk_67_method_1_code (1 : Nat) (Option.none : Option Jvm.ClassFile.FieldType)).before args0 about1 = true := code_word (m := ⟨12, 0⟩) (meth := k12m0) (c := k12c0) (by decide +kernel) rfl rfl rfl (by decide +kernel)
set_option maxRecDepth 65536 in
theorem w_c14 : (Jvm.Cond.code ({ cls := "java/lang/AbstractStringBuilder", name := "<init>", desc := "(I)V" } : Jvm.MethodName) jdk_68_method_2_code (2 : Nat) (Option.none : Option Jvm.ClassFile.FieldType)).before args0 about1 = true := code_word (m := ⟨11, 1⟩) (meth := k11m1) (c := k11c1) (by decide +kernel) rfl rfl rfl (by decide +kernel)
set_option maxRecDepth 65536 in
theorem w_c15 : (Jvm.Cond.code ({ cls := "java/lang/StringBuilder", name := "append", desc := "(Ljava/lang/String;)Ljava/lang/StringBuilder;" } : Jvm.MethodName) jdk_67_method_7_code (2 : Nat) (Option.some (Jvm.ClassFile.FieldType.object "java/lang/StringBuilder"))).before args0 about1 = true := code_word (m := ⟨12, 1⟩) (meth := k12m1) (c := k12c1) (by decide +kernel) rfl rfl rfl (by decide +kernel)
set_option maxRecDepth 65536 in
theorem w_c16 : (Jvm.Cond.code ({ cls := "java/lang/AbstractStringBuilder", name := "append", desc := "(Ljava/lang/String;)Ljava/lang/AbstractStringBuilder;" } : Jvm.MethodName) jdk_68_method_22_code (3 : Nat) (Option.some (Jvm.ClassFile.FieldType.object "java/lang/AbstractStringBuilder"))).before args0 about1 = true := code_word (m := ⟨11, 4⟩) (meth := k11m4) (c := k11c4) (by decide +kernel) rfl rfl rfl (by decide +kernel)
set_option maxRecDepth 65536 in
theorem w_c17 : (Jvm.Cond.code ({ cls := "java/lang/AbstractStringBuilder", name := "ensureCapacityInternal", desc := "(I)V" } : Jvm.MethodName) jdk_68_method_9_code (3 : Nat) (Option.none : Option Jvm.ClassFile.FieldType)).before args0 about1 = true := code_word (m := ⟨11, 3⟩) (meth := k11m3) (c := k11c3) (by decide +kernel) rfl rfl rfl (by decide +kernel)
set_option maxRecDepth 65536 in
theorem w_c18 : (Jvm.Cond.code ({ cls := "java/lang/AbstractStringBuilder", name := "putStringAt", desc := "(ILjava/lang/String;)V" } : Jvm.MethodName) jdk_68_method_73_code (3 : Nat) (Option.none : Option Jvm.ClassFile.FieldType)).before args0 about1 = true := code_word (m := ⟨11, 8⟩) (meth := k11m8) (c := k11c8) (by decide +kernel) rfl rfl rfl (by decide +kernel)
set_option maxRecDepth 65536 in
theorem w_c19 : (Jvm.Cond.code ({ cls := "java/lang/AbstractStringBuilder", name := "inflateIfNeededFor", desc := "(Ljava/lang/String;)V" } : Jvm.MethodName) jdk_68_method_71_code (2 : Nat) (Option.none : Option Jvm.ClassFile.FieldType)).before args0 about1 = true := code_word (m := ⟨11, 7⟩) (meth := k11m7) (c := k11c7) (by decide +kernel) rfl rfl rfl (by decide +kernel)
set_option maxRecDepth 65536 in
theorem w_c20 : (Jvm.Cond.code ({ cls := "java/lang/String", name := "getBytes", desc := "([BIB)V" } : Jvm.MethodName) jdk_42_method_147_code (4 : Nat) (Option.none : Option Jvm.ClassFile.FieldType)).before args0 about1 = true := code_word (m := ⟨7, 8⟩) (meth := k7m8) (c := k7c8) (by decide +kernel) rfl rfl rfl (by decide +kernel)
set_option maxRecDepth 65536 in
theorem w_c21 : (Jvm.Cond.code ({ cls := "java/lang/StringBuilder", name := "toString", desc := "()Ljava/lang/String;" } : Jvm.MethodName) jdk_67_method_42_code (1 : Nat) (Option.some (Jvm.ClassFile.FieldType.object "java/lang/String"))).before args0 about1 = true := code_word (m := ⟨12, 2⟩) (meth := k12m2) (c := k12c2) (by decide +kernel) rfl rfl rfl (by decide +kernel)
set_option maxRecDepth 65536 in
theorem w_c22 : (Jvm.Cond.code ({ cls := "java/lang/String", name := "<init>", desc := "(Ljava/lang/StringBuilder;)V" } : Jvm.MethodName) jdk_42_method_53_code (2 : Nat) (Option.none : Option Jvm.ClassFile.FieldType)).before args0 about1 = true := code_word (m := ⟨7, 2⟩) (meth := k7m2) (c := k7c2) (by decide +kernel) rfl rfl rfl (by decide +kernel)
set_option maxRecDepth 65536 in
theorem w_c23 : (Jvm.Cond.code ({ cls := "java/lang/String", name := "<init>", desc := "(Ljava/lang/AbstractStringBuilder;Ljava/lang/Void;)V" } : Jvm.MethodName) jdk_42_method_150_code (5 : Nat) (Option.none : Option Jvm.ClassFile.FieldType)).before args0 about1 = true := code_word (m := ⟨7, 10⟩) (meth := k7m10) (c := k7c10) (by decide +kernel) rfl rfl rfl (by decide +kernel)
set_option maxRecDepth 65536 in
theorem w_c24 : (Jvm.Cond.code ({ cls := "java/lang/AbstractStringBuilder", name := "getValue", desc := "()[B" } : Jvm.MethodName) jdk_68_method_64_code (1 : Nat) (Option.some (Jvm.ClassFile.FieldType.array Jvm.ClassFile.FieldType.byte))).before args0 about1 = true := code_word (m := ⟨11, 5⟩) (meth := k11m5) (c := k11c5) (by decide +kernel) rfl rfl rfl (by decide +kernel)
set_option maxRecDepth 65536 in
theorem w_c25 : (Jvm.Cond.code ({ cls := "java/lang/StringBuilder", name := "length", desc := "()I" } : Jvm.MethodName) jdk_67_method_93_code (1 : Nat) (Option.some Jvm.ClassFile.FieldType.int)).before args0 about1 = true := code_word (m := ⟨12, 3⟩) (meth := k12m3) (c := k12c3) (by decide +kernel) rfl rfl rfl (by decide +kernel)
set_option maxRecDepth 65536 in
theorem w_c26 : (Jvm.Cond.code ({ cls := "java/lang/AbstractStringBuilder", name := "length", desc := "()I" } : Jvm.MethodName) jdk_68_method_6_code (1 : Nat) (Option.some Jvm.ClassFile.FieldType.int)).before args0 about1 = true := code_word (m := ⟨11, 2⟩) (meth := k11m2) (c := k11c2) (by decide +kernel) rfl rfl rfl (by decide +kernel)
set_option maxRecDepth 65536 in
theorem w_c27 : (Jvm.Cond.code ({ cls := "java/lang/AbstractStringBuilder", name := "isLatin1", desc := "()Z" } : Jvm.MethodName) jdk_68_method_68_code (1 : Nat) (Option.some Jvm.ClassFile.FieldType.boolean)).before args0 about1 = true := code_word (m := ⟨11, 6⟩) (meth := k11m6) (c := k11c6) (by decide +kernel) rfl rfl rfl (by decide +kernel)
set_option maxRecDepth 65536 in
theorem w_c28 : (Jvm.Cond.code ({ cls := "java/util/Arrays", name := "copyOfRange", desc := "([BII)[B" } : Jvm.MethodName) jdk_65_method_132_code (3 : Nat) (Option.some (Jvm.ClassFile.FieldType.array Jvm.ClassFile.FieldType.byte))).before args0 about1 = true := code_word (m := ⟨14, 2⟩) (meth := k14m2) (c := k14c2) (by decide +kernel) rfl rfl rfl (by decide +kernel)
set_option maxRecDepth 65536 in
theorem w_c29 : (Jvm.Cond.code ({ cls := "java/util/Arrays", name := "copyOfRangeByte", desc := "([BII)[B" } : Jvm.MethodName) jdk_65_method_133_code (5 : Nat) (Option.some (Jvm.ClassFile.FieldType.array Jvm.ClassFile.FieldType.byte))).before args0 about1 = true := code_word (m := ⟨14, 3⟩) (meth := k14m3) (c := k14c3) (by decide +kernel) rfl rfl rfl (by decide +kernel)
set_option maxRecDepth 65536 in
theorem w_c30 : (Jvm.Cond.code ({ cls := "java/util/Arrays", name := "checkLength", desc := "(II)V" } : Jvm.MethodName) jdk_65_method_131_code (2 : Nat) (Option.none : Option Jvm.ClassFile.FieldType)).before args0 about1 = true := code_word (m := ⟨14, 1⟩) (meth := k14m1) (c := k14c1) (by decide +kernel) rfl rfl rfl (by decide +kernel)
set_option maxRecDepth 65536 in
theorem w_c31 : (Jvm.Cond.code ({ cls := "java/lang/Math", name := "min", desc := "(II)I" } : Jvm.MethodName) jdk_29_method_69_code (2 : Nat) (Option.some Jvm.ClassFile.FieldType.int)).before args0 about1 = true := code_word (m := ⟨15, 1⟩) (meth := k15m1) (c := k15c1) (by decide +kernel) rfl rfl rfl (by decide +kernel)
set_option maxRecDepth 65536 in
theorem w_c32 : (Jvm.Cond.code ({ cls := "java/lang/String", name := "charAt", desc := "(I)C" } : Jvm.MethodName) jdk_42_method_56_code (2 : Nat) (Option.some Jvm.ClassFile.FieldType.char)).before args0 about1 = true := code_word (m := ⟨7, 5⟩) (meth := k7m5) (c := k7c5) (by decide +kernel) rfl rfl rfl (by decide +kernel)
set_option maxRecDepth 65536 in
theorem w_c33 : (Jvm.Cond.code ({ cls := "java/lang/String", name := "isLatin1", desc := "()Z" } : Jvm.MethodName) jdk_42_method_154_code (1 : Nat) (Option.some Jvm.ClassFile.FieldType.boolean)).before args0 about1 = true := code_word (m := ⟨7, 13⟩) (meth := k7m13) (c := k7c13) (by decide +kernel) rfl rfl rfl (by decide +kernel)
set_option maxRecDepth 65536 in
theorem w_c34 : (Jvm.Cond.code ({ cls := "java/lang/StringLatin1", name := "charAt", desc := "([BI)C" } : Jvm.MethodName) jdk_43_method_2_code (2 : Nat) (Option.some Jvm.ClassFile.FieldType.char)).before args0 about1 = true := code_word (m := ⟨16, 1⟩) (meth := k16m1) (c := k16c1) (by decide +kernel) rfl rfl rfl (by decide +kernel)
set_option maxRecDepth 65536 in
theorem w_c35 : (Jvm.Cond.code ({ cls := "java/lang/String", name := "checkIndex", desc := "(II)V" } : Jvm.MethodName) jdk_42_method_155_code (2 : Nat) (Option.none : Option Jvm.ClassFile.FieldType)).before args0 about1 = true := code_word (m := ⟨7, 14⟩) (meth := k7m14) (c := k7c14) (by decide +kernel) rfl rfl rfl (by decide +kernel)
set_option maxRecDepth 65536 in
theorem w_c36 : (Jvm.Cond.code ({ cls := "jdk/internal/util/Preconditions", name := "checkIndex", desc := "(IILjava/util/function/BiFunction;)I" } : Jvm.MethodName) jdk_41_method_11_code (3 : Nat) (Option.some Jvm.ClassFile.FieldType.int)).before args0 about1 = true := code_word (m := ⟨17, 1⟩) (meth := k17m1) (c := k17c1) (by decide +kernel) rfl rfl rfl (by decide +kernel)
set_option maxRecDepth 65536 in
theorem w_c37 : (Jvm.Cond.code ({ cls := "com/example/syndex/syndex/SectionKeyPathPinLaw", name := "exp", desc := "(IICCCC)C" } : Jvm.MethodName) method_3_code (7 : Nat) (Option.some Jvm.ClassFile.FieldType.char)).before args0 about1 = true := code_word (m := ⟨1, 2⟩) (meth := k1m2) (c := k1c2) (by decide +kernel) rfl rfl rfl (by decide +kernel)
set_option maxRecDepth 65536 in
theorem w_c38 : (Jvm.Cond.code ({ cls := "java/lang/String", name := "valueOf", desc := "(C)Ljava/lang/String;" } : Jvm.MethodName) jdk_42_method_139_code (1 : Nat) (Option.some (Jvm.ClassFile.FieldType.object "java/lang/String"))).before args0 about1 = true := code_word (m := ⟨7, 7⟩) (meth := k7m7) (c := k7c7) (by decide +kernel) rfl rfl rfl (by decide +kernel)
set_option maxRecDepth 65536 in
theorem w_c39 : (Jvm.Cond.code ({ cls := "java/lang/StringLatin1", name := "canEncode", desc := "(C)Z" } : Jvm.MethodName) jdk_43_method_3_code (1 : Nat) (Option.some Jvm.ClassFile.FieldType.boolean)).before args0 about1 = true := code_word (m := ⟨16, 2⟩) (meth := k16m2) (c := k16c2) (by decide +kernel) rfl rfl rfl (by decide +kernel)
set_option maxRecDepth 65536 in
theorem w_c40 : (Jvm.Cond.code ({ cls := "java/lang/StringLatin1", name := "toBytes", desc := "(C)[B" } : Jvm.MethodName) jdk_43_method_46_code (1 : Nat) (Option.some (Jvm.ClassFile.FieldType.array Jvm.ClassFile.FieldType.byte))).before args0 about1 = true := code_word (m := ⟨16, 3⟩) (meth := k16m3) (c := k16c3) (by decide +kernel) rfl rfl rfl (by decide +kernel)
set_option maxRecDepth 65536 in
theorem w_c41 : (Jvm.Cond.code ({ cls := "java/lang/String", name := "<init>", desc := "([BB)V" } : Jvm.MethodName) jdk_42_method_151_code (3 : Nat) (Option.none : Option Jvm.ClassFile.FieldType)).before args0 about1 = true := code_word (m := ⟨7, 11⟩) (meth := k7m11) (c := k7c11) (by decide +kernel) rfl rfl rfl (by decide +kernel)
def codes1 : List Jvm.Cond := [Jvm.Cond.code x code maxLocals ret, Jvm.Cond.code ({ cls := "com/example/syndex/syndex/SectionKeyPathPinLaw", name := "mk", desc := "(ICC)Ljava/lang/String;" } : Jvm.MethodName) method_2_code (3 : Nat) (Option.some (Jvm.ClassFile.FieldType.object "java/lang/String")), Jvm.Cond.code ({ cls := "java/lang/String", name := "<init>", desc := "([C)V" } : Jvm.MethodName) jdk_42_method_3_code (2 : Nat) (Option.none : Option Jvm.ClassFile.FieldType), Jvm.Cond.code ({ cls := "java/lang/String", name := "<init>", desc := "([CIILjava/lang/Void;)V" } : Jvm.MethodName) jdk_42_method_149_code (6 : Nat) (Option.none : Option Jvm.ClassFile.FieldType), Jvm.Cond.code ({ cls := "java/lang/Object", name := "<init>", desc := "()V" } : Jvm.MethodName) object_method_1_code (1 : Nat) (Option.none : Option Jvm.ClassFile.FieldType), Jvm.Cond.code ({ cls := "com/example/syndex/syndex/Section", name := "keyPath", desc := "(Ljava/lang/String;Ljava/lang/String;)Ljava/lang/String;" } : Jvm.MethodName) prog_68_method_2_code (2 : Nat) (Option.some (Jvm.ClassFile.FieldType.object "java/lang/String")), Jvm.Cond.code ({ cls := "java/lang/String", name := "isEmpty", desc := "()Z" } : Jvm.MethodName) jdk_42_method_55_code (1 : Nat) (Option.some Jvm.ClassFile.FieldType.boolean), Jvm.Cond.code ({ cls := "java/lang/String", name := "length", desc := "()I" } : Jvm.MethodName) jdk_42_method_54_code (1 : Nat) (Option.some Jvm.ClassFile.FieldType.int), Jvm.Cond.code ({ cls := "java/lang/String", name := "coder", desc := "()B" } : Jvm.MethodName) jdk_42_method_152_code (1 : Nat) (Option.some Jvm.ClassFile.FieldType.byte), Jvm.Cond.code ({ cls := "java/lang/String", name := "equals", desc := "(Ljava/lang/Object;)Z" } : Jvm.MethodName) jdk_42_method_66_code (3 : Nat) (Option.some Jvm.ClassFile.FieldType.boolean), Jvm.Cond.code ({ cls := "java/lang/StringUTF16", name := "compress", desc := "([CII)[B" } : Jvm.MethodName) jdk_52_method_16_code (6 : Nat) (Option.some (Jvm.ClassFile.FieldType.array Jvm.ClassFile.FieldType.byte)), Jvm.Cond.code ({ cls := "java/lang/StringUTF16", name := "compress", desc := "([CI[BII)I" } : Jvm.MethodName) jdk_52_method_21_code (7 : Nat) (Option.some Jvm.ClassFile.FieldType.int), Jvm.Cond.code ({ cls := "java/lang/StringUTF16", name := "coderFromArrayLen", desc := "([BI)B" } : Jvm.MethodName) jdk_52_method_15_code (2 : Nat) (Option.some Jvm.ClassFile.FieldType.byte), Jvm.Cond.code ({ cls := "java/lang/StringBuilder", name := "<init>", desc := "()V" } : Jvm.MethodName) jdk_67_method_1_code (1 : Nat) (Option.none : Option Jvm.ClassFile.FieldType), Jvm.Cond.code ({ cls := "java/lang/AbstractStringBuilder", name := "<init>", desc := "(I)V" } : Jvm.MethodName) jdk_68_method_2_code (2 : Nat) (Option.none : Option Jvm.ClassFile.FieldType), Jvm.Cond.code ({ cls := "java/lang/StringBuilder", name := "append", desc := "(Ljava/lang/String;)Ljava/lang/StringBuilder;" } : Jvm.MethodName) jdk_67_method_7_code (2 : Nat) (Option.some (Jvm.ClassFile.FieldType.object "java/lang/StringBuilder")), Jvm.Cond.code ({ cls := "java/lang/AbstractStringBuilder", name := "append", desc := "(Ljava/lang/String;)Ljava/lang/AbstractStringBuilder;" } : Jvm.MethodName) jdk_68_method_22_code (3 : Nat) (Option.some (Jvm.ClassFile.FieldType.object "java/lang/AbstractStringBuilder")), Jvm.Cond.code ({ cls := "java/lang/AbstractStringBuilder", name := "ensureCapacityInternal", desc := "(I)V" } : Jvm.MethodName) jdk_68_method_9_code (3 : Nat) (Option.none : Option Jvm.ClassFile.FieldType), Jvm.Cond.code ({ cls := "java/lang/AbstractStringBuilder", name := "putStringAt", desc := "(ILjava/lang/String;)V" } : Jvm.MethodName) jdk_68_method_73_code (3 : Nat) (Option.none : Option Jvm.ClassFile.FieldType), Jvm.Cond.code ({ cls := "java/lang/AbstractStringBuilder", name := "inflateIfNeededFor", desc := "(Ljava/lang/String;)V" } : Jvm.MethodName) jdk_68_method_71_code (2 : Nat) (Option.none : Option Jvm.ClassFile.FieldType), Jvm.Cond.code ({ cls := "java/lang/String", name := "getBytes", desc := "([BIB)V" } : Jvm.MethodName) jdk_42_method_147_code (4 : Nat) (Option.none : Option Jvm.ClassFile.FieldType), Jvm.Cond.code ({ cls := "java/lang/StringBuilder", name := "toString", desc := "()Ljava/lang/String;" } : Jvm.MethodName) jdk_67_method_42_code (1 : Nat) (Option.some (Jvm.ClassFile.FieldType.object "java/lang/String")), Jvm.Cond.code ({ cls := "java/lang/String", name := "<init>", desc := "(Ljava/lang/StringBuilder;)V" } : Jvm.MethodName) jdk_42_method_53_code (2 : Nat) (Option.none : Option Jvm.ClassFile.FieldType), Jvm.Cond.code ({ cls := "java/lang/String", name := "<init>", desc := "(Ljava/lang/AbstractStringBuilder;Ljava/lang/Void;)V" } : Jvm.MethodName) jdk_42_method_150_code (5 : Nat) (Option.none : Option Jvm.ClassFile.FieldType), Jvm.Cond.code ({ cls := "java/lang/AbstractStringBuilder", name := "getValue", desc := "()[B" } : Jvm.MethodName) jdk_68_method_64_code (1 : Nat) (Option.some (Jvm.ClassFile.FieldType.array Jvm.ClassFile.FieldType.byte)), Jvm.Cond.code ({ cls := "java/lang/StringBuilder", name := "length", desc := "()I" } : Jvm.MethodName) jdk_67_method_93_code (1 : Nat) (Option.some Jvm.ClassFile.FieldType.int), Jvm.Cond.code ({ cls := "java/lang/AbstractStringBuilder", name := "length", desc := "()I" } : Jvm.MethodName) jdk_68_method_6_code (1 : Nat) (Option.some Jvm.ClassFile.FieldType.int), Jvm.Cond.code ({ cls := "java/lang/AbstractStringBuilder", name := "isLatin1", desc := "()Z" } : Jvm.MethodName) jdk_68_method_68_code (1 : Nat) (Option.some Jvm.ClassFile.FieldType.boolean), Jvm.Cond.code ({ cls := "java/util/Arrays", name := "copyOfRange", desc := "([BII)[B" } : Jvm.MethodName) jdk_65_method_132_code (3 : Nat) (Option.some (Jvm.ClassFile.FieldType.array Jvm.ClassFile.FieldType.byte)), Jvm.Cond.code ({ cls := "java/util/Arrays", name := "copyOfRangeByte", desc := "([BII)[B" } : Jvm.MethodName) jdk_65_method_133_code (5 : Nat) (Option.some (Jvm.ClassFile.FieldType.array Jvm.ClassFile.FieldType.byte)), Jvm.Cond.code ({ cls := "java/util/Arrays", name := "checkLength", desc := "(II)V" } : Jvm.MethodName) jdk_65_method_131_code (2 : Nat) (Option.none : Option Jvm.ClassFile.FieldType), Jvm.Cond.code ({ cls := "java/lang/Math", name := "min", desc := "(II)I" } : Jvm.MethodName) jdk_29_method_69_code (2 : Nat) (Option.some Jvm.ClassFile.FieldType.int), Jvm.Cond.code ({ cls := "java/lang/String", name := "charAt", desc := "(I)C" } : Jvm.MethodName) jdk_42_method_56_code (2 : Nat) (Option.some Jvm.ClassFile.FieldType.char), Jvm.Cond.code ({ cls := "java/lang/String", name := "isLatin1", desc := "()Z" } : Jvm.MethodName) jdk_42_method_154_code (1 : Nat) (Option.some Jvm.ClassFile.FieldType.boolean), Jvm.Cond.code ({ cls := "java/lang/StringLatin1", name := "charAt", desc := "([BI)C" } : Jvm.MethodName) jdk_43_method_2_code (2 : Nat) (Option.some Jvm.ClassFile.FieldType.char), Jvm.Cond.code ({ cls := "java/lang/String", name := "checkIndex", desc := "(II)V" } : Jvm.MethodName) jdk_42_method_155_code (2 : Nat) (Option.none : Option Jvm.ClassFile.FieldType), Jvm.Cond.code ({ cls := "jdk/internal/util/Preconditions", name := "checkIndex", desc := "(IILjava/util/function/BiFunction;)I" } : Jvm.MethodName) jdk_41_method_11_code (3 : Nat) (Option.some Jvm.ClassFile.FieldType.int), Jvm.Cond.code ({ cls := "com/example/syndex/syndex/SectionKeyPathPinLaw", name := "exp", desc := "(IICCCC)C" } : Jvm.MethodName) method_3_code (7 : Nat) (Option.some Jvm.ClassFile.FieldType.char), Jvm.Cond.code ({ cls := "java/lang/String", name := "valueOf", desc := "(C)Ljava/lang/String;" } : Jvm.MethodName) jdk_42_method_139_code (1 : Nat) (Option.some (Jvm.ClassFile.FieldType.object "java/lang/String")), Jvm.Cond.code ({ cls := "java/lang/StringLatin1", name := "canEncode", desc := "(C)Z" } : Jvm.MethodName) jdk_43_method_3_code (1 : Nat) (Option.some Jvm.ClassFile.FieldType.boolean), Jvm.Cond.code ({ cls := "java/lang/StringLatin1", name := "toBytes", desc := "(C)[B" } : Jvm.MethodName) jdk_43_method_46_code (1 : Nat) (Option.some (Jvm.ClassFile.FieldType.array Jvm.ClassFile.FieldType.byte)), Jvm.Cond.code ({ cls := "java/lang/String", name := "<init>", desc := "([BB)V" } : Jvm.MethodName) jdk_42_method_151_code (3 : Nat) (Option.none : Option Jvm.ClassFile.FieldType)]
set_option maxRecDepth 65536 in
theorem codes_eq : words1.filter isCode = codes1 := rfl
theorem w_codes : ∀ c ∈ words1.filter isCode, c.before args0 about1 = true := by
  rw [codes_eq]
  intro c hc
  simp only [codes1, List.mem_cons, List.not_mem_nil, or_false] at hc
  rcases hc with rfl | rfl | rfl | rfl | rfl | rfl | rfl | rfl | rfl | rfl | rfl | rfl | rfl | rfl | rfl | rfl | rfl | rfl | rfl | rfl | rfl | rfl | rfl | rfl | rfl | rfl | rfl | rfl | rfl | rfl | rfl | rfl | rfl | rfl | rfl | rfl | rfl | rfl | rfl | rfl | rfl | rfl
  · exact w_c0
  · exact w_c1
  · exact w_c2
  · exact w_c3
  · exact w_c4
  · exact w_c5
  · exact w_c6
  · exact w_c7
  · exact w_c8
  · exact w_c9
  · exact w_c10
  · exact w_c11
  · exact w_c12
  · exact w_c13
  · exact w_c14
  · exact w_c15
  · exact w_c16
  · exact w_c17
  · exact w_c18
  · exact w_c19
  · exact w_c20
  · exact w_c21
  · exact w_c22
  · exact w_c23
  · exact w_c24
  · exact w_c25
  · exact w_c26
  · exact w_c27
  · exact w_c28
  · exact w_c29
  · exact w_c30
  · exact w_c31
  · exact w_c32
  · exact w_c33
  · exact w_c34
  · exact w_c35
  · exact w_c36
  · exact w_c37
  · exact w_c38
  · exact w_c39
  · exact w_c40
  · exact w_c41
set_option maxRecDepth 65536 in
theorem w_t1 : (words1.take 24).all (fun c => isCode c || c.before args0 about1) = true := by decide +kernel
set_option maxRecDepth 65536 in
theorem w_t2 : ((words1.drop 24).take 24).all (fun c => isCode c || c.before args0 about1) = true := by decide +kernel
set_option maxRecDepth 65536 in
theorem w_t3 : (((words1.drop 24).drop 24).take 24).all (fun c => isCode c || c.before args0 about1) = true := by decide +kernel
set_option maxRecDepth 65536 in
theorem w_t4 : ((((words1.drop 24).drop 24).drop 24).take 24).all (fun c => isCode c || c.before args0 about1) = true := by decide +kernel
set_option maxRecDepth 65536 in
theorem w_t5 : (((((words1.drop 24).drop 24).drop 24).drop 24).take 24).all (fun c => isCode c || c.before args0 about1) = true := by decide +kernel
set_option maxRecDepth 65536 in
theorem w_t6 : ((((((words1.drop 24).drop 24).drop 24).drop 24).drop 24).take 24).all (fun c => isCode c || c.before args0 about1) = true := by decide +kernel
set_option maxRecDepth 65536 in
theorem w_t7 : (((((((words1.drop 24).drop 24).drop 24).drop 24).drop 24).drop 24).take 24).all (fun c => isCode c || c.before args0 about1) = true := by decide +kernel
set_option maxRecDepth 65536 in
theorem w_t8 : ((((((((words1.drop 24).drop 24).drop 24).drop 24).drop 24).drop 24).drop 24).take 24).all (fun c => isCode c || c.before args0 about1) = true := by decide +kernel
set_option maxRecDepth 65536 in
theorem w_t9 : ((((((((words1.drop 24).drop 24).drop 24).drop 24).drop 24).drop 24).drop 24).drop 24).all (fun c => isCode c || c.before args0 about1) = true := by decide +kernel
theorem w_tables : (allAtoms (Jvm.Cond.code x code maxLocals ret :: tables_1)).before args0 about1 = true := by
  rw [allAtoms_all]
  show words1.all (fun c => c.before args0 about1) = true
  refine all_split ?_ w_codes
  rw [← List.take_append_drop 24 words1, List.all_append, w_t1, ← List.take_append_drop 24 (words1.drop 24), List.all_append, w_t2, ← List.take_append_drop 24 ((words1.drop 24).drop 24), List.all_append, w_t3, ← List.take_append_drop 24 (((words1.drop 24).drop 24).drop 24), List.all_append, w_t4, ← List.take_append_drop 24 ((((words1.drop 24).drop 24).drop 24).drop 24), List.all_append, w_t5, ← List.take_append_drop 24 (((((words1.drop 24).drop 24).drop 24).drop 24).drop 24), List.all_append, w_t6, ← List.take_append_drop 24 ((((((words1.drop 24).drop 24).drop 24).drop 24).drop 24).drop 24), List.all_append, w_t7, ← List.take_append_drop 24 (((((((words1.drop 24).drop 24).drop 24).drop 24).drop 24).drop 24).drop 24), List.all_append, w_t8, w_t9]
  rfl
set_option maxRecDepth 65536 in
theorem w_rest : rest_1_c.before args0 about1 = true := by decide +kernel
set_option maxRecDepth 65536 in
theorem w_case : (Jvm.Cond.and given_1 narrow_1).before args0 about1 = true := by decide +kernel
set_option maxRecDepth 65536 in
theorem w_consts : constsHeld consts_1 about1 := Jvm.Lit.constsHeldB_iff.mp (by decide +kernel)
theorem w_applies : (headSpec (Jvm.Cond.code x code maxLocals ret :: tables_1) room_1).applies x e0.platform about1 = true :=
  (Spec.applies_iff w_frames).mpr ⟨w_running, w_runnable, w_alone, w_named, w_hears, w_ripe, w_room, w_tables⟩
theorem atStart : AtStart classFile x code maxLocals ret World_1 tables_1 room_1 Calls_1 rest_1 Pre_1 launch0 p0 e0 about1 theMethod args0 below0 :=
  ⟨lists_1, trivial, launch0.admits_env _ _ _, launch0.least_env, fairChoices_fair.cas, fairChoices_fair.clock, w_frames, w_args, w_heap, w_applies, ⟨w_consts, trivial⟩, w_rest, w_case⟩
end start1
theorem witness_1 : WitnessClaimed_1 := ⟨start1.p0, start1.e0, start1.about1, start1.theMethod, start1.args0, start1.below0, start1.atStart⟩
end Jvm.Pilot.@@N@@

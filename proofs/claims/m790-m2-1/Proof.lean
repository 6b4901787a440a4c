import JvmDerived
import JvmDerived.Pilot.@@N@@Statement
import JvmDerived.Pilot.@@N@@Code
set_option linter.unusedVariables false
set_option linter.unusedSimpArgs false
/- laws to paste: Road.backV, Road.lenW, Road.codOf (cut by pick.py; bodies as the Statement names them) -/
namespace Jvm.Pilot.@@N@@
namespace StrChars
open Jvm Sem ClassFile Op Lib Jvm.Stand Jvm.Free.XT Jvm.Free.ALB Jvm.Free.JM Jvm.Free
open Jvm.Lib.Cold (StaticIs)
/-- a char array whose places are chars -/
def Ch (a : Addr) (A : Cell) (U : State) : Prop := Arr .char a A U ∧ Typed .char A
theorem Ch.mv {a : Addr} {A : Cell} {U U' : State} (h : Ch a A U) (hal : U.vm.Alike U'.vm) (hh : U'.heap = U.heap) : Ch a A U' := ⟨h.1.mv hal hh, h.2⟩
theorem Ch.keep {a : Addr} {A : Cell} {U U' : State} (h : Ch a A U) (hal : U.vm.Alike U'.vm) (hk : U'.heap[a]? = some A) : Ch a A U' := ⟨h.1.keep hal hk, h.2⟩
/-- what place i of a char[]'s cell holds -/
def cv (A : Cell) (i : Nat) : Int32 := match A.slots[i]? with | some (.int x) => x | _ => 0
theorem Ch.get {a : Addr} {A : Cell} {U : State} (h : Ch a A U) {i : Nat} (hi : i < A.slots.size) : A.slots[i]? = some (.int (cv A i)) := by
  have e := Array.getElem?_eq_getElem hi
  have f := h.2 i _ e
  unfold cv; rw [e]
  generalize A.slots[i] = v at f
  cases v <;> simp [fits] at f ⊢
/-- the byte that i2b leaves of a char -/
def lo8 (x : Int32) : Int32 := x.toInt8.toInt32
theorem fits_lo8 (y : Int32) : fits .byte (.int (lo8 y)) = true := by
  have h1 := y.toInt8.le_toInt
  have h2 := y.toInt8.toInt_lt
  simp only [lo8, fits, Bool.and_eq_true, decide_eq_true_eq, Int32.le_iff_toInt_le, Int8.toInt_toInt32, show (-128 : Int32).toInt = -128 from by decide, show (127 : Int32).toInt = 127 from by decide]
  omega
/-- A' is A but that each place j of lo .. hi - 1 holds f j -/
def Laid (A A' : Cell) (lo hi : Nat) (f : Nat → Value) : Prop := A'.cls = A.cls ∧ A'.vm = A.vm ∧ A'.slots.size = A.slots.size ∧ ∀ i, A'.slots[i]? = if lo ≤ i ∧ i < hi then some (f i) else A.slots[i]?
theorem Laid.zero (A : Cell) (lo : Nat) (f : Nat → Value) : Laid A A lo (lo + 0) f := ⟨rfl, rfl, rfl, fun i => by rw [if_neg (by omega)]⟩
theorem Laid.step {A Ak : Cell} {lo k : Nat} {f : Nat → Value} {v : Value} (h : Laid A Ak lo k f) (hlo : lo ≤ k) (hk : k < Ak.slots.size) (hv : v = f k) : Laid A (Ak.setSlot k v) lo (k + 1) f := by
  refine ⟨h.1, h.2.1, by simpa [Cell.setSlot] using h.2.2.1, fun i => ?_⟩
  by_cases e : k = i
  · subst e; rw [Cell.slots_setSlot_self v hk, if_pos (by omega), hv]
  · rw [Cell.slots_setSlot_ne v e, h.2.2.2 i]
    by_cases q : lo ≤ i ∧ i < k
    · rw [if_pos q, if_pos (by omega)]
    · rw [if_neg q, if_neg (by omega)]
def U16 : String := "java/lang/StringUTF16"
namespace Cmp5
def yN : MethodName := ⟨"java/lang/StringUTF16", "compress", "([CI[BII)I"⟩
abbrev yB : ByteArray := jdk_52_method_21_code
theorem d0 : decode yB 0 = .ok (.iconst 0, 1) := by decide +kernel
theorem d1 : decode yB 1 = .ok (.istore 5, 2) := by decide +kernel
theorem d3 : decode yB 3 = .ok (.iload 5, 2) := by decide +kernel
theorem d5 : decode yB 5 = .ok (.iload 4, 2) := by decide +kernel
theorem d7 : decode yB 7 = .ok (.if_icmp (.ge) 37, 3) := by decide +kernel
theorem d10 : decode yB 10 = .ok (.aload_n 0, 1) := by decide +kernel
theorem d11 : decode yB 11 = .ok (.iload_n 1, 1) := by decide +kernel
theorem d12 : decode yB 12 = .ok (.caload, 1) := by decide +kernel
theorem d13 : decode yB 13 = .ok (.istore 6, 2) := by decide +kernel
theorem d15 : decode yB 15 = .ok (.iload 6, 2) := by decide +kernel
theorem d17 : decode yB 17 = .ok (.sipush 255, 3) := by decide +kernel
theorem d20 : decode yB 20 = .ok (.if_icmp (.le) 6, 3) := by decide +kernel
theorem d26 : decode yB 26 = .ok (.aload_n 2, 1) := by decide +kernel
theorem d27 : decode yB 27 = .ok (.iload_n 3, 1) := by decide +kernel
theorem d28 : decode yB 28 = .ok (.iload 6, 2) := by decide +kernel
theorem d30 : decode yB 30 = .ok (.i2b, 1) := by decide +kernel
theorem d31 : decode yB 31 = .ok (.bastore, 1) := by decide +kernel
theorem d32 : decode yB 32 = .ok (.iinc 1 1, 3) := by decide +kernel
theorem d35 : decode yB 35 = .ok (.iinc 3 1, 3) := by decide +kernel
theorem d38 : decode yB 38 = .ok (.iinc 5 1, 3) := by decide +kernel
theorem d41 : decode yB 41 = .ok (.goto (-38), 3) := by decide +kernel
theorem d44 : decode yB 44 = .ok (.iload 4, 2) := by decide +kernel
theorem d46 : decode yB 46 = .ok (.ireturn, 1) := by decide +kernel
def site : List Cond := []
def tab : Cond := tabOf yN yB 7 (some .int) site
def P (b : Addr) (A : Cell) (d : Addr) (B : Cell) (o q len : Nat) (args : Array Value) (s : State) : Prop := args = #[.ref b, .int (Int32.ofNat o), .ref d, .int (Int32.ofNat q), .int (Int32.ofNat len)] ∧ Ch b A s ∧ Arr .byte d B s ∧ b ≠ d ∧ o + len ≤ A.slots.size ∧ q + len ≤ B.slots.size ∧ ∀ i, i < len → ¬ 255 < cv A (o + i)
def E (b : Addr) (A : Cell) (d : Addr) (B : Cell) (o q len : Nat) (r : Option Value) (s u : State) : Prop := r = some (.int (Int32.ofNat len)) ∧ ∃ B', Put d B' s u ∧ Laid B B' q (q + len) (fun j => Value.int (lo8 (cv A (o + (j - q)))))
/-- no char of the range above 255: len; the places written hold each char's low byte -/
theorem law (l : Launch) (b : Addr) (A : Cell) (d : Addr) (B : Cell) (o q len : Nat) : Law l yN 5 5 0 0 yB 7 (some .int) site (P b A d B o q len) (E b A d B o q len) (copyLocs d q len) 0 0 := by
  refine Law.of_walk (plainFor_of_name (by decide +kernel)) (by decide +kernel) (by decide +kernel) (by decide) (fun _ _ h => by rw [h.1]; rfl) (fun _ U U' hal hh h => ⟨h.1, h.2.1.mv hal hh, h.2.2.1.mv hal hh, h.2.2.2⟩) (fun r U U' V V' h1 hal h2 h => ⟨h.1, h.2.elim fun B' q => ⟨B', q.1.mv h1 h2, q.2⟩⟩) ?_
  intro p e s m args below meth c s₁ X0 hexec hbytes hml hret hlk hnm hown hh0 W hP
  obtain ⟨rfl, hA, hB, hne, l1, l2, hp⟩ := hP
  have c1 : Steps p.tables e below (s₁.setTop (entryFrame m #[.ref b, .int (Int32.ofNat o), .ref d, .int (Int32.ofNat q), .int (Int32.ofNat len)] 7)) (s₁.setTop (mkF m 0 #[.val (.ref b), .val (.int (Int32.ofNat o)), .val (.ref d), .val (.int (Int32.ofNat q)), .val (.int (Int32.ofNat len)), .unset, .unset] [])) := entry rfl
  have hA0 := hA.1.mv X0.warmed.alike hh0
  have hB0 := hB.mv X0.warmed.alike hh0
  have a31 := hA.1.2.2.2
  have c2 : Steps p.tables e below (s₁.setTop (entryFrame m #[.ref b, .int (Int32.ofNat o), .ref d, .int (Int32.ofNat q), .int (Int32.ofNat len)] 7)) (s₁.setTop (mkF m 3 #[.val (.ref b), .val (.int (Int32.ofNat o)), .val (.ref d), .val (.int (Int32.ofNat q)), .val (.int (Int32.ofNat len)), .val (.int 0), .unset] [])) := c1.trans (by
    refine iconstV X0.here hexec rfl 0 (hb hbytes d0) (by decide) ?_
    refine XS.istore X0.here hexec rfl (hb hbytes d1) rfl rfl ?_
    exact Steps.refl _)
  have loop : ∀ (r i : Nat), i + r = len → ∀ (z : Slot), (z = .unset ∨ ∃ w, z = .val w ∧ w.category = 1) → ∀ (Tl : State) (Bk : Cell), Stand p l e { frames := 0, locals := 0, cells := 0, slots := 0 } s m #[.ref b, .int (Int32.ofNat o), .ref d, .int (Int32.ofNat q), .int (Int32.ofNat len)] below meth c Tl ([] ++ copyLocs d q i) 0 0 → Put d Bk s₁ Tl → Laid B Bk q (q + i) (fun j => Value.int (lo8 (cv A (o + (j - q))))) →
      Steps p.tables e below (s₁.setTop (entryFrame m #[.ref b, .int (Int32.ofNat o), .ref d, .int (Int32.ofNat q), .int (Int32.ofNat len)] 7)) (Tl.setTop (mkF m 3 #[.val (.ref b), .val (.int (Int32.ofNat (o + i))), .val (.ref d), .val (.int (Int32.ofNat (q + i))), .val (.int (Int32.ofNat len)), .val (.int (Int32.ofNat i)), z] [])) → ∃ (T' : State) (B' : Cell) (z' : Slot), Stand p l e { frames := 0, locals := 0, cells := 0, slots := 0 } s m #[.ref b, .int (Int32.ofNat o), .ref d, .int (Int32.ofNat q), .int (Int32.ofNat len)] below meth c T' ([] ++ copyLocs d q len) 0 0 ∧ Put d B' s₁ T' ∧ Laid B B' q (q + len) (fun j => Value.int (lo8 (cv A (o + (j - q))))) ∧
      Steps p.tables e below (s₁.setTop (entryFrame m #[.ref b, .int (Int32.ofNat o), .ref d, .int (Int32.ofNat q), .int (Int32.ofNat len)] 7)) (T'.setTop (mkF m 3 #[.val (.ref b), .val (.int (Int32.ofNat (o + len))), .val (.ref d), .val (.int (Int32.ofNat (q + len))), .val (.int (Int32.ofNat len)), .val (.int (Int32.ofNat len)), z'] [])) := by
    intro r
    induction r with
    | zero =>
      intro i hi z hz Tl Bk Xl pl fl cl
      have hil : i = len := by omega
      rw [hil] at Xl fl cl
      exact ⟨Tl, Bk, z, Xl, pl, fl, cl⟩
    | succ r ih =>
      intro i hi z hz Tl Bk Xl pl fl cl
      have all := X0.warmed.alike.symm.trans Xl.warmed.alike
      have hAl := hA0.keep all (pl.other hne hA0.1)
      have hBk := hB0.like all pl.1 fl.1 fl.2.1 fl.2.2.1
      have hlt : q + i < Bk.slots.size := by rw [fl.2.2.1]; omega
      have c3 : Steps p.tables e below (s₁.setTop (entryFrame m #[.ref b, .int (Int32.ofNat o), .ref d, .int (Int32.ofNat q), .int (Int32.ofNat len)] 7)) (Tl.setTop (mkF m 12 #[.val (.ref b), .val (.int (Int32.ofNat (o + i))), .val (.ref d), .val (.int (Int32.ofNat (q + i))), .val (.int (Int32.ofNat len)), .val (.int (Int32.ofNat i)), z] [.int (Int32.ofNat (o + i)), .ref b])) := cl.trans (by
        refine XS.iload Xl.here hexec rfl (hb hbytes d3) rfl ?_
        refine XS.iload Xl.here hexec rfl (hb hbytes d5) rfl ?_
        refine XS.icmpNo Xl.here hexec rfl (hb hbytes d7) rfl (ii_ge_f (lt32 (by omega) (by omega))) ?_
        refine XS.aloadN Xl.here hexec rfl (hb hbytes d10) rfl rfl ?_
        refine XS.iloadN Xl.here hexec rfl (hb hbytes d11) rfl ?_
        exact Steps.refl _)
      have c4 : Steps p.tables e below (s₁.setTop (entryFrame m #[.ref b, .int (Int32.ofNat o), .ref d, .int (Int32.ofNat q), .int (Int32.ofNat len)] 7)) (Tl.setTop (mkF m 13 #[.val (.ref b), .val (.int (Int32.ofNat (o + i))), .val (.ref d), .val (.int (Int32.ofNat (q + i))), .val (.int (Int32.ofNat len)), .val (.int (Int32.ofNat i)), z] [.int (cv A (o + i))])) := c3.trans (by
        refine Xl.aget hexec hAl rfl (hA.get (i := o + i) (by omega)) rfl rfl (hb hbytes d12) ?_
        exact Steps.refl _)
      have c5 : Steps p.tables e below (s₁.setTop (entryFrame m #[.ref b, .int (Int32.ofNat o), .ref d, .int (Int32.ofNat q), .int (Int32.ofNat len)] 7)) (Tl.setTop (mkF m 15 #[.val (.ref b), .val (.int (Int32.ofNat (o + i))), .val (.ref d), .val (.int (Int32.ofNat (q + i))), .val (.int (Int32.ofNat len)), .val (.int (Int32.ofNat i)), .val (.int (cv A (o + i)))] [])) := c4.trans (by
        refine XS.istoreS Xl.here hexec rfl (hb hbytes d13) rfl rfl hz ?_
        exact Steps.refl _)
      have c6 : Steps p.tables e below (s₁.setTop (entryFrame m #[.ref b, .int (Int32.ofNat o), .ref d, .int (Int32.ofNat q), .int (Int32.ofNat len)] 7)) (Tl.setTop (mkF m 31 #[.val (.ref b), .val (.int (Int32.ofNat (o + i))), .val (.ref d), .val (.int (Int32.ofNat (q + i))), .val (.int (Int32.ofNat len)), .val (.int (Int32.ofNat i)), .val (.int (cv A (o + i)))] [.int (lo8 (cv A (o + i))), .int (Int32.ofNat (q + i)), .ref d])) := c5.trans (by
        refine XS.iload Xl.here hexec rfl (hb hbytes d15) rfl ?_
        refine sipushV Xl.here hexec rfl 255 (hb hbytes d17) (by decide) ?_
        refine XS.icmpYes Xl.here hexec rfl (pc0 := 20) rfl (hb hbytes d20) rfl (ii_le_t (hp i (by omega))) (by decide) rfl ?_
        refine XS.aloadN Xl.here hexec rfl (hb hbytes d26) rfl rfl ?_
        refine XS.iloadN Xl.here hexec rfl (hb hbytes d27) rfl ?_
        refine XS.iload Xl.here hexec rfl (hb hbytes d28) rfl ?_
        refine i2b Xl.here hexec rfl (hb hbytes d30) rfl ?_
        exact Steps.refl _)
      obtain ⟨T7, X7, p7, st7⟩ := Xl.aput hexec hBk rfl hlt rfl (fits_lo8 (cv A (o + i))) (g := (mkF m 31 #[.val (.ref b), .val (.int (Int32.ofNat (o + i))), .val (.ref d), .val (.int (Int32.ofNat (q + i))), .val (.int (Int32.ofNat len)), .val (.int (Int32.ofNat i)), .val (.int (cv A (o + i)))] [.int (lo8 (cv A (o + i))), .int (Int32.ofNat (q + i)), .ref d])) rfl (rest := []) rfl (hb hbytes d31)
      have c8 : Steps p.tables e below (s₁.setTop (entryFrame m #[.ref b, .int (Int32.ofNat o), .ref d, .int (Int32.ofNat q), .int (Int32.ofNat len)] 7)) (T7.setTop (mkF m 32 #[.val (.ref b), .val (.int (Int32.ofNat (o + i))), .val (.ref d), .val (.int (Int32.ofNat (q + i))), .val (.int (Int32.ofNat len)), .val (.int (Int32.ofNat i)), .val (.int (cv A (o + i)))] [])) := c6.trans (st7 _ (Steps.refl _))
      have c9 : Steps p.tables e below (s₁.setTop (entryFrame m #[.ref b, .int (Int32.ofNat o), .ref d, .int (Int32.ofNat q), .int (Int32.ofNat len)] 7)) (T7.setTop (mkF m 3 #[.val (.ref b), .val (.int (Int32.ofNat (o + i) + 1)), .val (.ref d), .val (.int (Int32.ofNat (q + i) + 1)), .val (.int (Int32.ofNat len)), .val (.int (Int32.ofNat i + 1)), .val (.int (cv A (o + i)))] [])) := c8.trans (by
        refine iincV X7.here hexec rfl 1 (hb hbytes d32) (by decide) rfl rfl ?_
        refine iincV X7.here hexec rfl 1 (hb hbytes d35) (by decide) rfl rfl ?_
        refine iincV X7.here hexec rfl 1 (hb hbytes d38) (by decide) rfl rfl ?_
        refine XS.goto X7.here hexec rfl (pc0 := 41) rfl (hb hbytes d41) (by decide) rfl ?_
        exact Steps.refl _)
      have c10 : Steps p.tables e below (s₁.setTop (entryFrame m #[.ref b, .int (Int32.ofNat o), .ref d, .int (Int32.ofNat q), .int (Int32.ofNat len)] 7)) (T7.setTop (mkF m 3 #[.val (.ref b), .val (.int (Int32.ofNat (o + (i + 1)))), .val (.ref d), .val (.int (Int32.ofNat (q + (i + 1)))), .val (.int (Int32.ofNat len)), .val (.int (Int32.ofNat (i + 1))), .val (.int (cv A (o + i)))] [])) := by
        have := c9
        rw [succ32, succ32, succ32] at this
        exact this
      exact ih (i + 1) (by omega) _ (Or.inr ⟨_, rfl, rfl⟩) T7 _ (by rw [copyLocs_step, ← List.append_assoc]; exact X7) (pl.trans p7) (fl.step (by omega) hlt (by simp)) c10
  obtain ⟨T9, B9, z9, X9, p9, f9, g9⟩ := loop len 0 (by omega) .unset (Or.inl rfl) s₁ B (by simpa [copyLocs] using X0) ⟨hB0.1, fun _ _ => rfl, rfl⟩ (Laid.zero _ _ _) c2
  have c11 : Steps p.tables e below (s₁.setTop (entryFrame m #[.ref b, .int (Int32.ofNat o), .ref d, .int (Int32.ofNat q), .int (Int32.ofNat len)] 7)) (T9.setTop (mkF m 46 #[.val (.ref b), .val (.int (Int32.ofNat (o + len))), .val (.ref d), .val (.int (Int32.ofNat (q + len))), .val (.int (Int32.ofNat len)), .val (.int (Int32.ofNat len)), z9] [.int (Int32.ofNat len)])) := g9.trans (by
    refine XS.iload X9.here hexec rfl (hb hbytes d3) rfl ?_
    refine XS.iload X9.here hexec rfl (hb hbytes d5) rfl ?_
    refine XS.icmpYes X9.here hexec rfl (pc0 := 7) rfl (hb hbytes d7) rfl (ii_ge_t (nlt32 (by omega) (Nat.le_refl _))) (by decide) rfl ?_
    refine XS.iload X9.here hexec rfl (hb hbytes d44) rfl ?_
    exact Steps.refl _)
  exact ⟨T9, some (.int (Int32.ofNat len)), _, _, _, X9, by simp, rfl, rfl, (fun h => by cases h), ⟨rfl, B9, p9.from hh0, f9⟩, fun fs hl => c11.trans (X9.ireturnOut hexec hret rfl (Or.inl rfl) (hb hbytes d46) hl)⟩
end Cmp5
namespace Cmp3
def yN : MethodName := ⟨"java/lang/StringUTF16", "compress", "([CII)[B"⟩
abbrev yB : ByteArray := jdk_52_method_16_code
theorem d0 : decode yB 0 = .ok (.iload_n 2, 1) := by decide +kernel
theorem d1 : decode yB 1 = .ok (.newarray .byte, 2) := by decide +kernel
theorem d3 : decode yB 3 = .ok (.astore_n 3, 1) := by decide +kernel
theorem d4 : decode yB 4 = .ok (.aload_n 0, 1) := by decide +kernel
theorem d5 : decode yB 5 = .ok (.iload_n 1, 1) := by decide +kernel
theorem d6 : decode yB 6 = .ok (.aload_n 3, 1) := by decide +kernel
theorem d7 : decode yB 7 = .ok (.iconst 0, 1) := by decide +kernel
theorem d8 : decode yB 8 = .ok (.iload_n 2, 1) := by decide +kernel
theorem d9 : decode yB 9 = .ok (.invokestatic 115, 3) := by decide +kernel
theorem d12 : decode yB 12 = .ok (.istore 4, 2) := by decide +kernel
theorem d14 : decode yB 14 = .ok (.iload 4, 2) := by decide +kernel
theorem d16 : decode yB 16 = .ok (.iload_n 2, 1) := by decide +kernel
theorem d17 : decode yB 17 = .ok (.if_icmp (.eq) 40, 3) := by decide +kernel
theorem d57 : decode yB 57 = .ok (.aload_n 3, 1) := by decide +kernel
theorem d58 : decode yB 58 = .ok (.areturn, 1) := by decide +kernel
def site : List Cond := [.arrayClass .byte, Cmp5.tab] ++ staticW U16 115 Cmp5.yN
def tab : Cond := tabOf yN yB 6 (some (.array .byte)) site
def P (b : Addr) (A : Cell) (o len : Nat) (args : Array Value) (s : State) : Prop := args = #[.ref b, .int (Int32.ofNat o), .int (Int32.ofNat len)] ∧ Ch b A s ∧ o + len ≤ A.slots.size ∧ len ≤ 536870912 ∧ ∀ i, i < len → ¬ 255 < cv A (o + i)
def E (b : Addr) (A : Cell) (o len : Nat) (r : Option Value) (s u : State) : Prop := NewArr .byte "[B" len (fun j => .int (lo8 (cv A (o + j)))) r s u ∧ u.heap.size = s.heap.size + 1
/-- no char of the range above 255: a new byte[] of their low bytes -/
theorem law (l : Launch) (b : Addr) (A : Cell) (o len : Nat) : Law l yN 3 3 1 18 yB 6 (some (.array .byte)) site (P b A o len) (E b A o len) [] 1 len := by
  refine Law.of_walk (plainFor_of_name (by decide +kernel)) (by decide +kernel) (by decide +kernel) (by decide) (fun _ _ h => by rw [h.1]; rfl) (fun _ U U' hal hh h => ⟨h.1, h.2.1.mv hal hh, h.2.2⟩) (fun r U U' V V' h1 hal h2 h => ⟨NewArr.mv r U U' V V' h1 hal h2 h.1, by rw [h1, h2]; exact h.2⟩) ?_
  intro p e s m args below meth c s₁ X0 hexec hbytes hml hret hlk hnm hown hh0 W hP
  obtain ⟨rfl, hA, l1, l2, hp⟩ := hP
  have a31 := hA.1.2.2.2
  have c1 : Steps p.tables e below (s₁.setTop (entryFrame m #[.ref b, .int (Int32.ofNat o), .int (Int32.ofNat len)] 6)) (s₁.setTop (mkF m 0 #[.val (.ref b), .val (.int (Int32.ofNat o)), .val (.int (Int32.ofNat len)), .unset, .unset, .unset] [])) := entry rfl
  have c2 : Steps p.tables e below (s₁.setTop (entryFrame m #[.ref b, .int (Int32.ofNat o), .int (Int32.ofNat len)] 6)) (s₁.setTop (mkF m 1 #[.val (.ref b), .val (.int (Int32.ofNat o)), .val (.int (Int32.ofNat len)), .unset, .unset, .unset] [.int (Int32.ofNat len)])) := c1.trans (by
    refine XS.iloadN X0.here hexec rfl (hb hbytes d0) rfl ?_
    exact Steps.refl _)
  obtain ⟨T3, B3, X3, ba3, bs3, bv3, bh3, bf3, st3⟩ := X0.anew hexec (atype := .byte) (wk W (.arrayClass .byte)) rfl (by show len * 1 ≤ _; omega) (by omega) (g := (mkF m 1 #[.val (.ref b), .val (.int (Int32.ofNat o)), .val (.int (Int32.ofNat len)), .unset, .unset, .unset] [.int (Int32.ofNat len)])) rfl (hb hbytes d1) (rest := []) rfl (Nat.le_refl _) (by show 0 + len ≤ len; omega)
  rw [hh0] at ba3 st3
  have kp3 : XT.Kept s T3 := (XT.Kept.of_eq hh0).push bh3
  have hA3 := hA.keep X3.warmed.alike (kp3 _ _ hA.1.1)
  have hne : b ≠ s.heap.size := hA.1.ne
  have c4 : Steps p.tables e below (s₁.setTop (entryFrame m #[.ref b, .int (Int32.ofNat o), .int (Int32.ofNat len)] 6)) (T3.setTop (mkF m 3 #[.val (.ref b), .val (.int (Int32.ofNat o)), .val (.int (Int32.ofNat len)), .unset, .unset, .unset] [.ref s.heap.size])) := c2.trans (st3 _ (Steps.refl _))
  have c5 : Steps p.tables e below (s₁.setTop (entryFrame m #[.ref b, .int (Int32.ofNat o), .int (Int32.ofNat len)] 6)) (T3.setTop (mkF m 9 #[.val (.ref b), .val (.int (Int32.ofNat o)), .val (.int (Int32.ofNat len)), .val (.ref s.heap.size), .unset, .unset] [.int (Int32.ofNat len), .int 0, .ref s.heap.size, .int (Int32.ofNat o), .ref b])) := c4.trans (by
    refine XS.astoreN X3.here hexec rfl (hb hbytes d3) rfl rfl rfl ?_
    refine XS.aloadN X3.here hexec rfl (hb hbytes d4) rfl rfl ?_
    refine XS.iloadN X3.here hexec rfl (hb hbytes d5) rfl ?_
    refine XS.aloadN X3.here hexec rfl (hb hbytes d6) rfl rfl ?_
    refine iconstV X3.here hexec rfl 0 (hb hbytes d7) (by decide) ?_
    refine XS.iloadN X3.here hexec rfl (hb hbytes d8) rfl ?_
    exact Steps.refl _)
  obtain ⟨v6, T6, X6, E6, g6⟩ := X3.callS hexec (Cmp5.law l b A s.heap.size B3 o 0 len) hown (wks W (staticW U16 115 Cmp5.yN)) (wk W Cmp5.tab) (W := 0) (Nat.le_of_ble_eq_true rfl) (Nat.le_of_ble_eq_true rfl) (Nat.le_refl _) (by show 0 + len + 0 ≤ len; omega) (g := (mkF m 9 #[.val (.ref b), .val (.int (Int32.ofNat o)), .val (.int (Int32.ofNat len)), .val (.ref s.heap.size), .unset, .unset] [.int (Int32.ofNat len), .int (Int32.ofNat 0), .ref s.heap.size, .int (Int32.ofNat o), .ref b])) rfl (by rw [hml]; rfl) c5 (argsL := [.ref b, .int (Int32.ofNat o), .ref s.heap.size, .int (Int32.ofNat 0), .int (Int32.ofNat len)]) (rest := []) rfl rfl (by show 2 * 0 + 0 ≤ _; decide) (hb hbytes d9) (⟨rfl, hA3, ba3, hne, l1, by rw [bs3]; simp, hp⟩)
  obtain ⟨rfl, B6, p6, f6⟩ := E6
  have c7 : Steps p.tables e below (s₁.setTop (entryFrame m #[.ref b, .int (Int32.ofNat o), .int (Int32.ofNat len)] 6)) (T6.setTop (mkF m 12 #[.val (.ref b), .val (.int (Int32.ofNat o)), .val (.int (Int32.ofNat len)), .val (.ref s.heap.size), .unset, .unset] [.int (Int32.ofNat len)])) := g6
  have c8 : Steps p.tables e below (s₁.setTop (entryFrame m #[.ref b, .int (Int32.ofNat o), .int (Int32.ofNat len)] 6)) (T6.setTop (mkF m 58 #[.val (.ref b), .val (.int (Int32.ofNat o)), .val (.int (Int32.ofNat len)), .val (.ref s.heap.size), .val (.int (Int32.ofNat len)), .unset] [.ref s.heap.size])) := c7.trans (by
    refine XS.istore X6.here hexec rfl (hb hbytes d12) rfl rfl ?_
    refine XS.iload X6.here hexec rfl (hb hbytes d14) rfl ?_
    refine XS.iloadN X6.here hexec rfl (hb hbytes d16) rfl ?_
    refine XS.icmpYes X6.here hexec rfl (pc0 := 17) rfl (hb hbytes d17) rfl (ii_eq_t rfl) (by decide) rfl ?_
    refine XS.aloadN X6.here hexec rfl (hb hbytes d57) rfl rfl ?_
    exact Steps.refl _)
  have X8 := X6.wide (L' := []) (cells' := 1) (slots' := len) (fun x hx hlt => by
    simp only [List.nil_append, copyLocs, List.mem_map, List.mem_range] at hx
    obtain ⟨i, -, rfl⟩ := hx
    exact absurd hlt (Nat.lt_irrefl _)) (Nat.le_refl _) (by omega)
  exact ⟨T6, some (.ref s.heap.size), _, _, _, X8, rfl, rfl, rfl, (fun h => by cases h), ⟨⟨rfl, B6, ba3.like (X3.warmed.alike.symm.trans X6.warmed.alike) p6.1 f6.1 f6.2.1 f6.2.2.1, f6.2.1.trans bv3, by rw [X6.warmed.alike.findClass, f6.1]; exact bf3, by rw [f6.2.2.1, bs3]; simp, fun j hj => by rw [f6.2.2.2 j, if_pos (by omega)]; rfl, kp3.put p6 (Nat.le_refl _)⟩, by rw [p6.2.2, bh3, hh0]; simp⟩, fun fs hl => c8.trans (X8.areturnOut hexec rfl hret rfl (hb hbytes d58) hl)⟩
end Cmp3
namespace CodL
def yN : MethodName := ⟨"java/lang/StringUTF16", "coderFromArrayLen", "([BI)B"⟩
abbrev yB : ByteArray := jdk_52_method_15_code
theorem d0 : decode yB 0 = .ok (.iload_n 1, 1) := by decide +kernel
theorem d1 : decode yB 1 = .ok (.aload_n 0, 1) := by decide +kernel
theorem d2 : decode yB 2 = .ok (.arraylength, 1) := by decide +kernel
theorem d3 : decode yB 3 = .ok (.isub, 1) := by decide +kernel
theorem d4 : decode yB 4 = .ok (.bipush 31, 2) := by decide +kernel
theorem d6 : decode yB 6 = .ok (.iushr, 1) := by decide +kernel
theorem d7 : decode yB 7 = .ok (.i2b, 1) := by decide +kernel
theorem d8 : decode yB 8 = .ok (.ireturn, 1) := by decide +kernel
def site : List Cond := []
def tab : Cond := tabOf yN yB 2 (some .byte) site
def P (d : Addr) (B : Cell) (args : Array Value) (s : State) : Prop := args = #[.ref d, .int (Int32.ofNat B.slots.size)] ∧ Arr .byte d B s
def E (r : Option Value) (s u : State) : Prop := XT.PureE (some (.int 0)) r s u
/-- an array as long as the number of chars: LATIN1 -/
theorem law (l : Launch) (d : Addr) (B : Cell) : Law l yN 2 2 0 0 yB 2 (some .byte) site (P d B) E [] 0 0 := by
  refine Law.of_walk (plainFor_of_name (by decide +kernel)) (by decide +kernel) (by decide +kernel) (by decide) (fun _ _ h => by rw [h.1]; rfl) (fun _ U U' hal hh h => ⟨h.1, h.2.mv hal hh⟩) (fun r U U' V V' h1 hal h2 h => XT.PureE.mv r U U' V V' h1 hal h2 h) ?_
  intro p e s m args below meth c s₁ X0 hexec hbytes hml hret hlk hnm hown hh0 W hP
  obtain ⟨rfl, hB⟩ := hP
  have hB0 := hB.mv X0.warmed.alike hh0
  have c1 : Steps p.tables e below (s₁.setTop (entryFrame m #[.ref d, .int (Int32.ofNat B.slots.size)] 2)) (s₁.setTop (mkF m 0 #[.val (.ref d), .val (.int (Int32.ofNat B.slots.size))] [])) := entry rfl
  have c2 : Steps p.tables e below (s₁.setTop (entryFrame m #[.ref d, .int (Int32.ofNat B.slots.size)] 2)) (s₁.setTop (mkF m 2 #[.val (.ref d), .val (.int (Int32.ofNat B.slots.size))] [.ref d, .int (Int32.ofNat B.slots.size)])) := c1.trans (by
    refine XS.iloadN X0.here hexec rfl (hb hbytes d0) rfl ?_
    refine XS.aloadN X0.here hexec rfl (hb hbytes d1) rfl rfl ?_
    exact Steps.refl _)
  have c3 : Steps p.tables e below (s₁.setTop (entryFrame m #[.ref d, .int (Int32.ofNat B.slots.size)] 2)) (s₁.setTop (mkF m 8 #[.val (.ref d), .val (.int (Int32.ofNat B.slots.size))] [.int (lo8 (ushr (Int32.ofNat B.slots.size - Int32.ofNat B.slots.size) 31))])) := c2.trans (by
    refine X0.alen hexec hB0 rfl rfl (hb hbytes d2) ?_
    refine XS.isub X0.here hexec rfl (hb hbytes d3) rfl ?_
    refine bipushV X0.here hexec rfl 31 (hb hbytes d4) (by decide) ?_
    refine iushr X0.here hexec rfl (hb hbytes d6) rfl ?_
    refine i2b X0.here hexec rfl (hb hbytes d7) rfl ?_
    exact Steps.refl _)
  have e0 : lo8 (ushr (Int32.ofNat B.slots.size - Int32.ofNat B.slots.size) 31) = 0 := by rw [Int32.sub_self]; decide
  rw [e0] at c3
  exact ⟨s₁, some (.int 0), _, _, _, X0, rfl, rfl, rfl, (fun h => by cases h), ⟨rfl, hh0⟩, fun fs hl => c3.trans (X0.ireturnOut hexec hret rfl (Or.inr (Or.inr (Or.inl rfl))) (hb hbytes d8) hl)⟩
end CodL
/-- the String at a is Latin-1 over a new byte[] (the heap's one new cell): the low bytes of the len chars of A from o on; every cell but a is kept -/
def Got (a : Addr) (D : Cell) (fV fC : Field) (A : Cell) (o len : Nat) (r : Option Value) (s u : State) : Prop := r = none ∧ ∃ D' V : Cell, Blank "java/lang/String" a D' u ∧ Same D D' [fV.slot, fC.slot] ∧ D'.slots[fV.slot]? = some (.ref s.heap.size) ∧ D'.slots[fC.slot]? = some (.int 0) ∧ Arr .byte s.heap.size V u ∧ V.vm = .none ∧ u.vm.findClass "[B" = some V.cls ∧ V.slots.size = len ∧ (∀ j, j < len → V.slots[j]? = some (.int (lo8 (cv A (o + j))))) ∧ (∀ (y : Addr) (c : Cell), y ≠ a → s.heap[y]? = some c → u.heap[y]? = some c) ∧ u.heap.size = s.heap.size + 1
theorem Got.mv {a : Addr} {D A : Cell} {fV fC : Field} {o len : Nat} : ∀ r (U U' V V' : State), U'.heap = U.heap → V.vm.Alike V'.vm → V'.heap = V.heap → Got a D fV fC A o len r U V → Got a D fV fC A o len r U' V' :=
  fun r U U' V V' h1 hal h2 ⟨e0, D', X, a1, a2, a3, a4, a5, a6, a7, a8, a9, a10, a11⟩ => ⟨e0, D', X, a1.mv hal h2, a2, by rw [h1]; exact a3, a4, by rw [h1]; exact a5.mv hal h2, a6, by rw [hal.findClass]; exact a7, a8, a9, by rw [h1, h2]; exact a10, by rw [h1, h2]; exact a11⟩
namespace New4
def yN : MethodName := ⟨"java/lang/String", "<init>", "([CIILjava/lang/Void;)V"⟩
abbrev yB : ByteArray := jdk_42_method_149_code
theorem d0 : decode yB 0 = .ok (.aload_n 0, 1) := by decide +kernel
theorem d1 : decode yB 1 = .ok (.invokespecial 1, 3) := by decide +kernel
theorem d4 : decode yB 4 = .ok (.iload_n 3, 1) := by decide +kernel
theorem d5 : decode yB 5 = .ok (.ifCond (.ne) 22, 3) := by decide +kernel
theorem d27 : decode yB 27 = .ok (.getstatic 38, 3) := by decide +kernel
theorem d30 : decode yB 30 = .ok (.ifCond (.eq) 28, 3) := by decide +kernel
theorem d33 : decode yB 33 = .ok (.aload_n 1, 1) := by decide +kernel
theorem d34 : decode yB 34 = .ok (.iload_n 2, 1) := by decide +kernel
theorem d35 : decode yB 35 = .ok (.iload_n 3, 1) := by decide +kernel
theorem d36 : decode yB 36 = .ok (.invokestatic 177, 3) := by decide +kernel
theorem d39 : decode yB 39 = .ok (.astore 5, 2) := by decide +kernel
theorem d41 : decode yB 41 = .ok (.aload_n 0, 1) := by decide +kernel
theorem d42 : decode yB 42 = .ok (.aload 5, 2) := by decide +kernel
theorem d44 : decode yB 44 = .ok (.iload_n 3, 1) := by decide +kernel
theorem d45 : decode yB 45 = .ok (.invokestatic 47, 3) := by decide +kernel
theorem d48 : decode yB 48 = .ok (.putfield 15, 3) := by decide +kernel
theorem d51 : decode yB 51 = .ok (.aload_n 0, 1) := by decide +kernel
theorem d52 : decode yB 52 = .ok (.aload 5, 2) := by decide +kernel
theorem d54 : decode yB 54 = .ok (.putfield 9, 3) := by decide +kernel
theorem d57 : decode yB 57 = .ok (.return_, 1) := by decide +kernel
def site : List Cond := [.fieldLink "java/lang/String" 38 "java/lang/String" "COMPACT_STRINGS" "Z", Cmp3.tab, CodL.tab, .laysFinal "java/lang/String" "java/lang/String" "value" "[B", .fieldLink "java/lang/String" 9 "java/lang/String" "value" "[B", .laysFinal "java/lang/String" "java/lang/String" "coder" "B", .fieldLink "java/lang/String" 15 "java/lang/String" "coder" "B"] ++ objW "java/lang/String" 1 ++ staticW "java/lang/String" 177 Cmp3.yN ++ staticW "java/lang/String" 47 CodL.yN
def tab : Cond := tabOf yN yB 6 none site
def P (a : Addr) (D : Cell) (fV fC : Field) (b : Addr) (A : Cell) (z : Int32) (o len : Nat) (args : Array Value) (s : State) : Prop := args = #[.ref a, .ref b, .int (Int32.ofNat o), .int (Int32.ofNat len), .null] ∧ Blank "java/lang/String" a D s ∧ Found "java/lang/String" "value" "[B" fV s ∧ Found "java/lang/String" "coder" "B" fC s ∧ Ch b A s ∧ StaticIs s "java/lang/String" "COMPACT_STRINGS" "Z" (.int z) ∧ ¬ z = 0 ∧ 0 < len ∧ o + len ≤ A.slots.size ∧ len ≤ 536870912 ∧ ∀ i, i < len → ¬ 255 < cv A (o + i)
def E (a : Addr) (D : Cell) (fV fC : Field) (A : Cell) (o len : Nat) (r : Option Value) (s u : State) : Prop := Got a D fV fC A o len r s u
/-- len > 0, no char of the range above 255: a Latin-1 String of their low bytes -/
theorem law (l : Launch) (a : Addr) (D : Cell) (fV fC : Field) (b : Addr) (A : Cell) (z : Int32) (o len : Nat) : Law l yN 5 4 2 35 yB 6 none site (P a D fV fC b A z o len) (E a D fV fC A o len) [⟨a, fC.slot⟩, ⟨a, fV.slot⟩] 1 len := by
  refine Law.of_walk (plainFor_of_name (by decide +kernel)) (by decide +kernel) (by decide +kernel) (by decide) (fun _ _ h => by rw [h.1]; rfl) (fun _ U U' hal hh h => ⟨h.1, h.2.1.mv hal hh, h.2.2.1.al hal, h.2.2.2.1.al hal, h.2.2.2.2.1.mv hal hh, h.2.2.2.2.2.1.there hal hh, h.2.2.2.2.2.2⟩) (fun r U U' V V' h1 hal h2 h => Got.mv r U U' V V' h1 hal h2 h) ?_
  intro p e s m args below meth c s₁ X0 hexec hbytes hml hret hlk hnm hown hh0 W hP
  obtain ⟨rfl, hB, f1, f2, hA, s1, hz, l0, l1, l2, hp⟩ := hP
  have a31 := hA.1.2.2.2
  have c1 : Steps p.tables e below (s₁.setTop (entryFrame m #[.ref a, .ref b, .int (Int32.ofNat o), .int (Int32.ofNat len), .null] 6)) (s₁.setTop (mkF m 0 #[.val (.ref a), .val (.ref b), .val (.int (Int32.ofNat o)), .val (.int (Int32.ofNat len)), .val .null, .unset] [])) := entry rfl
  have c2 : Steps p.tables e below (s₁.setTop (entryFrame m #[.ref a, .ref b, .int (Int32.ofNat o), .int (Int32.ofNat len), .null] 6)) (s₁.setTop (mkF m 1 #[.val (.ref a), .val (.ref b), .val (.int (Int32.ofNat o)), .val (.int (Int32.ofNat len)), .val .null, .unset] [.ref a])) := c1.trans (by
    refine XS.aloadN X0.here hexec rfl (hb hbytes d0) rfl rfl ?_
    exact Steps.refl _)
  obtain ⟨T3, X3, q3, st3⟩ := X0.oinit hexec hown (wks W (objW "java/lang/String" 1)) (g := (mkF m 1 #[.val (.ref a), .val (.ref b), .val (.int (Int32.ofNat o)), .val (.int (Int32.ofNat len)), .val .null, .unset] [.ref a])) rfl (by rw [hml]; rfl) (rest := []) rfl (hb hbytes d1) (W := 0) (by show 2 * 0 + 0 ≤ _; decide) (Nat.le_of_ble_eq_true rfl) (Nat.le_of_ble_eq_true rfl)
  have hh3 := q3.trans hh0
  have c4 : Steps p.tables e below (s₁.setTop (entryFrame m #[.ref a, .ref b, .int (Int32.ofNat o), .int (Int32.ofNat len), .null] 6)) (T3.setTop (mkF m 27 #[.val (.ref a), .val (.ref b), .val (.int (Int32.ofNat o)), .val (.int (Int32.ofNat len)), .val .null, .unset] [])) := (c2.trans (st3 _ (Steps.refl _))).trans (by
    refine XS.iloadN X3.here hexec rfl (hb hbytes d4) rfl ?_
    refine XS.ifYes X3.here hexec rfl (pc0 := 5) rfl (hb hbytes d5) rfl (i0_ne_t (nz32 (by omega) l0)) (by decide) rfl ?_
    exact Steps.refl _)
  obtain ⟨T5, X5, q5, st5⟩ := X3.sget hexec hown (wk W (.fieldLink "java/lang/String" 38 "java/lang/String" "COMPACT_STRINGS" "Z")) s1 (fun _ _ h => by rw [hh3]; exact h) (g := (mkF m 27 #[.val (.ref a), .val (.ref b), .val (.int (Int32.ofNat o)), .val (.int (Int32.ofNat len)), .val .null, .unset] [])) rfl (hb hbytes d27)
  have hh5 := q5.trans hh3
  have c6 : Steps p.tables e below (s₁.setTop (entryFrame m #[.ref a, .ref b, .int (Int32.ofNat o), .int (Int32.ofNat len), .null] 6)) (T5.setTop (mkF m 30 #[.val (.ref a), .val (.ref b), .val (.int (Int32.ofNat o)), .val (.int (Int32.ofNat len)), .val .null, .unset] [.int z])) := c4.trans (st5 _ (Steps.refl _))
  have c7 : Steps p.tables e below (s₁.setTop (entryFrame m #[.ref a, .ref b, .int (Int32.ofNat o), .int (Int32.ofNat len), .null] 6)) (T5.setTop (mkF m 36 #[.val (.ref a), .val (.ref b), .val (.int (Int32.ofNat o)), .val (.int (Int32.ofNat len)), .val .null, .unset] [.int (Int32.ofNat len), .int (Int32.ofNat o), .ref b])) := c6.trans (by
    refine XS.ifNo X5.here hexec rfl (hb hbytes d30) rfl (i0_eq_f hz) ?_
    refine XS.aloadN X5.here hexec rfl (hb hbytes d33) rfl rfl ?_
    refine XS.iloadN X5.here hexec rfl (hb hbytes d34) rfl ?_
    refine XS.iloadN X5.here hexec rfl (hb hbytes d35) rfl ?_
    exact Steps.refl _)
  obtain ⟨v8, T8, X8, E8, g8⟩ := X5.callS hexec (Cmp3.law l b A o len) hown (wks W (staticW "java/lang/String" 177 Cmp3.yN)) (wk W Cmp3.tab) (W := 0) (Nat.le_of_ble_eq_true rfl) (Nat.le_of_ble_eq_true rfl) (Nat.le_refl _) (by show 0 + len ≤ len; omega) (g := (mkF m 36 #[.val (.ref a), .val (.ref b), .val (.int (Int32.ofNat o)), .val (.int (Int32.ofNat len)), .val .null, .unset] [.int (Int32.ofNat len), .int (Int32.ofNat o), .ref b])) rfl (by rw [hml]; rfl) c7 (argsL := [.ref b, .int (Int32.ofNat o), .int (Int32.ofNat len)]) (rest := []) rfl rfl (by show 2 * 0 + 0 ≤ _; decide) (hb hbytes d36) (⟨rfl, hA.mv X5.warmed.alike hh5, l1, l2, hp⟩)
  obtain ⟨e8, z8⟩ := E8
  obtain ⟨rfl, N, n1, n2, n3, n4, n5, n6⟩ := NewArr.mv _ T5 s _ _ hh5.symm (Vm.Alike.refl _) rfl e8
  rw [hh5] at z8
  have hB1 := hB.keep X8.warmed.alike (n6 _ _ hB.1)
  have hne : s.heap.size ≠ a := (Nat.ne_of_lt (Array.getElem?_eq_some_iff.mp hB.1).1).symm
  have c9 : Steps p.tables e below (s₁.setTop (entryFrame m #[.ref a, .ref b, .int (Int32.ofNat o), .int (Int32.ofNat len), .null] 6)) (T8.setTop (mkF m 39 #[.val (.ref a), .val (.ref b), .val (.int (Int32.ofNat o)), .val (.int (Int32.ofNat len)), .val .null, .unset] [.ref s.heap.size])) := g8
  have c10 : Steps p.tables e below (s₁.setTop (entryFrame m #[.ref a, .ref b, .int (Int32.ofNat o), .int (Int32.ofNat len), .null] 6)) (T8.setTop (mkF m 45 #[.val (.ref a), .val (.ref b), .val (.int (Int32.ofNat o)), .val (.int (Int32.ofNat len)), .val .null, .val (.ref s.heap.size)] [.int (Int32.ofNat N.slots.size), .ref s.heap.size, .ref a])) := by
    have hc : Steps p.tables e below (s₁.setTop (entryFrame m #[.ref a, .ref b, .int (Int32.ofNat o), .int (Int32.ofNat len), .null] 6)) (T8.setTop (mkF m 45 #[.val (.ref a), .val (.ref b), .val (.int (Int32.ofNat o)), .val (.int (Int32.ofNat len)), .val .null, .val (.ref s.heap.size)] [.int (Int32.ofNat len), .ref s.heap.size, .ref a])) := c9.trans (by
      refine XS.astore X8.here hexec rfl (hb hbytes d39) rfl rfl rfl ?_
      refine XS.aloadN X8.here hexec rfl (hb hbytes d41) rfl rfl ?_
      refine XS.aload X8.here hexec rfl (hb hbytes d42) rfl rfl ?_
      refine XS.iloadN X8.here hexec rfl (hb hbytes d44) rfl ?_
      exact Steps.refl _)
    rw [n4]; exact hc
  obtain ⟨v11, T11, X11, E11, g11⟩ := X8.callS hexec (CodL.law l s.heap.size N) hown (wks W (staticW "java/lang/String" 47 CodL.yN)) (wk W CodL.tab) (W := 1) (Nat.le_of_ble_eq_true rfl) (Nat.le_of_ble_eq_true rfl) (Nat.le_refl _) (by show 0 + len + 0 ≤ len; omega) (g := (mkF m 45 #[.val (.ref a), .val (.ref b), .val (.int (Int32.ofNat o)), .val (.int (Int32.ofNat len)), .val .null, .val (.ref s.heap.size)] [.int (Int32.ofNat N.slots.size), .ref s.heap.size, .ref a])) rfl (by rw [hml]; rfl) c10 (argsL := [.ref s.heap.size, .int (Int32.ofNat N.slots.size)]) (rest := [.ref a]) rfl rfl (by show 2 * 0 + (1 + 0) ≤ _; decide) (hb hbytes d45) (⟨rfl, n1⟩)
  obtain ⟨rfl, q11⟩ := E11
  have hB11 := hB1.mv (X8.warmed.alike.symm.trans X11.warmed.alike) q11
  have c12 : Steps p.tables e below (s₁.setTop (entryFrame m #[.ref a, .ref b, .int (Int32.ofNat o), .int (Int32.ofNat len), .null] 6)) (T11.setTop (mkF m 48 #[.val (.ref a), .val (.ref b), .val (.int (Int32.ofNat o)), .val (.int (Int32.ofNat len)), .val .null, .val (.ref s.heap.size)] [.int 0, .ref a])) := g11
  obtain ⟨T13, X13, p13, bl13, sl13, st13⟩ := X11.finit hexec hown (wk W (.fieldLink "java/lang/String" 15 "java/lang/String" "coder" "B")) (Or.inr ⟨_, (wk W (.laysFinal "java/lang/String" "java/lang/String" "coder" "B"))⟩) (Or.inl ⟨rfl, hnm⟩) f2 (Or.inl rfl) hB11 (t := .byte) (by decide +kernel) rfl (g := (mkF m 48 #[.val (.ref a), .val (.ref b), .val (.int (Int32.ofNat o)), .val (.int (Int32.ofNat len)), .val .null, .val (.ref s.heap.size)] [.int 0, .ref a])) rfl (rest := []) rfl (hb hbytes d48)
  have c14 : Steps p.tables e below (s₁.setTop (entryFrame m #[.ref a, .ref b, .int (Int32.ofNat o), .int (Int32.ofNat len), .null] 6)) (T13.setTop (mkF m 54 #[.val (.ref a), .val (.ref b), .val (.int (Int32.ofNat o)), .val (.int (Int32.ofNat len)), .val .null, .val (.ref s.heap.size)] [.ref s.heap.size, .ref a])) := (c12.trans (st13 _ (Steps.refl _))).trans (by
    refine XS.aloadN X13.here hexec rfl (hb hbytes d51) rfl rfl ?_
    refine XS.aload X13.here hexec rfl (hb hbytes d52) rfl rfl ?_
    exact Steps.refl _)
  obtain ⟨T15, X15, p15, bl15, sl15, st15⟩ := X13.finit hexec hown (wk W (.fieldLink "java/lang/String" 9 "java/lang/String" "value" "[B")) (Or.inr ⟨_, (wk W (.laysFinal "java/lang/String" "java/lang/String" "value" "[B"))⟩) (Or.inl ⟨rfl, hnm⟩) f1 (Or.inl rfl) bl13 (t := (.array .byte)) (by decide +kernel) rfl (g := (mkF m 54 #[.val (.ref a), .val (.ref b), .val (.int (Int32.ofNat o)), .val (.int (Int32.ofNat len)), .val .null, .val (.ref s.heap.size)] [.ref s.heap.size, .ref a])) rfl (rest := []) rfl (hb hbytes d54)
  have c16 : Steps p.tables e below (s₁.setTop (entryFrame m #[.ref a, .ref b, .int (Int32.ofNat o), .int (Int32.ofNat len), .null] 6)) (T15.setTop (mkF m 57 #[.val (.ref a), .val (.ref b), .val (.int (Int32.ofNat o)), .val (.int (Int32.ofNat len)), .val .null, .val (.ref s.heap.size)] [])) := c14.trans (st15 _ (Steps.refl _))
  have ap := apart (Or.inr ⟨_, (wk W (.laysFinal "java/lang/String" "java/lang/String" "value" "[B"))⟩) (Or.inr ⟨_, (wk W (.laysFinal "java/lang/String" "java/lang/String" "coder" "B"))⟩) f1 f2 (t₁ := .array .byte) (t₂ := .byte) (by decide +kernel) (by decide +kernel) (by decide)
  have al := X8.warmed.alike.symm.trans X15.warmed.alike
  have n7 : T11.heap[s.heap.size]? = some N := by rw [q11]; exact n1.1
  exact ⟨T15, none, _, _, _, X15, by simp, rfl, by omega, (fun _ => rfl), ⟨rfl, _, N, bl15, ((Same.refl D _).set _ (by simp)).set _ (by simp), sl15, (Cell.slots_setSlot_ne _ ap).trans sl13, n1.keep al (p15.other hne (p13.other hne n7)), n2, by rw [al.findClass]; exact n3, n4, n5, fun y c h1 h2 => p15.other h1 (p13.other h1 (by rw [q11]; exact n6 y c h2)), by rw [p15.2.2, p13.2.2, q11]; exact z8⟩, fun fs hl => c16.trans (X15.returnOut hexec hret (hb hbytes d57) hl)⟩
end New4
namespace New1
def yN : MethodName := ⟨"java/lang/String", "<init>", "([C)V"⟩
abbrev yB : ByteArray := jdk_42_method_3_code
theorem d0 : decode yB 0 = .ok (.aload_n 0, 1) := by decide +kernel
theorem d1 : decode yB 1 = .ok (.aload_n 1, 1) := by decide +kernel
theorem d2 : decode yB 2 = .ok (.iconst 0, 1) := by decide +kernel
theorem d3 : decode yB 3 = .ok (.aload_n 1, 1) := by decide +kernel
theorem d4 : decode yB 4 = .ok (.arraylength, 1) := by decide +kernel
theorem d5 : decode yB 5 = .ok (.aconst_null, 1) := by decide +kernel
theorem d6 : decode yB 6 = .ok (.invokespecial 27, 3) := by decide +kernel
theorem d9 : decode yB 9 = .ok (.return_, 1) := by decide +kernel
def site : List Cond := [New4.tab] ++ initW "java/lang/String" 27 New4.yN
def tab : Cond := tabOf yN yB 2 none site
def P (a : Addr) (D : Cell) (fV fC : Field) (b : Addr) (A : Cell) (z : Int32) (args : Array Value) (s : State) : Prop := args = #[.ref a, .ref b] ∧ Blank "java/lang/String" a D s ∧ Found "java/lang/String" "value" "[B" fV s ∧ Found "java/lang/String" "coder" "B" fC s ∧ Ch b A s ∧ StaticIs s "java/lang/String" "COMPACT_STRINGS" "Z" (.int z) ∧ ¬ z = 0 ∧ 0 < A.slots.size ∧ A.slots.size ≤ 536870912 ∧ ∀ i, i < A.slots.size → ¬ 255 < cv A i
def E (a : Addr) (D : Cell) (fV fC : Field) (A : Cell) (r : Option Value) (s u : State) : Prop := Got a D fV fC A 0 A.slots.size r s u
/-- new String(chars), not empty, no char above 255: a Latin-1 String of their low bytes -/
theorem law (l : Launch) (a : Addr) (D : Cell) (fV fC : Field) (b : Addr) (A : Cell) (z : Int32) : Law l yN 2 1 3 52 yB 2 none site (P a D fV fC b A z) (E a D fV fC A) [⟨a, fC.slot⟩, ⟨a, fV.slot⟩] 1 A.slots.size := by
  refine Law.of_walk (plainFor_of_name (by decide +kernel)) (by decide +kernel) (by decide +kernel) (by decide) (fun _ _ h => by rw [h.1]; rfl) (fun _ U U' hal hh h => ⟨h.1, h.2.1.mv hal hh, h.2.2.1.al hal, h.2.2.2.1.al hal, h.2.2.2.2.1.mv hal hh, h.2.2.2.2.2.1.there hal hh, h.2.2.2.2.2.2⟩) (fun r U U' V V' h1 hal h2 h => Got.mv r U U' V V' h1 hal h2 h) ?_
  intro p e s m args below meth c s₁ X0 hexec hbytes hml hret hlk hnm hown hh0 W hP
  obtain ⟨rfl, hB, f1, f2, hA, s1, hz, l0, l2, hp⟩ := hP
  have c1 : Steps p.tables e below (s₁.setTop (entryFrame m #[.ref a, .ref b] 2)) (s₁.setTop (mkF m 0 #[.val (.ref a), .val (.ref b)] [])) := entry rfl
  have c2 : Steps p.tables e below (s₁.setTop (entryFrame m #[.ref a, .ref b] 2)) (s₁.setTop (mkF m 6 #[.val (.ref a), .val (.ref b)] [.null, .int (Int32.ofNat A.slots.size), .int 0, .ref b, .ref a])) := c1.trans (by
    refine XS.aloadN X0.here hexec rfl (hb hbytes d0) rfl rfl ?_
    refine XS.aloadN X0.here hexec rfl (hb hbytes d1) rfl rfl ?_
    refine iconstV X0.here hexec rfl 0 (hb hbytes d2) (by decide) ?_
    refine XS.aloadN X0.here hexec rfl (hb hbytes d3) rfl rfl ?_
    refine X0.alen hexec (hA.1.mv X0.warmed.alike hh0) rfl rfl (hb hbytes d4) ?_
    refine XS.aconstNull X0.here hexec rfl (hb hbytes d5) ?_
    exact Steps.refl _)
  obtain ⟨v3, T3, X3, E3, g3⟩ := X0.callN hexec (New4.law l a D fV fC b A z 0 A.slots.size) rfl hown (wks W (initW "java/lang/String" 27 New4.yN)) (W New4.tab (by simp only [site, List.mem_cons, List.mem_append, true_or, or_true])) (W := 0) (Nat.le_of_ble_eq_true rfl) (Nat.le_of_ble_eq_true rfl) (Nat.le_refl _) (by show 0 + A.slots.size ≤ A.slots.size; omega) (g := (mkF m 6 #[.val (.ref a), .val (.ref b)] [.null, .int (Int32.ofNat A.slots.size), .int (Int32.ofNat 0), .ref b, .ref a])) rfl (by rw [hml]; rfl) c2 (argsL := [.ref b, .int (Int32.ofNat 0), .int (Int32.ofNat A.slots.size), .null]) (rest := []) rfl rfl (by show 2 * 0 + 0 ≤ _; decide) (hb hbytes d6) (⟨rfl, hB.mv X0.warmed.alike hh0, f1.al X0.warmed.alike, f2.al X0.warmed.alike, hA.mv X0.warmed.alike hh0, s1.there X0.warmed.alike hh0, hz, l0, by omega, l2, fun i hi => by rw [Nat.zero_add]; exact hp i hi⟩)
  have e0 := Got.mv _ s₁ s _ _ hh0.symm (Vm.Alike.refl _) rfl E3
  obtain rfl := e0.1
  have c4 : Steps p.tables e below (s₁.setTop (entryFrame m #[.ref a, .ref b] 2)) (T3.setTop (mkF m 9 #[.val (.ref a), .val (.ref b)] [])) := g3
  exact ⟨T3, none, _, _, _, X3, by simp, rfl, by omega, (fun _ => rfl), e0, fun fs hl => c4.trans (X3.returnOut hexec hret (hb hbytes d9) hl)⟩
theorem pays {l : Launch} {R : Room} {p : Program} {e : Env} {below : List Frame} {s : State} {sargs : Array Value} {len W : Nat} (a : Addr) (D : Cell) (fV fC : Field) (b : Addr) (A : Cell) (z : Int32) (htab : tab.before sargs s = true) (hfr : 4 ≤ R.frames) (hlo : W + 65 ≤ R.locals) :
    Back l R p e below s sargs yN len W (fun A₁ a₁ => A₁.cells + 1 ≤ R.cells ∧ A₁.slots + A.slots.size ≤ R.slots ∧ P a D fV fC b A z a₁ A₁.U) (fun A₁ _ v₁ B₁ => E a D fV fC A v₁ A₁.U B₁.U ∧ B₁.locs = A₁.locs ++ [⟨a, fC.slot⟩, ⟨a, fV.slot⟩] ∧ B₁.cells = A₁.cells + 1 ∧ B₁.slots = A₁.slots + A.slots.size) :=
  (law l a D fV fC b A z).pays htab hfr (by omega)
end New1
end StrChars
namespace StrChars.Road
open Jvm Sem ClassFile Op Lib Jvm.Stand Jvm.Free Jvm.Free.XT
open Jvm.Lib.Cold (StaticIs)
abbrev ST : String := "java/lang/String"
/-- every table word that New1's law asks, flat -/
abbrev words : List Jvm.Cond := [.code New1.yN New1.yB 2 none, .initialized ST, .methodLink ST 27 New4.yN, .instanceMethod New4.yN,
  .code New4.yN New4.yB 6 none, .fieldLink ST 38 ST "COMPACT_STRINGS" "Z", .laysFinal ST ST "value" "[B", .fieldLink ST 9 ST "value" "[B", .laysFinal ST ST "coder" "B", .fieldLink ST 15 ST "coder" "B",
  .methodLink ST 1 Lib.objectInit, .instanceMethod Lib.objectInit, .code Lib.objectInit ⟨#[0xb1]⟩ 1 none, .methodLink ST 177 Cmp3.yN, .static Cmp3.yN, .methodLink ST 47 CodL.yN, .static CodL.yN,
  .code Cmp3.yN Cmp3.yB 6 (some (.array .byte)), .initialized U16, .arrayClass .byte, .methodLink U16 115 Cmp5.yN, .static Cmp5.yN, .code Cmp5.yN Cmp5.yB 7 (some .int), .code CodL.yN CodL.yB 2 (some .byte)]
theorem tab_of {a : Array Value} {s : State} (h : ∀ w ∈ words, w.before a s = true) : New1.tab.before a s = true := by
  have h5 : Cmp5.tab.before a s = true := unparts (wk h (.code Cmp5.yN Cmp5.yB 7 (some .int))) (wks h (.initialized Cmp5.yN.cls :: Cmp5.site))
  have hc : CodL.tab.before a s = true := unparts (wk h (.code CodL.yN CodL.yB 2 (some .byte))) (wks h (.initialized CodL.yN.cls :: CodL.site))
  have q5 : ∀ w ∈ Cmp5.tab :: words, w.before a s = true := fun w hw => (List.mem_cons.mp hw).elim (fun e => e ▸ h5) (h w)
  have h3 : Cmp3.tab.before a s = true := unparts (wk q5 (.code Cmp3.yN Cmp3.yB 6 (some (.array .byte)))) (wks q5 (.initialized Cmp3.yN.cls :: Cmp3.site))
  have q3 : ∀ w ∈ Cmp3.tab :: CodL.tab :: words, w.before a s = true := fun w hw => (List.mem_cons.mp hw).elim (fun e => e ▸ h3) fun hw => (List.mem_cons.mp hw).elim (fun e => e ▸ hc) (h w)
  have h4 : New4.tab.before a s = true := unparts (wk q3 (.code New4.yN New4.yB 6 none)) (wks q3 (.initialized New4.yN.cls :: New4.site))
  have q4 : ∀ w ∈ New4.tab :: words, w.before a s = true := fun w hw => (List.mem_cons.mp hw).elim (fun e => e ▸ h4) (h w)
  exact unparts (wk q4 (.code New1.yN New1.yB 2 none)) (wks q4 (.initialized New1.yN.cls :: New1.site))
/-- the words ride from the start Z to the walk's own state -/
theorem moved {Z s : State} {a0 args : Array Value} (hZ : Z.Warmed39 s.vm) (hw : ∀ d ∈ words, d.before a0 Z = true) : ∀ d ∈ words, d.before args s = true := fun d hd => by
  have q := hw d hd
  have t : ∀ d ∈ words, d = .arrayClass .byte ∨ (d.onTables && d.keepsFace) = true := by decide +kernel
  rcases t d hd with rfl | t
  · exact RoadKit.mvA hZ q
  · exact RoadKit.mv hZ q t
/-- WHAT COMES BACK, over the tables of the start Z: h the heap at the call, h' behind it -/
def Q (Z : State) (x : Addr) (A : Cell) (h : Heap) (v : Option Value) (h' : Heap) (L : List Loc) : Prop := v = none ∧ (∀ y ∈ L, y.base = x) ∧ RoadKit.Keep h h' [x] ∧ h'.size = h.size + 1 ∧ RoadKit.Exa Z h' x ST ∧ RoadKit.Fld Z h' x ST "value" "[B" (.ref h.size) ∧ RoadKit.Fld Z h' x ST "coder" "B" (.int 0) ∧
  (∃ V : Cell, RoadKit.Arr Z h' h.size V .byte ∧ V.vm = .none ∧ Z.vm.findClass "[B" = some V.cls ∧ V.slots.size = A.slots.size ∧ ∀ j, j < A.slots.size → V.slots[j]? = some (.int (lo8 (cv A j)))) ∧
  ∀ (O n d : String) (w : Value), RoadKit.Fld Z h x O n d w → RoadKit.slotOf Z O n d ≠ RoadKit.slotOf Z ST "value" "[B" → RoadKit.slotOf Z O n d ≠ RoadKit.slotOf Z ST "coder" "B" → RoadKit.Fld Z h' x O n d w
/-- **new String(chars) AT A CALL, IN THE ROAD'S FORM**: for specialBack behind newO: x the fresh String, b the char[] with the cell A -/
theorem back {p : Program} {l : Launch} {e : Env} {R : Room} {s : State} {args : Array Value} {below : List Frame} {len W : Nat} {Z : State} {a0 : Array Value} {h : Heap} (hZ : Z.Warmed39 s.vm) (hw : ∀ d ∈ words, d.before a0 Z = true) {kI : Nat} (wi : (Jvm.Cond.instantiable ST kI).before a0 Z = true)
    {x b : Addr} {A : Cell} {z : Int32} {v0 c0 : Value} (E : RoadKit.Exa Z h x ST) (V : RoadKit.Fld Z h x ST "value" "[B" v0) (C : RoadKit.Fld Z h x ST "coder" "B" c0) (K : RoadKit.Arr Z h b A .char) (hty : Typed .char A) (S : RoadKit.Sta Z h ST "COMPACT_STRINGS" "Z" (.int z)) (hz : ¬ z = 0)
    (l0 : 0 < A.slots.size) (l2 : A.slots.size ≤ 536870912) (hp : ∀ i, i < A.slots.size → ¬ 255 < cv A i) (hfr : 4 ≤ R.frames) (hlo : W + 65 ≤ R.locals) :
    Back l R p e below s args New1.yN len W (fun P a => a = #[.ref x, .ref b] ∧ P.U.heap = h ∧ P.cells + 1 ≤ R.cells ∧ P.slots + A.slots.size ≤ R.slots)
      (fun P _ v B => ∃ L, Q Z x A h v B.U.heap L ∧ B.locs = P.locs ++ L ∧ B.cells = P.cells + 1 ∧ B.slots = P.slots + A.slots.size) := by
  intro m meth c P g ig mk a X hg hsize hdg hW hn hp'
  obtain ⟨rfl, rfl, r1, r2⟩ := hp'
  have al : Z.vm.Alike P.U.vm := hZ.alike.trans X.warmed.alike
  obtain ⟨D, cfV, kV, iV, fV, hD, gV, stV, knV, obV, asV, slV⟩ := id V
  obtain ⟨D', cfC, kC, iC, fC, hD', gC, stC, -, -, asC, slC⟩ := id C
  cases hD.symm.trans hD'
  obtain ⟨D2, kD, e1, e2, e3, e4, e5⟩ := id E
  cases hD.symm.trans e1
  obtain ⟨c2, k2, i1, i2, i3, -⟩ := Cond.instantiable_spec wi
  cases e2.symm.trans i1
  cases e3.symm.trans i2
  obtain ⟨kU, u1, u2⟩ := al.2.2 _ _ e3
  have hB : Blank ST x D P.U := ⟨hD, ⟨knV, fun q hq => by rw [hq] at obV; cases obV⟩, by rw [al.findClass]; exact e2, kU, u1, by rw [u2]; exact i3, by rw [u2]; exact e5 i3⟩
  have F1 : Found ST "value" "[B" fV P.U := ⟨SBG.found_only al ⟨cfV, kV, iV, gV⟩, stV⟩
  have F2 : Found ST "coder" "B" fC P.U := ⟨SBG.found_only al ⟨cfC, kC, iC, gC⟩, stC⟩
  have hA : Ch b A P.U := ⟨⟨K.1, State.isArrayOf_alike al K.2.1, K.2.2, by omega⟩, hty⟩
  have hS : StaticIs P.U ST "COMPACT_STRINGS" "Z" (.int z) := by
    obtain ⟨cfS, iS, kS, fS, st, cS, t1, t2, t3, t4, t5, t6, t7⟩ := S
    exact StaticIs.there (s := { Z with heap := P.U.heap }) ⟨cfS, iS, kS, fS, st, cS, t1, t2, t3, t4, t5, (fun q => by rw [q] at t6; cases t6), t7⟩ al rfl
  obtain ⟨v, B, X', ⟨⟨hv, E', V', q1, q2, q3, q4, q5, q6, q7, q8, q9, q10, q11⟩, hl, hc, hs⟩, st⟩ := New1.pays x D fV fC b A z (tab_of (moved hZ hw)) hfr hlo m meth c P g ig mk _ X hg hsize hdg hW hn ⟨r1, r2, rfl, hB, F1, F2, hA, hS, hz, l0, l2, hp⟩
  have al' : Z.vm.Alike B.U.vm := hZ.alike.trans X'.warmed.alike
  have hsz : E'.slots.size = D.slots.size := by
    obtain ⟨-, -, -, kB, w1, w2, w3⟩ := q1
    obtain ⟨kB', y1, y2⟩ := al'.2.2 _ _ e3
    rw [q2.2.1] at w1
    cases w1.symm.trans y1
    rw [w3, e5 i3, y2]
  refine ⟨v, B, X', ⟨_, ⟨hv, ?_, ⟨by omega, fun y cy hy hn' => q10 y cy (by simpa using hn') hy, fun y cy hy => ?_⟩, q11, ⟨E', _, q1.1, by rw [q2.2.1]; exact e2, by rw [q2.2.1]; exact e3, by rw [q2.1]; exact obV, fun _ => by rw [hsz]; exact e5 i3⟩,
    ⟨E', cfV, kV, iV, fV, q1.1, gV, stV, by rw [q2.1]; exact knV, by rw [q2.1]; exact obV, by rw [q2.2.1]; exact asV, q3⟩, ⟨E', cfC, kC, iC, fC, q1.1, gC, stC, by rw [q2.1]; exact knV, by rw [q2.1]; exact obV, by rw [q2.2.1]; exact asC, q4⟩,
    ⟨V', ⟨q5.1, State.isArrayOf_alike al'.symm q5.2.1, q5.2.2.1⟩, q6, by rw [← al'.findClass]; exact q7, q8, fun j hj => by have := q9 j hj; rwa [Nat.zero_add] at this⟩, fun O n d w F n1 n2 => ?_⟩, hl, hc, hs⟩, st⟩
  · intro y hy
    simp only [List.mem_cons, List.not_mem_nil, or_false] at hy
    rcases hy with rfl | rfl <;> rfl
  · by_cases q : y = x
    · subst q
      cases hD.symm.trans hy
      exact ⟨E', q1.1, q2.2.1, q2.1, hsz⟩
    · exact ⟨cy, q10 y cy q hy, rfl, rfl, rfl⟩
  · obtain ⟨D3, cf, k, i, f, g1, g2, g3, g4, g5, g6, g7⟩ := F
    cases hD.symm.trans g1
    simp only [RoadKit.slotOf, g2, gV, gC, Option.map_some, Option.getD_some] at n1 n2
    exact ⟨E', cf, k, i, f, q1.1, g2, g3, by rw [q2.1]; exact g4, by rw [q2.1]; exact g5, by rw [q2.2.1]; exact g6, by rw [q2.2.2 f.slot (by simp [n1, n2])]; exact g7⟩
end StrChars.Road
namespace StrChars.Road
open Jvm Sem ClassFile Op Lib Jvm.Stand Jvm.Free Jvm.Free.XT
/-- WHAT COMES BACK, the byte[] as a list of values -/
def QA (Z : State) (x : Addr) (zn : Int32) (cs : List Int32) (h : Heap) (v : Option Value) (h' : Heap) (L : List Loc) : Prop := v = none ∧ (∀ y ∈ L, y.base = x) ∧ RoadKit.Keep h h' [x] ∧ h'.size = h.size + 1 ∧ RoadKit.Exa Z h' x ST ∧ RoadKit.Fld Z h' x ST "value" "[B" (.ref h.size) ∧ RoadKit.Fld Z h' x ST "coder" "B" (.int 0) ∧
  (∃ kb, Z.vm.findClass "[B" = some kb ∧ RoadKit.Arv Z h' h.size kb .byte zn (cs.map fun c => .int (lo8 c)) (.int 0)) ∧
  ∀ (O n d : String) (w : Value), RoadKit.Fld Z h x O n d w → RoadKit.slotOf Z O n d ≠ RoadKit.slotOf Z ST "value" "[B" → RoadKit.slotOf Z O n d ≠ RoadKit.slotOf Z ST "coder" "B" → RoadKit.Fld Z h' x O n d w
/-- **new String(chars) AT A CALL, THE ARRAYS AS LISTS**: the char[] at b holds cs, not empty, no char above 255 -/
theorem backArv {p : Program} {l : Launch} {e : Env} {R : Room} {s : State} {args : Array Value} {below : List Frame} {len W : Nat} {Z : State} {a0 : Array Value} {h : Heap} (hZ : Z.Warmed39 s.vm) (hw : ∀ d ∈ words, d.before a0 Z = true) {kI : Nat} (wi : (Jvm.Cond.instantiable ST kI).before a0 Z = true)
    {x b : Addr} {k : ClassId} {zn z : Int32} {cs : List Int32} {dv v0 c0 : Value} (E : RoadKit.Exa Z h x ST) (V : RoadKit.Fld Z h x ST "value" "[B" v0) (C : RoadKit.Fld Z h x ST "coder" "B" c0) (K : RoadKit.Arv Z h b k .char zn (cs.map Value.int) dv) (S : RoadKit.Sta Z h ST "COMPACT_STRINGS" "Z" (.int z)) (hz : ¬ z = 0)
    (hlen : zn.toNatClampNeg = cs.length) (h0 : 0 < cs.length) (hbig : cs.length ≤ 536870912) (hall : ∀ c ∈ cs, ¬ 255 < c) (hfr : 4 ≤ R.frames) (hlo : W + 65 ≤ R.locals) :
    Back l R p e below s args New1.yN len W (fun P a => a = #[.ref x, .ref b] ∧ P.U.heap = h ∧ P.cells + 1 ≤ R.cells ∧ P.slots + cs.length ≤ R.slots)
      (fun P _ v B => ∃ L, QA Z x zn cs h v B.U.heap L ∧ B.locs = P.locs ++ L ∧ B.cells = P.cells + 1 ∧ B.slots = P.slots + cs.length) := by
  obtain ⟨A, K1, K2, K3, K4, K5, K6⟩ := K
  have e : A.slots.size = cs.length := K3.trans hlen
  have hat : ∀ (i : Nat) (hi : i < cs.length), A.slots[i]? = some (.int cs[i]) := fun i hi => by rw [K5 i (by omega)]; simp [List.getD_eq_getElem?_getD, hi]
  have hcv : ∀ (i : Nat) (hi : i < cs.length), cv A i = cs[i] := fun i hi => by unfold cv; rw [hat i hi]
  have hty : Typed .char A := fun i v hv => by
    have hi : i < A.slots.size := (Array.getElem?_eq_some_iff.mp hv).1
    have q := K5 i hi
    rw [hv] at q
    rw [Option.some.inj q]
    exact K6 i hi
  refine Back.mono (back hZ hw wi E V C K1 hty S hz (by omega) (by omega) (fun i hi => by rw [hcv i (by omega)]; exact hall _ (List.getElem_mem _)) hfr hlo) (fun P a hp => ⟨hp.1, hp.2.1, hp.2.2.1, by rw [e]; exact hp.2.2.2⟩) (fun P a v B hp hq => ?_)
  obtain ⟨L, ⟨q1, q2, q3, q4, q5, q6, q7, ⟨V', v1, v2, v3, v4, v5⟩, q9⟩, hl, hc, hs⟩ := hq
  refine ⟨L, ⟨q1, q2, q3, q4, q5, q6, q7, ⟨V'.cls, v3, V', v1, rfl, by rw [v4, e, hlen], K4, fun i hi => ?_, fun i hi => ?_⟩, q9⟩, hl, hc, by rw [hs, e]⟩
  · have hi' : i < cs.length := by omega
    rw [v5 i (by omega), hcv i hi']; simp [List.getD_eq_getElem?_getD, hi']
  · have hi' : i < cs.length := by omega
    simp only [List.getD_eq_getElem?_getD, List.getElem?_map, List.getElem?_eq_getElem hi', Option.map_some, Option.getD_some]
    exact fits_lo8 _
end StrChars.Road
namespace StrChars.Road
open Jvm Sem ClassFile Op Lib Jvm.Stand Jvm.Free Jvm.Free.XT
/-- WHAT COMES BACK, in the writer's own shape -/
def QV (Z : State) (x : Addr) (N : Int32) (bs : List Int32) (h : Heap) (n0 : Nat) (v : Option Value) (h' : Heap) (L : List Loc) : Prop := v = none ∧ RoadKit.Fr n0 L ∧ RoadKit.Keep h h' [x] ∧ RoadKit.Exa Z h' x ST ∧ RoadKit.Fld Z h' x ST "coder" "B" (.int 0) ∧
  ∃ (t : Addr) (kb : ClassId), n0 ≤ t ∧ h.size ≤ t ∧ ¬ t = x ∧ RoadKit.Fld Z h' x ST "value" "[B" (.ref t) ∧ RoadKit.Arv Z h' t kb .byte N (bs.map Value.int) (.int 0)
/-- **new String(chars) AT A CALL, FOR THE WRITER**: a char[] of n known ints, each 0 to 255 -/
theorem backV {p : Program} {l : Launch} {e : Env} {R : Room} {s : State} {args : Array Value} {below : List Frame} {len W : Nat} {Z : State} {a0 : Array Value} {h : Heap} (hZ : Z.Warmed39 s.vm) (hw : ∀ d ∈ words, d.before a0 Z = true) {kI : Nat} (wi : (Jvm.Cond.instantiable ST kI).before a0 Z = true)
    {x b : Addr} {kC : ClassId} {cs bs : List Int32} {d v0 c0 : Value} {z N : Int32} {n n0 : Nat} (hx0 : n0 ≤ x) (hh0 : n0 ≤ h.size) (E : RoadKit.Exa Z h x ST) (V : RoadKit.Fld Z h x ST "value" "[B" v0) (C : RoadKit.Fld Z h x ST "coder" "B" c0) (K : RoadKit.Arv Z h b kC .char N (cs.map Value.int) d) (S : RoadKit.Sta Z h ST "COMPACT_STRINGS" "Z" (.int z)) (hz : ¬ z = 0)
    (hn : cs.length = n) (hN : N = Int32.ofNat n) (l0 : 0 < n) (l2 : n ≤ 4000) (hp : ∀ c ∈ cs, ¬ c < 0 ∧ ¬ (255 : Int32) < c) (hb : bs = cs.map (fun c => c.toInt8.toInt32)) (hfr : 4 ≤ R.frames) (hlo : W + 65 ≤ R.locals) :
    Back l R p e below s args (⟨"java/lang/String", "<init>", "([C)V"⟩ : MethodName) len W (fun P a => a = #[.ref x, .ref b] ∧ P.U.heap = h ∧ P.cells + 1 ≤ R.cells ∧ P.slots + n ≤ R.slots)
      (fun P _ v B => ∃ L, QV Z x N bs h n0 v B.U.heap L ∧ B.locs = P.locs ++ L ∧ B.cells = P.cells + 1 ∧ B.slots = P.slots + n) := by
  subst hn hN hb
  refine Back.mono (backArv hZ hw wi E V C K S hz (n32 (by omega)) l0 (by omega) (fun c hc => (hp c hc).2) hfr hlo) (fun P a hp => hp) (fun P a v B hp hq => ?_)
  obtain ⟨L, ⟨q1, q2, q3, q4, q5, q6, q7, ⟨kb, v1, v2⟩, q9⟩, hl, hc, hs⟩ := hq
  exact ⟨L, ⟨q1, fun y hy => by rw [q2 y hy]; exact hx0, q3, q5, q7, h.size, kb, hh0, Nat.le_refl _, Nat.ne_of_gt E.lt, q6, by rw [List.map_map]; exact v2⟩, hl, hc, hs⟩
end StrChars.Road
namespace StrChars
open Jvm Sem ClassFile Op Lib Jvm.Stand Jvm.Free.XT Jvm.Free.ALB Jvm.Free.JM Jvm.Free
open Jvm.Lib.Cold (StaticIs)
def hi8 (x : Int32) : Int32 := lo8 (x >>> ((8 : Int32) &&& 31))
theorem shr0 (c : Int32) : c >>> ((0 : Int32) &&& 31) = c := by
  have e : ((0 : Int32) &&& 31) = 0 := by decide
  rw [e]
  apply Int32.toBitVec_inj.mp
  rw [Int32.toBitVec_shiftRight]
  have e1 : ((0 : Int32).toBitVec.smod 32) = 0#32 := by decide
  rw [e1, BitVec.sshiftRight_eq']
  exact BitVec.sshiftRight_zero
end StrChars
namespace StrChars
open Jvm Sem ClassFile Op Lib Jvm.Stand Jvm.Free.XT Jvm.Free.ALB Jvm.Free.JM Jvm.Free
open Jvm.Lib.Cold (StaticIs)
theorem shr1 {n : Nat} (h : 2 * n < 2 ^ 31) : Int32.ofNat (2 * n) >>> ((1 : Int32) &&& 31) = Int32.ofNat n := by
  have e : ((1 : Int32) &&& 31) = 1 := by decide
  rw [e]
  apply Int32.toBitVec_inj.mp
  rw [Int32.toBitVec_shiftRight]
  have e1 : ((1 : Int32).toBitVec.smod 32) = 1#32 := by decide
  have hm : (BitVec.ofNat 32 (2 * n)).toNat = 2 * n := by rw [BitVec.toNat_ofNat, Nat.mod_eq_of_lt (by omega)]
  rw [e1, BitVec.sshiftRight_eq']
  apply BitVec.eq_of_toNat_eq
  show ((BitVec.ofNat 32 (2 * n)).sshiftRight 1).toNat = (BitVec.ofNat 32 n).toNat
  rw [BitVec.toNat_sshiftRight_of_msb_false (by rw [BitVec.msb_eq_false_iff_two_mul_lt, hm]; omega), hm, BitVec.toNat_ofNat, Nat.shiftRight_eq_div_pow]
  omega
/-- the array's cell V codes the n chars f 0 .. f (n - 1) by the coder cd, as the JDK does: coder 1 just where some char is above 255 -/
def Cod (cd : Int32) (n : Nat) (f : Nat → Int32) (V : Cell) : Prop := (cd = 0 ∧ V.slots.size = n ∧ ∀ j, j < n → V.slots[j]? = some (.int (lo8 (f j))) ∧ ¬ 255 < f j) ∨ (cd = 1 ∧ V.slots.size = 2 * n ∧ (∀ j, j < n → V.slots[2 * j]? = some (.int (lo8 (f j))) ∧ V.slots[2 * j + 1]? = some (.int (hi8 (f j)))) ∧ ∃ j, j < n ∧ 255 < f j)
theorem Cod.cd {cd : Int32} {n : Nat} {f : Nat → Int32} {V : Cell} (h : Cod cd n f V) : cd = 0 ∨ cd = 1 := h.imp (fun q => q.1) fun q => q.1
theorem Cod.len {cd : Int32} {n : Nat} {f : Nat → Int32} {V : Cell} (h : Cod cd n f V) (hs : V.slots.size < 2 ^ 31) : Int32.ofNat V.slots.size >>> (cd &&& 31) = Int32.ofNat n := by
  rcases h with ⟨rfl, h, -⟩ | ⟨rfl, h, -⟩
  · rw [shr0, h]
  · rw [h, shr1 (by omega)]
/-- **x is a String of the n chars f 0 .. f (n - 1)**, Latin-1 or UTF-16; its array at t has the cell V -/
def Txt (x t : Addr) (V : Cell) (cd : Int32) (n : Nat) (f : Nat → Int32) (U : State) : Prop := Exact "java/lang/String" x U ∧ Has x "java/lang/String" "value" "[B" (.ref t) U ∧ Has x "java/lang/String" "coder" "B" (.int cd) U ∧ XT.Arr .byte t V U ∧ Cod cd n f V ∧ ∀ j, j < n → ¬ f j < 0 ∧ ¬ 65535 < f j
theorem Txt.mv {x t : Addr} {V : Cell} {cd : Int32} {n : Nat} {f : Nat → Int32} {U U' : State} (h : Txt x t V cd n f U) (hal : U.vm.Alike U'.vm) (hh : U'.heap = U.heap) : Txt x t V cd n f U' := ⟨h.1.mv hal hh, h.2.1.mv hal hh, h.2.2.1.mv hal hh, h.2.2.2.1.mv hal hh, h.2.2.2.2⟩
namespace Cdr
def yN : MethodName := ⟨"java/lang/String", "coder", "()B"⟩
abbrev yB : ByteArray := jdk_42_method_152_code
theorem d0 : decode yB 0 = .ok (.getstatic 38, 3) := by decide +kernel
theorem d3 : decode yB 3 = .ok (.ifCond (.eq) 10, 3) := by decide +kernel
theorem d6 : decode yB 6 = .ok (.aload_n 0, 1) := by decide +kernel
theorem d7 : decode yB 7 = .ok (.getfield 15, 3) := by decide +kernel
theorem d10 : decode yB 10 = .ok (.goto 4, 3) := by decide +kernel
theorem d14 : decode yB 14 = .ok (.ireturn, 1) := by decide +kernel
def site : List Cond := [.fieldLink "java/lang/String" 38 "java/lang/String" "COMPACT_STRINGS" "Z", .fieldLink "java/lang/String" 15 "java/lang/String" "coder" "B"]
def tab : Cond := tabOf yN yB 1 (some .byte) site
def P (x : Addr) (cd z : Int32) (args : Array Value) (s : State) : Prop := args = #[.ref x] ∧ Has x "java/lang/String" "coder" "B" (.int cd) s ∧ (cd = 0 ∨ cd = 1) ∧ StaticIs s "java/lang/String" "COMPACT_STRINGS" "Z" (.int z) ∧ ¬ z = 0
def E (cd : Int32) (r : Option Value) (s u : State) : Prop := XT.PureE (some (.int cd)) r s u
theorem law (l : Launch) (x : Addr) (cd z : Int32) : Law l yN 1 0 0 0 yB 1 (some .byte) site (P x cd z) (E cd) [] 0 0 := by
  refine Law.of_walk (plainFor_of_name (by decide +kernel)) (by decide +kernel) (by decide +kernel) (by decide) (fun _ _ h => by rw [h.1]; rfl) (fun _ U U' hal hh h => ⟨h.1, h.2.1.mv hal hh, h.2.2.1, h.2.2.2.1.there hal hh, h.2.2.2.2⟩) (fun r U U' V V' h1 hal h2 h => XT.PureE.mv r U U' V V' h1 hal h2 h) ?_
  intro p e s m args below meth c s₁ X0 hexec hbytes hml hret hlk hnm hown hh0 W hP
  obtain ⟨rfl, hx, hc, s1, hz⟩ := hP
  have c1 : Steps p.tables e below (s₁.setTop (entryFrame m #[.ref x] 1)) (s₁.setTop (mkF m 0 #[.val (.ref x)] [])) := entry rfl
  obtain ⟨T2, X2, q2, st2⟩ := X0.sget hexec hown (wk W (.fieldLink "java/lang/String" 38 "java/lang/String" "COMPACT_STRINGS" "Z")) s1 (fun _ _ h => by rw [hh0]; exact h) (g := (mkF m 0 #[.val (.ref x)] [])) rfl (hb hbytes d0)
  have hh2 := q2.trans hh0
  have c3 : Steps p.tables e below (s₁.setTop (entryFrame m #[.ref x] 1)) (T2.setTop (mkF m 7 #[.val (.ref x)] [.ref x])) := (c1.trans (st2 _ (Steps.refl _))).trans (by
    refine XS.ifNo X2.here hexec rfl (hb hbytes d3) rfl (i0_eq_f hz) ?_
    refine XS.aloadN X2.here hexec rfl (hb hbytes d6) rfl rfl ?_
    exact Steps.refl _)
  obtain ⟨T4, X4, q4, st4⟩ := X2.hget hexec hown (wk W (.fieldLink "java/lang/String" 15 "java/lang/String" "coder" "B")) (hx.mv X2.warmed.alike hh2) (g := (mkF m 7 #[.val (.ref x)] [.ref x])) rfl (rest := []) rfl (hb hbytes d7)
  have c5 : Steps p.tables e below (s₁.setTop (entryFrame m #[.ref x] 1)) (T4.setTop (mkF m 14 #[.val (.ref x)] [.int cd])) := (c3.trans (st4 _ (Steps.refl _))).trans (by
    refine XS.goto X4.here hexec rfl (pc0 := 10) rfl (hb hbytes d10) (by decide) rfl ?_
    exact Steps.refl _)
  exact ⟨T4, some (.int cd), _, _, _, X4, rfl, rfl, rfl, (fun h => by cases h), ⟨rfl, q4.trans hh2⟩, fun fs hl => c5.trans (X4.ireturnOut hexec hret (by rcases hc with rfl | rfl <;> rfl) (Or.inr (Or.inr (Or.inl rfl))) (hb hbytes d14) hl)⟩
end Cdr
namespace Len
def yN : MethodName := ⟨"java/lang/String", "length", "()I"⟩
abbrev yB : ByteArray := jdk_42_method_54_code
theorem d0 : decode yB 0 = .ok (.aload_n 0, 1) := by decide +kernel
theorem d1 : decode yB 1 = .ok (.getfield 9, 3) := by decide +kernel
theorem d4 : decode yB 4 = .ok (.arraylength, 1) := by decide +kernel
theorem d5 : decode yB 5 = .ok (.aload_n 0, 1) := by decide +kernel
theorem d6 : decode yB 6 = .ok (.invokevirtual 335, 3) := by decide +kernel
theorem d9 : decode yB 9 = .ok (.ishr, 1) := by decide +kernel
theorem d10 : decode yB 10 = .ok (.ireturn, 1) := by decide +kernel
def site : List Cond := [.fieldLink "java/lang/String" 9 "java/lang/String" "value" "[B", Cdr.tab] ++ virtW "java/lang/String" 335 "java/lang/String" Cdr.yN Cdr.yN
def tab : Cond := tabOf yN yB 1 (some .int) site
def P (x t : Addr) (V : Cell) (cd : Int32) (n : Nat) (f : Nat → Int32) (z : Int32) (args : Array Value) (s : State) : Prop := args = #[.ref x] ∧ Txt x t V cd n f s ∧ StaticIs s "java/lang/String" "COMPACT_STRINGS" "Z" (.int z) ∧ ¬ z = 0
def E (n : Nat) (r : Option Value) (s u : State) : Prop := XT.PureE (some (.int (Int32.ofNat n))) r s u
/-- length() of a String of n chars, in either coding -/
theorem law (l : Launch) (x t : Addr) (V : Cell) (cd : Int32) (n : Nat) (f : Nat → Int32) (z : Int32) : Law l yN 1 0 1 13 yB 1 (some .int) site (P x t V cd n f z) (E n) [] 0 0 := by
  refine Law.of_walk (plainFor_of_name (by decide +kernel)) (by decide +kernel) (by decide +kernel) (by decide) (fun _ _ h => by rw [h.1]; rfl) (fun _ U U' hal hh h => ⟨h.1, h.2.1.mv hal hh, h.2.2.1.there hal hh, h.2.2.2⟩) (fun r U U' V V' h1 hal h2 h => XT.PureE.mv r U U' V V' h1 hal h2 h) ?_
  intro p e s m args below meth c s₁ X0 hexec hbytes hml hret hlk hnm hown hh0 W hP
  obtain ⟨rfl, hx, s1, hz⟩ := hP
  have v31 := hx.2.2.2.1.2.2.2
  have c1 : Steps p.tables e below (s₁.setTop (entryFrame m #[.ref x] 1)) (s₁.setTop (mkF m 1 #[.val (.ref x)] [.ref x])) := Steps.trans (entry rfl) (by
    show Steps p.tables e below (s₁.setTop (mkF m 0 #[.val (.ref x)] [])) _
    refine XS.aloadN X0.here hexec rfl (hb hbytes d0) rfl rfl ?_
    exact Steps.refl _)
  obtain ⟨T2, X2, q2, st2⟩ := X0.hget hexec hown (wk W (.fieldLink "java/lang/String" 9 "java/lang/String" "value" "[B")) (hx.mv X0.warmed.alike hh0).2.1 (g := (mkF m 1 #[.val (.ref x)] [.ref x])) rfl (rest := []) rfl (hb hbytes d1)
  have hh2 := q2.trans hh0
  have hx2 := hx.mv X2.warmed.alike hh2
  have c3 : Steps p.tables e below (s₁.setTop (entryFrame m #[.ref x] 1)) (T2.setTop (mkF m 6 #[.val (.ref x)] [.ref x, .int (Int32.ofNat V.slots.size)])) := (c1.trans (st2 _ (Steps.refl _))).trans (by
    refine X2.alen hexec hx2.2.2.2.1 rfl rfl (hb hbytes d4) ?_
    refine XS.aloadN X2.here hexec rfl (hb hbytes d5) rfl rfl ?_
    exact Steps.refl _)
  obtain ⟨v4, T4, X4, E4, g4⟩ := X2.callV hexec (Cdr.law l x cd z) hown (wks W (virtW "java/lang/String" 335 "java/lang/String" Cdr.yN Cdr.yN)) rfl (by decide) (wk W Cdr.tab) (W := 1) (Nat.le_of_ble_eq_true rfl) (Nat.le_of_ble_eq_true rfl) (Nat.le_refl _) (Nat.le_refl _) (hx2.1.fc X2.warmed.alike) hx2.1.is (g := (mkF m 6 #[.val (.ref x)] [.ref x, .int (Int32.ofNat V.slots.size)])) rfl (by rw [hml]; rfl) c3 (argsL := []) (rest := [.int (Int32.ofNat V.slots.size)]) rfl rfl (by show 2 * 0 + (1 + 0) ≤ _; decide) (hb hbytes d6) (⟨rfl, hx2.2.2.1, hx.2.2.2.2.1.cd, s1.there X2.warmed.alike hh2, hz⟩)
  obtain ⟨rfl, q4⟩ := E4
  have c5 : Steps p.tables e below (s₁.setTop (entryFrame m #[.ref x] 1)) (T4.setTop (mkF m 10 #[.val (.ref x)] [.int (Int32.ofNat V.slots.size >>> (cd &&& 31))])) := Steps.trans g4 (by
    refine ishr X4.here hexec rfl (hb hbytes d9) rfl ?_
    exact Steps.refl _)
  rw [hx.2.2.2.2.1.len v31] at c5
  exact ⟨T4, some (.int (Int32.ofNat n)), _, _, _, X4, rfl, rfl, rfl, (fun h => by cases h), ⟨rfl, q4.trans hh2⟩, fun fs hl => c5.trans (X4.ireturnOut hexec hret rfl (Or.inl rfl) (hb hbytes d10) hl)⟩
theorem pays {l : Launch} {R : Room} {p : Program} {e : Env} {below : List Frame} {s : State} {sargs : Array Value} {len W : Nat} (x t : Addr) (V : Cell) (cd : Int32) (n : Nat) (f : Nat → Int32) (z : Int32) (htab : tab.before sargs s = true) (hfr : 2 ≤ R.frames) (hlo : W + 25 ≤ R.locals) :
    Back l R p e below s sargs yN len W (fun A₁ a₁ => A₁.cells + 0 ≤ R.cells ∧ A₁.slots + 0 ≤ R.slots ∧ P x t V cd n f z a₁ A₁.U) (fun A₁ _ v₁ B₁ => E n v₁ A₁.U B₁.U ∧ B₁.locs = A₁.locs ++ [] ∧ B₁.cells = A₁.cells + 0 ∧ B₁.slots = A₁.slots + 0) :=
  (law l x t V cd n f z).pays htab hfr (by omega)
end Len
end StrChars
namespace StrChars.Road
open Jvm Sem ClassFile Op Lib Jvm.Stand Jvm.Free Jvm.Free.XT
open Jvm.Lib.Cold (StaticIs)
theorem consq {a : Array Value} {s : State} {c : Jvm.Cond} {L : List Jvm.Cond} (h0 : c.before a s = true) (h : ∀ w ∈ L, w.before a s = true) : ∀ w ∈ c :: L, w.before a s = true := fun w hw => (List.mem_cons.mp hw).elim (fun e => e ▸ h0) (h w)
/-- the words of String.length(), either coding -/
abbrev wordsLen : List Jvm.Cond := [.code Len.yN Len.yB 1 (some .int), .initialized ST, .fieldLink ST 9 ST "value" "[B", .fieldLink ST 38 ST "COMPACT_STRINGS" "Z", .fieldLink ST 15 ST "coder" "B", .code Cdr.yN Cdr.yB 1 (some .byte), .methodLink ST 335 Cdr.yN, .declares Cdr.yN, .selects ST Cdr.yN Cdr.yN, .instanceMethod Cdr.yN]
theorem tabLen_of {a : Array Value} {s : State} (h : ∀ w ∈ wordsLen, w.before a s = true) : Len.tab.before a s = true := by
  have hc : Cdr.tab.before a s = true := unparts (wk h (.code Cdr.yN Cdr.yB 1 (some .byte))) (wks h (.initialized Cdr.yN.cls :: Cdr.site))
  have q := consq hc h
  exact unparts (wk q (.code Len.yN Len.yB 1 (some .int))) (wks q (.initialized Len.yN.cls :: Len.site))
theorem movedLen {Z s : State} {a0 args : Array Value} (hZ : Z.Warmed39 s.vm) (hw : ∀ d ∈ wordsLen, d.before a0 Z = true) : ∀ d ∈ wordsLen, d.before args s = true := fun d hd => by
  have q := hw d hd
  have t : ∀ d ∈ wordsLen, d = .arrayClass .byte ∨ (d.onTables && d.keepsFace) = true := by decide +kernel
  rcases t d hd with rfl | t
  · exact RoadKit.mvA hZ q
  · exact RoadKit.mv hZ q t
/-- the bytes of the chars cs, low before high -/
def wideBytes : List Int32 → List Value
  | [] => []
  | c :: cs => .int (lo8 c) :: .int (hi8 c) :: wideBytes cs
theorem wide_lo (d : Value) : ∀ (cs : List Int32) (j : Nat), j < cs.length → (wideBytes cs).getD (2 * j) d = .int (lo8 (cs.getD j 0))
  | [], j, h => absurd h (Nat.not_lt_zero j)
  | c :: cs, 0, _ => rfl
  | c :: cs, j + 1, h => by
    have q := wide_lo d cs j (by simpa using h)
    rw [show 2 * (j + 1) = 2 * j + 1 + 1 from by omega]
    simpa [wideBytes] using q
theorem wide_hi (d : Value) : ∀ (cs : List Int32) (j : Nat), j < cs.length → (wideBytes cs).getD (2 * j + 1) d = .int (hi8 (cs.getD j 0))
  | [], j, h => absurd h (Nat.not_lt_zero j)
  | c :: cs, 0, _ => rfl
  | c :: cs, j + 1, h => by
    have q := wide_hi d cs j (by simpa using h)
    rw [show 2 * (j + 1) + 1 = 2 * j + 1 + 1 + 1 from by omega]
    simpa [wideBytes] using q
theorem low_at (d : Value) (cs : List Int32) (j : Nat) (h : j < cs.length) : (cs.map fun c => Value.int (lo8 c)).getD j d = .int (lo8 (cs.getD j 0)) := by
  simp [List.getD_eq_getElem?_getD, h]
/-- an array of N2 bytes vs codes the chars cs by the coder cd -/
def CodA (cs : List Int32) (cd N2 : Int32) (vs : List Value) : Prop := (cd = 0 ∧ N2 = Int32.ofNat cs.length ∧ vs = (cs.map fun c => Value.int (lo8 c)) ∧ ∀ c ∈ cs, ¬ 255 < c) ∨ (cd = 1 ∧ N2 = Int32.ofNat (2 * cs.length) ∧ vs = wideBytes cs ∧ ∃ c ∈ cs, 255 < c)
theorem CodA.cod {cs : List Int32} {cd N2 : Int32} {vs : List Value} {V : Cell} (h : CodA cs cd N2 vs) (hn : 2 * cs.length < 2 ^ 31) (hs : V.slots.size = N2.toNatClampNeg) (hv : RoadKit.Has V vs (.int 0)) : Cod cd cs.length (fun j => cs.getD j 0) V := by
  rcases h with ⟨rfl, rfl, rfl, h⟩ | ⟨rfl, rfl, rfl, c, hc, hw⟩
  · rw [n32 (by omega)] at hs
    exact Or.inl ⟨rfl, hs, fun j hj => ⟨by rw [hv j (by omega), low_at _ _ _ hj], by
      have e : cs.getD j 0 = cs[j] := by simp [List.getD_eq_getElem?_getD, hj]
      show ¬ 255 < cs.getD j 0
      rw [e]; exact h _ (List.getElem_mem _)⟩⟩
  · rw [n32 (by omega)] at hs
    obtain ⟨j, hj, rfl⟩ := List.getElem_of_mem hc
    exact Or.inr ⟨rfl, hs, fun j hj => ⟨by rw [hv _ (by omega), wide_lo _ _ _ hj], by rw [hv _ (by omega), wide_hi _ _ _ hj]⟩, j, hj, by
      have e : cs.getD j 0 = cs[j] := by simp [List.getD_eq_getElem?_getD, hj]
      show 255 < cs.getD j 0
      rw [e]; exact hw⟩
/-- an object of exactly java/lang/String, its two fields found: as the laws ask it -/
theorem strObj {Z U : State} {a0 : Array Value} {kI : Nat} (wi : (Jvm.Cond.instantiable ST kI).before a0 Z = true) (al : Z.vm.Alike U.vm) {x : Addr} {v0 c0 : Value} (E : RoadKit.Exa Z U.heap x ST) (V : RoadKit.Fld Z U.heap x ST "value" "[B" v0) (C : RoadKit.Fld Z U.heap x ST "coder" "B" c0) :
    ∃ (D : Cell) (fV fC : Field), Blank ST x D U ∧ Found ST "value" "[B" fV U ∧ Found ST "coder" "B" fC U ∧ D.slots[fV.slot]? = some v0 ∧ D.slots[fC.slot]? = some c0 ∧ RoadKit.slotOf Z ST "value" "[B" = fV.slot ∧ RoadKit.slotOf Z ST "coder" "B" = fC.slot := by
  obtain ⟨D, cfV, kV, iV, fV, hD, gV, stV, knV, obV, asV, slV⟩ := V
  obtain ⟨D', cfC, kC, iC, fC, hD', gC, stC, -, -, asC, slC⟩ := C
  cases hD.symm.trans hD'
  obtain ⟨D2, kD, e1, e2, e3, e4, e5⟩ := E
  cases hD.symm.trans e1
  obtain ⟨c2, k2, i1, i2, i3, -⟩ := Cond.instantiable_spec wi
  cases e2.symm.trans i1
  cases e3.symm.trans i2
  obtain ⟨kU, u1, u2⟩ := al.2.2 _ _ e3
  exact ⟨D, fV, fC, ⟨hD, ⟨knV, fun q hq => by rw [hq] at obV; cases obV⟩, by rw [al.findClass]; exact e2, kU, u1, by rw [u2]; exact i3, by rw [u2]; exact e5 i3⟩, ⟨SBG.found_only al ⟨cfV, kV, iV, gV⟩, stV⟩, ⟨SBG.found_only al ⟨cfC, kC, iC, gC⟩, stC⟩, slV, slC, by simp [RoadKit.slotOf, gV], by simp [RoadKit.slotOf, gC]⟩
theorem sta_is {Z U : State} (al : Z.vm.Alike U.vm) {C n d : String} {v : Value} (S : RoadKit.Sta Z U.heap C n d v) : StaticIs U C n d v := by
  obtain ⟨cfS, iS, kS, fS, st, cS, t1, t2, t3, t4, t5, t6, t7⟩ := S
  exact StaticIs.there (s := { Z with heap := U.heap }) ⟨cfS, iS, kS, fS, st, cS, t1, t2, t3, t4, t5, (fun q => by rw [q] at t6; cases t6), t7⟩ al rfl
/-- **length() OF SUCH A STRING** -/
theorem lenW {p : Program} {l : Launch} {e : Env} {R : Room} {s : State} {args : Array Value} {below : List Frame} {len W : Nat} {Z : State} {a0 : Array Value} {h : Heap} (hZ : Z.Warmed39 s.vm) (hw : ∀ d ∈ wordsLen, d.before a0 Z = true) {kI : Nat} (wi : (Jvm.Cond.instantiable ST kI).before a0 Z = true)
    {x t : Addr} {kb : ClassId} {cs : List Int32} {cd N2 z : Int32} {vs : List Value} (E : RoadKit.Exa Z h x ST) (V : RoadKit.Fld Z h x ST "value" "[B" (.ref t)) (C : RoadKit.Fld Z h x ST "coder" "B" (.int cd)) (K : RoadKit.Arv Z h t kb .byte N2 vs (.int 0)) (hc : CodA cs cd N2 vs) (hb : ∀ c ∈ cs, ¬ c < 0 ∧ ¬ (65535 : Int32) < c)
    (S : RoadKit.Sta Z h ST "COMPACT_STRINGS" "Z" (.int z)) (hz : ¬ z = 0) (l2 : cs.length ≤ 4000) (hfr : 2 ≤ R.frames) (hlo : W + 25 ≤ R.locals) :
    Back l R p e below s args (⟨"java/lang/String", "length", "()I"⟩ : MethodName) len W (fun P a => a = #[.ref x] ∧ P.U.heap = h ∧ P.cells + 0 ≤ R.cells ∧ P.slots + 0 ≤ R.slots)
      (fun P _ v B => ∃ L, (v = some (.int (Int32.ofNat cs.length)) ∧ L = [] ∧ B.U.heap = h) ∧ B.locs = P.locs ++ L ∧ B.cells = P.cells + 0 ∧ B.slots = P.slots + 0) := by
  obtain ⟨A, K1, K2, K3, K4, K5, K6⟩ := K
  have hcod := hc.cod (by omega) K3 K5
  intro m meth c P g ig mk a X hg hsize hdg hW hn hp'
  obtain ⟨rfl, rfl, r1, r2⟩ := hp'
  have al : Z.vm.Alike P.U.vm := hZ.alike.trans X.warmed.alike
  obtain ⟨D, fV, fC, hB, F1, F2, g1, g2, -, -⟩ := strObj wi al E V C
  have hx : Txt x t A cd cs.length (fun j => cs.getD j 0) P.U := ⟨⟨_, hB.2.2.1, D, hB.1, rfl, by cases q : D.vm <;> first | rfl | exact absurd q (hB.2.1.2 _)⟩, Has.of hB F1 g1, Has.of hB F2 g2, ⟨K1.1, State.isArrayOf_alike al K1.2.1, K1.2.2, by rcases hcod with ⟨-, q, -⟩ | ⟨-, q, -⟩ <;> omega⟩, hcod, fun j hj => by
    have e : cs.getD j 0 = cs[j] := by simp [List.getD_eq_getElem?_getD, hj]
    show ¬ cs.getD j 0 < 0 ∧ ¬ 65535 < cs.getD j 0
    rw [e]; exact hb _ (List.getElem_mem _)⟩
  obtain ⟨v, B, X', ⟨⟨hv, hh⟩, hl, hk, hs⟩, st⟩ := Len.pays x t A cd cs.length (fun j => cs.getD j 0) z (tabLen_of (movedLen hZ hw)) hfr hlo m meth c P g ig mk _ X hg hsize hdg hW hn ⟨r1, r2, rfl, hx, sta_is al S, hz⟩
  exact ⟨v, B, X', ⟨[], ⟨hv, rfl, hh⟩, hl, hk, hs⟩, st⟩
end StrChars.Road
namespace StrChars.Road
open Jvm Sem ClassFile Op Lib Jvm.Stand Jvm.Free Jvm.Free.XT
open Jvm.Lib.Cold (StaticIs)
/-- what backV says of its String, as the contracts of this text ask it: cs's low bytes, coder 0 -/
theorem codOf {cs : List Int32} {n : Nat} (hn : cs.length = n) (hb : ∀ c ∈ cs, ¬ 255 < c) : CodA cs 0 (Int32.ofNat n) ((cs.map lo8).map Value.int) := Or.inl ⟨rfl, by rw [hn], by simp [List.map_map, Function.comp_def], hb⟩
end StrChars.Road
end Jvm.Pilot.@@N@@
namespace Jvm.Pilot.@@N@@
open Jvm Jvm.ClassFile Sem Op Lib Jvm.Free Jvm.Stand Jvm.LawKit Jvm.RoadKit Bundle Jvm.Pilot.@@N@@.Jvm.D
theorem hwk {ts : List Jvm.Cond} {a0 : Array Value} {Z : State} (hw : ∀ d ∈ ts, d.before a0 Z = true) (i : Nat) {d : Jvm.Cond} (h : ts[i]? = some d) : d.before a0 Z = true := hw d (List.mem_of_getElem? h)
theorem old_le {Z : State} {n0 : Nat} {h : Heap} (O : Old Z n0 h) : n0 ≤ h.size := O.1 ▸ O.2.1
theorem narrow_refV {t : FieldType} {v : Value} (ht : t.isReference = true) (hv : v.isRef = true) : narrow t v = v := by rcases ref_cases hv with rfl | ⟨a, rfl⟩ <;> cases t <;> first | rfl | cases ht
theorem fits_refV {t : FieldType} {v : Value} (ht : t.isReference = true) (hv : v.isRef = true) : fits t v = true := by rcases ref_cases hv with rfl | ⟨a, rfl⟩ <;> cases t <;> first | rfl | cases ht
def SameStand {p : Program} {l : Launch} {e : Env} {R : Room} {s : State} {m : MethodId} {args : Array Value} {below : List Frame} {meth : Method} {c : Code} {T : State} {locs : List Loc} {cells slots : Nat} (_ : Stand p l e R s m args below meth c T locs cells slots) (T' : State) : Prop := Stand p l e R s m args below meth c T' locs cells slots
def LocStand {p : Program} {l : Launch} {e : Env} {R : Room} {s : State} {m : MethodId} {args : Array Value} {below : List Frame} {meth : Method} {c : Code} {T : State} {locs : List Loc} {cells slots : Nat} (_ : Stand p l e R s m args below meth c T locs cells slots) (T' : State) (L' : List Loc) : Prop := Stand p l e R s m args below meth c T' L' cells slots
def WideStand {p : Program} {l : Launch} {e : Env} {R : Room} {s : State} {m : MethodId} {args : Array Value} {below : List Frame} {meth : Method} {c : Code} {T : State} {locs : List Loc} {cells slots : Nat} (_ : Stand p l e R s m args below meth c T locs cells slots) (s' T' : State) (dc ds : Nat) : Prop := Stand p l e R s' m args below meth c T' locs (cells + dc) (slots + ds)
def JoinStand {p : Program} {l : Launch} {e : Env} {R : Room} {s : State} {m : MethodId} {args : Array Value} {below : List Frame} {meth : Method} {c : Code} {T : State} {locs : List Loc} {cells slots : Nat} (_ : Stand p l e R s m args below meth c T locs cells slots) (s' T' : State) (L' : List Loc) (dc ds : Nat) : Prop := Stand p l e R s' m args below meth c T' (locs ++ L') (cells + dc) (slots + ds)
theorem own_jn {p : Program} {l : Launch} {e : Env} {R : Room} {s : State} {m : MethodId} {args : Array Value} {below : List Frame} {meth : Method} {c : Code} {T : State} {locs : List Loc} {cells slots : Nat} (X : Stand p l e R s m args below meth c T locs cells slots) : Stand p l e R s m args below meth c T (locs ++ []) cells slots := by rw [List.append_nil]; exact X
def OptExa (Z : State) (h : Heap) (v : Value) (C : String) : Prop := ∀ a, v = .ref a → Exa Z h a C
theorem own_mext {Z : State} {h h' : Heap} {v : Value} {C : String} (E : Ext h h') (F : OptExa Z h v C) : OptExa Z h' v C := fun a q => Exa.ext E (F a q)
theorem own_mwr {Z : State} {h h' : Heap} {v w : Value} {C : String} {b : Addr} {sl : Nat} (W : Wr h h' b sl w) (F : OptExa Z h v C) : OptExa Z h' v C := fun a q => Exa.wr W (F a q)
theorem own_mkeep {Z : State} {h h' : Heap} {v : Value} {C : String} {ws : List Addr} (K : Keep h h' ws) (F : OptExa Z h v C) : OptExa Z h' v C := fun a q => Exa.keep (F a q) K
theorem own_mnull {Z : State} {h : Heap} {C : String} : OptExa Z h .null C := fun a q => by cases q
theorem own_mref {Z : State} {h : Heap} {x : Addr} {C : String} (E : Exa Z h x C) : OptExa Z h (.ref x) C := fun a q => by cases q; exact E
theorem own_sf {P : Addr → Prop} {y : Addr} {L : List Addr} (q : P y) (r : ∀ x ∈ L, P x) : ∀ x ∈ y :: L, P x := fun x z => (List.mem_cons.mp z).elim (fun u => u ▸ q) (r x)
theorem own_ext {h h' h'' : Heap} (a : Ext h h') (b : Ext h' h'') : Ext h h'' := ⟨Nat.le_trans a.1 b.1, fun x c q => b.2 x c (a.2 x c q)⟩
theorem own_ite {c : Prop} [Decidable c] {a b : Value} (ha : a.isRef = true) (hb : b.isRef = true) : (if c then a else b).isRef = true := by split <;> assumption
theorem own_eqI {args : Array Value} {s : State} {a b : Term} {n : Int32} (h : (Jvm.Cond.eq a b).value args s none s [] = some true) (hb : b.eval args s none [] s = some (.int n)) : a.eval args s none [] s = some (.int n) := by
  obtain ⟨x, y, h1, h2, h3, h4⟩ := cmp_v (Or.inl h)
  cases h2.symm.trans hb
  obtain ⟨z, rfl⟩ := h4
  have q := gotT (Jvm.Cond.eq_ints h1 hb) h
  rw [h1, q]
theorem own_eqR {args : Array Value} {s : State} {a b : Term} {x y : Value} (h : (Jvm.Cond.eq a b).value args s none s [] = some true) (ha : a.eval args s none [] s = some x) (hb : b.eval args s none [] s = some y) (hx : x.isRef = true) (hy : y.isRef = true) : x = y := gotT (eq_R ha hb hx hy) h
theorem own_neR {args : Array Value} {s : State} {a b : Term} {x y : Value} (h : (Jvm.Cond.not (Jvm.Cond.eq a b)).value args s none s [] = some true) (ha : a.eval args s none [] s = some x) (hb : b.eval args s none [] s = some y) (hx : x.isRef = true) (hy : y.isRef = true) : ¬ x = y := gotF (eq_R ha hb hx hy) (not_v h)
theorem own_str {a0 : Array Value} {Z : State} (hw : ∀ d ∈ tables_1, d.before a0 Z = true) : ∀ a ∈ Bundle.stringAtoms, a.before a0 Z = true := fun a ha => by
  simp only [Bundle.stringAtoms, List.mem_cons, List.not_mem_nil, or_false] at ha
  rcases ha with rfl | rfl | rfl | rfl | rfl | rfl | rfl
  · exact (hwk hw 8 rfl)
  · exact (hwk hw 7 rfl)
  · exact (hwk hw 21 rfl)
  · exact (hwk hw 22 rfl)
  · exact (hwk hw 23 rfl)
  · exact (hwk hw 24 rfl)
  · exact (hwk hw 25 rfl)

theorem own_EW {a0 : Array Value} {Z : State} (hw : ∀ d ∈ tables_1, d.before a0 Z = true) : EW Z a0 consts_1 := by
  unfold consts_1
  exact (EW.cons (hwk hw 20 rfl) (by decide) EW.nil)
/-- a call of a callee that keeps the literals' invariant and is told which addresses no literal has -/
theorem own_backSH {p : Program} {l : Launch} {e : Env} {R : Room} {s : State} {args : Array Value} {below : List Frame} {Z : State} {a0 : Array Value} {EL : List (String × Nat)} {h : Heap} {vm0 : Vm} {y : MethodName} {bytes : ByteArray} {maxL : Nat} {ret : Option FieldType} {rm : Room} {len W : Nat} {as' : Array Value} {Q : Option Value → Heap → List Loc → Prop} {sf : List Addr}
    (hM : MetFree l y (head1 [Jvm.Cond.code y bytes maxL ret] rm) (fun a U => a = as' ∧ Z.Warmed39 U.vm ∧ U.heap = h ∧ CHv Z EL U.vm h ∧ ∀ x ∈ sf, Safe Z EL U.vm h x) (fun _ _ _ _ _ => True) (fun _ U o U' => ∃ v L, o = .returned v ∧ Q v U'.heap L ∧ CHr Z EL U.vm U.heap U'.vm U'.heap ∧ ReturnedEndW U o U' L rm.cells rm.slots))
    (hZ : Z.Warmed39 vm0) (wc : (Jvm.Cond.code y bytes maxL ret).before a0 Z = true) (wz : (Jvm.Cond.initialized y.cls).before a0 Z = true) (hf : rm.frames + 1 ≤ R.frames) (hl : W + (maxL + 11) + rm.locals ≤ R.locals) (hEL : EW Z a0 EL) (H : CHv Z EL vm0 h) (hsf : ∀ x ∈ sf, x < h.size ∧ Safe Z EL vm0 h x) :
    BackS l R p e below (s.setVm vm0) args y len W (fun A a => a = as' ∧ A.U.heap = h ∧ A.cells + rm.cells ≤ R.cells ∧ A.slots + rm.slots ≤ R.slots)
      (fun A _ v B => ∃ L, Q v B.U.heap L ∧ B.locs = A.locs ++ L ∧ B.cells = A.cells + rm.cells ∧ B.slots = A.slots + rm.slots ∧ CHr Z EL vm0 h B.U.vm B.U.heap) := by
  refine BackS.of_freeW (bytes := bytes) (maxL := maxL) (ret := ret) (E := fun _ U o t L k n => (k = rm.cells ∧ n = rm.slots) ∧ (∃ v, o = .returned v ∧ Q v t.heap L) ∧ CHr Z EL U.vm U.heap t.vm t.heap) hM hf hl ?_ ?_ ?_ ?_ ?_
  · intro m meth c A a Y hp
    have hU : Z.Warmed39 A.U.vm := wtrans (s := s.setVm vm0) hZ Y.warmed
    refine ⟨?_, mv hU wc, mv hU wz, hp.2.2.1, hp.2.2.2⟩
    show (Jvm.Cond.and _ .tt).before a A.U = true
    rw [Cond.before_and, mv hU wc]; rfl
  · intro m meth c A a g mk Y hp
    have C := CHv.at Y hZ hEL H
    exact ⟨hp.1, wtrans (s := s.setVm vm0) hZ Y.warmed, hp.2.1, C.1, fun x hx => C.safe (hsf x hx).1 (hsf x hx).2⟩
  · intros; trivial
  · rintro _ _ _ _ ⟨v, L, h1, h2, h3, h4⟩
    exact ⟨L, _, _, h4, ⟨rfl, rfl⟩, ⟨v, h1, h2⟩, h3⟩
  · rintro m meth c A a g mk v t L k n Y hp - - ⟨⟨rfl, rfl⟩, ⟨v', e3, e4⟩, e5⟩
    cases e3
    refine ⟨L, e4, rfl, rfl, rfl, (CHv.at Y hZ hEL H).trans ?_⟩
    rw [← hp.2.1]; exact e5

open StrChars.Road (CodA wideBytes wide_lo wide_hi low_at)
open StrChars (lo8 hi8)
theorem own_b8 : ∀ k : Fin 32, (255#32)[k.val] = decide (k.val < 8) := by decide
theorem own_b16 : ∀ k : Fin 32, (65535#32)[k.val] = decide (k.val < 16) := by decide
theorem own_m8 (x : Int32) : (x.toInt8.toInt32 &&& (255 : Int32)) = x &&& (255 : Int32) := by
  apply Int32.toBitVec_inj.mp
  have e : (255 : Int32).toBitVec = (255#32) := rfl
  rw [Int32.toBitVec_and, Int32.toBitVec_and, e, Int8.toBitVec_toInt32, Int32.toBitVec_toInt8]
  generalize x.toBitVec = v
  apply BitVec.eq_of_getElem_eq
  intro i hi
  have a1 : (255#32)[i] = decide (i < 8) := own_b8 ⟨i, hi⟩
  by_cases q : i < 8
  · simp [BitVec.getElem_signExtend, q, hi]
  · simp [a1, q]
theorem own_m16 (x : Int32) : ((x &&& (255 : Int32)) ||| (((x >>> ((8 : Int32) &&& 31)) &&& (255 : Int32)) <<< ((8 : Int32) &&& 31))) = x &&& (65535 : Int32) := by
  apply Int32.toBitVec_inj.mp
  have e : (255 : Int32).toBitVec = (255#32) := rfl
  have e2 : (65535 : Int32).toBitVec = (65535#32) := rfl
  have e3 : ((8 : Int32) &&& 31) = 8 := by decide
  rw [e3]
  simp only [Int32.toBitVec_or, Int32.toBitVec_and, Int32.toBitVec_shiftLeft, Int32.toBitVec_shiftRight, e, e2]
  have e4 : ((8 : Int32).toBitVec.smod 32) = 8#32 := by decide
  rw [e4]
  generalize x.toBitVec = v
  apply BitVec.eq_of_getElem_eq
  intro i hi
  have a1 : (255#32)[i] = decide (i < 8) := own_b8 ⟨i, hi⟩
  have b1 : (65535#32)[i] = decide (i < 16) := own_b16 ⟨i, hi⟩
  by_cases q : i < 8
  · simp [a1, b1, BitVec.getElem_sshiftRight, BitVec.getElem_shiftLeft, q, show i < 16 by omega]
  · have a2 : (255#32)[i - 8]'(by omega) = decide (i - 8 < 8) := own_b8 ⟨i - 8, by omega⟩
    by_cases q2 : i < 16
    · simp [a1, b1, a2, BitVec.getElem_sshiftRight, BitVec.getElem_shiftLeft, q, q2, show i - 8 < 8 by omega, show 8 + (i - 8) = i by omega, hi]
    · simp [a1, b1, a2, BitVec.getElem_sshiftRight, BitVec.getElem_shiftLeft, q, q2, show ¬ (i - 8 < 8) by omega]
def C16 (c : Int32) : Prop := ¬ c < 0 ∧ ¬ (65535 : Int32) < c
theorem own_c16 {c : Int32} (h : C16 c) : c &&& (65535 : Int32) = c := by
  obtain ⟨h1, h2⟩ := h
  rw [Int32.lt_iff_toInt_lt] at h1 h2
  have e0 : (0 : Int32).toInt = 0 := by decide
  have e1 : (65535 : Int32).toInt = 65535 := by decide
  apply Int32.toBitVec_inj.mp
  apply BitVec.eq_of_toNat_eq
  have e2 : (65535 : Int32).toBitVec.toNat = 2 ^ 16 - 1 := by decide
  rw [Int32.toBitVec_and, BitVec.toNat_and, e2, Nat.and_two_pow_sub_one_eq_mod]
  have e3 : c.toInt = c.toBitVec.toInt := rfl
  rw [e3, BitVec.toInt_eq_toNat_cond] at h1 h2
  have := c.toBitVec.isLt
  split at h1 <;> split at h2 <;> omega
theorem own_i2c16 {c : Int32} (h : C16 c) : c.toUInt32.toUInt16.toUInt32.toInt32 = c := by
  have q := own_c16 h
  apply Int32.toBitVec_inj.mp
  apply BitVec.eq_of_toNat_eq
  have e : c.toUInt32.toUInt16.toUInt32.toInt32.toBitVec.toNat = c.toUInt32.toUInt16.toUInt32.toNat := rfl
  rw [e, UInt16.toNat_toUInt32, UInt32.toNat_toUInt16]
  show c.toBitVec.toNat % 2 ^ 16 = _
  have e2 : (65535 : Int32).toBitVec.toNat = 2 ^ 16 - 1 := by decide
  have r : (c &&& (65535 : Int32)).toBitVec.toNat = c.toBitVec.toNat := by rw [q]
  rw [Int32.toBitVec_and, BitVec.toNat_and, e2, Nat.and_two_pow_sub_one_eq_mod] at r
  exact r
theorem own_nar16 {c : Int32} (h : C16 c) : nar .char c = c := own_i2c16 h
theorem own_n16 (P : Nat → Prop) (h : ∀ k : Fin 16, P k.val) {j : Nat} (hj : j < 16) : P j := h ⟨j, hj⟩
theorem own_succ (j : Nat) : Int32.ofNat j + (1 : Int32) = Int32.ofNat (j + 1) := by
  apply Int32.toBitVec_inj.mp
  show BitVec.ofNat 32 j + BitVec.ofNat 32 1 = BitVec.ofNat 32 (j + 1)
  rw [BitVec.ofNat_add]
theorem own_nat {j : Nat} (h : j < 16) : (Int32.ofNat j).toNatClampNeg = j := own_n16 (fun j => (Int32.ofNat j).toNatClampNeg = j) (by decide +kernel) h
theorem own_ge0 {j : Nat} (h : j < 16) : ¬ Int32.ofNat j < 0 := own_n16 (fun j => ¬ Int32.ofNat j < 0) (by decide +kernel) h
theorem own_lt {j n : Nat} (h : j < 16) (h' : n < 16) : Int32.ofNat j < Int32.ofNat n ↔ j < n := (by decide +kernel : ∀ a b : Fin 16, Int32.ofNat a.val < Int32.ofNat b.val ↔ a.val < b.val) ⟨j, h⟩ ⟨n, h'⟩
theorem own_dbl {j : Nat} (h : j < 16) : (Int32.ofNat j <<< ((1 : Int32) &&& 31)) = Int32.ofNat (2 * j) := own_n16 (fun j => (Int32.ofNat j <<< ((1 : Int32) &&& 31)) = Int32.ofNat (2 * j)) (by decide +kernel) h
theorem own_half {j : Nat} (h : j < 16) : (Int32.ofNat (2 * j) >>> ((1 : Int32) &&& 31)) = Int32.ofNat j := own_n16 (fun j => (Int32.ofNat (2 * j) >>> ((1 : Int32) &&& 31)) = Int32.ofNat j) (by decide +kernel) h
theorem own_shl0 (x : Int32) : (x <<< ((0 : Int32) &&& 31)) = x := by
  have e : ((0 : Int32) &&& 31) = 0 := by decide
  rw [e, Int32.shiftLeft_zero]
theorem own_shr0 (x : Int32) : (x >>> ((0 : Int32) &&& 31)) = x := by
  have e : ((0 : Int32) &&& 31) = 0 := by decide
  rw [e, Int32.shiftRight_zero]

theorem own_getD16 {cs : List Int32} (h : ∀ c ∈ cs, C16 c) (j : Nat) : C16 (cs.getD j 0) := by
  by_cases q : j < cs.length
  · rw [List.getD_eq_getElem?_getD, List.getElem?_eq_getElem q]; exact h _ (List.getElem_mem q)
  · rw [List.getD_eq_getElem?_getD, List.getElem?_eq_none (Nat.le_of_not_lt q)]; exact ⟨by decide, by decide⟩
theorem own_gc {c : Int32} (h : C16 c) : nar .char ((((lo8 c) &&& (255 : Int32)) ||| (((hi8 c) &&& (255 : Int32)) <<< ((8 : Int32) &&& 31))).toUInt32.toUInt16.toUInt32.toInt32) = c := by
  have e1 : (lo8 c) &&& (255 : Int32) = c &&& 255 := own_m8 c
  have e2 : (hi8 c) &&& (255 : Int32) = (c >>> ((8 : Int32) &&& 31)) &&& 255 := own_m8 _
  rw [e1, e2, own_m16, own_c16 h, own_i2c16 h, own_nar16 h]
theorem own_gl {c : Int32} (h : C16 c) (q : ¬ (255 : Int32) < c) : nar .char (((lo8 c) &&& (255 : Int32)).toUInt32.toUInt16.toUInt32.toInt32) = c := by
  have e1 : (lo8 c) &&& (255 : Int32) = c &&& 255 := own_m8 c
  have e : c &&& (255 : Int32) = c := by
    have h1 := h.1
    rw [Int32.lt_iff_toInt_lt] at q h1
    have e0 : (0 : Int32).toInt = 0 := by decide
    have e1 : (255 : Int32).toInt = 255 := by decide
    apply Int32.toBitVec_inj.mp
    apply BitVec.eq_of_toNat_eq
    have e2 : (255 : Int32).toBitVec.toNat = 2 ^ 8 - 1 := by decide
    rw [Int32.toBitVec_and, BitVec.toNat_and, e2, Nat.and_two_pow_sub_one_eq_mod]
    have e3 : c.toInt = c.toBitVec.toInt := rfl
    rw [e3, BitVec.toInt_eq_toNat_cond] at h1 q
    have := c.toBitVec.isLt
    split at h1 <;> split at q <;> omega
  rw [e1, e, own_i2c16 h, own_nar16 h]
theorem own_narC16 {c : Int32} (h : C16 c) : narrow .char (.int c) = (.int c) := congrArg Value.int (own_nar16 h)
theorem own_inb {j n : Nat} (h : j < n) (h' : n < 16) : ¬ Int32.ofNat j < 0 ∧ Int32.ofNat j < Int32.ofNat n := ⟨own_ge0 (by omega), (own_lt (by omega) h').mpr h⟩
theorem own_lo {cs : List Int32} {j : Nat} (h : j < cs.length) (hs : cs.length ≤ 6) : (wideBytes cs).getD (Int32.ofNat (2 * j)).toNatClampNeg (.int 0) = .int (lo8 (cs.getD j 0)) := by
  rw [own_nat (by omega)]; exact wide_lo _ _ _ h
theorem own_hi {cs : List Int32} {j : Nat} (h : j < cs.length) (hs : cs.length ≤ 6) : (wideBytes cs).getD (Int32.ofNat (2 * j + 1)).toNatClampNeg (.int 0) = .int (hi8 (cs.getD j 0)) := by
  rw [own_nat (by omega)]; exact wide_hi _ _ _ h
theorem own_low {cs : List Int32} {j : Nat} (h : j < cs.length) (hs : cs.length ≤ 6) : (cs.map fun c => Value.int (lo8 c)).getD (Int32.ofNat j).toNatClampNeg (.int 0) = .int (lo8 (cs.getD j 0)) := by
  rw [own_nat (by omega)]; exact low_at _ _ _ h
theorem own_getl {cs : List Int32} {j : Nat} (h : ∀ c ∈ cs, ¬ (255 : Int32) < c) (hj : j < cs.length) : ¬ (255 : Int32) < cs.getD j 0 := by
  rw [List.getD_eq_getElem?_getD, List.getElem?_eq_getElem hj]; exact h _ (List.getElem_mem hj)
theorem ef_rm35 (m : MethodId) (x0 : Addr) : entryFrame m #[(.ref x0)] 1 = mkF m 0 #[.val (.ref x0)] [] := by first | (simp [entryFrame, mkF, argsToLocals, Value.category]; done) | rfl
def Q_rm35 (Z : State) (t1 : Addr) (k1 : ClassId) (cs : List Int32) (h0 : Heap) (n0 : Nat) (v : Option Value) (h : Heap) (L : List Loc) : Prop := (v = some (.int (Int32.ofNat cs.length))) ∧ (Fr n0 L) ∧ (h = h0)
theorem pn_0 : plainName "java/lang/StringUTF16" = true := by first | (simp [plainName, overriddenIn]; done) | decide +kernel
theorem d35_0 : decode jdk_52_method_6_code 0 = .ok (.aload_n 0, 1) := by decide +kernel
theorem d35_1 : decode jdk_52_method_6_code 1 = .ok (.arraylength, 1) := by decide +kernel
theorem d35_2 : decode jdk_52_method_6_code 2 = .ok (.iconst 1, 1) := by decide +kernel
theorem d35_3 : decode jdk_52_method_6_code 3 = .ok (.ishr, 1) := by decide +kernel
theorem d35_4 : decode jdk_52_method_6_code 4 = .ok (.ireturn, 1) := by decide +kernel
set_option maxRecDepth 65536 in
set_option maxHeartbeats 40000000 in
theorem rm35 (l : Launch) (Z : State) (a0 : Array Value) (hw : ∀ d ∈ tables_1, d.before a0 Z = true) (ws : List Jvm.Cond) (t1 : Addr) (k1 : ClassId) (cs : List Int32) (h0 : Heap) (n0 : Nat) (O0 : Old Z n0 h0) (AW : Arv Z h0 t1 k1 .byte (Int32.ofNat (2 * cs.length)) (wideBytes cs) (.int (0 : Int32))) (hs : cs.length ≤ 6) :
    MetFree l (⟨"java/lang/StringUTF16", "length", "([B)I"⟩ : MethodName) (head1 (Jvm.Cond.code (⟨"java/lang/StringUTF16", "length", "([B)I"⟩ : MethodName) jdk_52_method_6_code 1 (some .int) :: ws) ({ frames := 0, cells := 0, slots := 0, locals := 0 } : Room)) (fun a U => a = #[(.ref t1)] ∧ Z.Warmed39 U.vm ∧ U.heap = h0) (fun _ _ _ _ _ => True) (fun _ U o U' => ∃ v L, o = .returned v ∧ Q_rm35 Z t1 k1 cs h0 n0 v U'.heap L ∧ FrameEnd U o U' L ({ frames := 0, cells := 0, slots := 0, locals := 0 } : Room).cells ({ frames := 0, cells := 0, slots := 0, locals := 0 } : Room).slots) := by
  refine MetFree.of_bodySF (plainFor_of_name pn_0) hisR ?_
  intro p e s m args below meth c s₁ Bd hml0 hP hK
  obtain ⟨rfl, hZ, hh⟩ := hP
  have hx := Bd.exec
  have hby := Bd.bytes
  have hml : c.maxLocals = 1 := hml0
  have hown : s.vm.findClass "java/lang/StringUTF16" = some m.cls := findClass_of_methodNamed Bd.named
  have hnm := (name_of_methodNamed Bd.named Bd.method).1
  have X0 : Stand p l e ({ frames := 0, cells := 0, slots := 0, locals := 0 } : Room) s m #[(.ref t1)] below meth c s₁ [] 0 0 := Stand.of_body Bd
  have e0 : s₁.heap = h0 := by rw [← hh, Bd.state]; rfl
  have N0 := Fr.nil n0
  have Z0 : n0 ≤ h0.size := old_le O0
  have pre0 : ∀ t, Steps p.tables e below (s₁.setTop (mkF m 0 #[.val (.ref t1)] [])) t → Steps p.tables e below (s₁.setTop (entryFrame m #[(.ref t1)] 1)) t := fun t k => castTop (ef_rm35 m t1) k
  obtain ⟨cl101, Ar101, -, Sz101, Nn101, -, -⟩ := id AW
  obtain ⟨fs, hr, hrun, hended, hW, hsame⟩ := X0.leave (v := some (.int ((Int32.ofNat (2 * cs.length)) >>> ((1 : Int32) &&& 31)))) (fun h => by rw [Bd.returns] at h; cases h)
  refine ⟨_, _, pre0 _ ?_, hrun, hended, _, _, rfl, ?_, ⟨_, rfl⟩, hW, hsame.mono (by decide) (by decide)⟩
  · show Steps p.tables e below (s₁.setTop (mkF m 0 #[.val (.ref t1)] [])) _
    refine XS.aloadN X0.here hx rfl (hb hby d35_0) rfl rfl ?_
    show Steps p.tables e below (s₁.setTop (mkF m 1 #[.val (.ref t1)] [(.ref t1)])) _
    refine X0.arraylength hx (by rw [e0]; exact Ar101.1) (State.isArrayOf_alike hZ.alike Ar101.2.1) (g := (mkF m 1 #[.val (.ref t1)] [(.ref t1)])) rfl rfl (hb hby d35_1) _ ?_
    rw [len_of Sz101 Nn101]
    show Steps p.tables e below (s₁.setTop (mkF m 2 #[.val (.ref t1)] [(.int (Int32.ofNat (2 * cs.length)))])) _
    refine XS.iconst X0.here hx rfl (hb hby d35_2) ?_
    refine XS.ishr X0.here hx rfl (hb hby d35_3) rfl ?_
    show Steps p.tables e below (s₁.setTop (mkF m 4 #[.val (.ref t1)] [(.int ((Int32.ofNat (2 * cs.length)) >>> ((1 : Int32) &&& 31)))])) _
    exact Jvm.RoadKit.retOut X0 hx Bd.returns rfl (Or.inl ⟨rfl, by simp, _, rfl⟩) (hb hby d35_4) hr
  · show Q_rm35 Z t1 k1 cs h0 n0 _ s₁.heap _
    rw [e0]
    unfold Q_rm35
    exact ⟨(by rw [own_half (by omega)]), N0, rfl⟩
theorem ef_rm26 (m : MethodId) (x0 : Int32) (x1 : Int32) (x2 : Value) (hr2 : x2.isRef = true) : entryFrame m #[(.int x0), (.int x1), x2] 3 = mkF m 0 #[.val (.int x0), .val (.int x1), .val x2] [] := by rcases ref_cases hr2 with rfl | ⟨y2, rfl⟩ <;> first | (simp [entryFrame, mkF, argsToLocals, Value.category]; done) | rfl
def Q_rm26 (Z : State) (i1 : Int32) (n1 : Int32) (fm : Value) (h0 : Heap) (n0 : Nat) (v : Option Value) (h : Heap) (L : List Loc) : Prop := (v = some (.int i1)) ∧ (Fr n0 L) ∧ (h = h0)
theorem pn_1 : plainName "jdk/internal/util/Preconditions" = true := by first | (simp [plainName, overriddenIn]; done) | decide +kernel
theorem d26_0 : decode jdk_41_method_11_code 0 = .ok (.iload_n 0, 1) := by decide +kernel
theorem d26_1 : decode jdk_41_method_11_code 1 = .ok (.ifCond .lt 8, 3) := by decide +kernel
theorem d26_4 : decode jdk_41_method_11_code 4 = .ok (.iload_n 0, 1) := by decide +kernel
theorem d26_5 : decode jdk_41_method_11_code 5 = .ok (.iload_n 1, 1) := by decide +kernel
theorem d26_6 : decode jdk_41_method_11_code 6 = .ok (.if_icmp .lt 10, 3) := by decide +kernel
theorem d26_16 : decode jdk_41_method_11_code 16 = .ok (.iload_n 0, 1) := by decide +kernel
theorem d26_17 : decode jdk_41_method_11_code 17 = .ok (.ireturn, 1) := by decide +kernel
set_option maxRecDepth 65536 in
set_option maxHeartbeats 40000000 in
theorem rm26 (l : Launch) (Z : State) (a0 : Array Value) (hw : ∀ d ∈ tables_1, d.before a0 Z = true) (ws : List Jvm.Cond) (i1 : Int32) (n1 : Int32) (fm : Value) (h0 : Heap) (n0 : Nat) (O0 : Old Z n0 h0) (RF : fm.isRef = true) (h0i : ¬ i1 < (0 : Int32)) (h1i : i1 < n1) :
    MetFree l (⟨"jdk/internal/util/Preconditions", "checkIndex", "(IILjava/util/function/BiFunction;)I"⟩ : MethodName) (head1 (Jvm.Cond.code (⟨"jdk/internal/util/Preconditions", "checkIndex", "(IILjava/util/function/BiFunction;)I"⟩ : MethodName) jdk_41_method_11_code 3 (some .int) :: ws) ({ frames := 0, cells := 0, slots := 0, locals := 0 } : Room)) (fun a U => a = #[(.int i1), (.int n1), fm] ∧ Z.Warmed39 U.vm ∧ U.heap = h0) (fun _ _ _ _ _ => True) (fun _ U o U' => ∃ v L, o = .returned v ∧ Q_rm26 Z i1 n1 fm h0 n0 v U'.heap L ∧ FrameEnd U o U' L ({ frames := 0, cells := 0, slots := 0, locals := 0 } : Room).cells ({ frames := 0, cells := 0, slots := 0, locals := 0 } : Room).slots) := by
  refine MetFree.of_bodySF (plainFor_of_name pn_1) hisR ?_
  intro p e s m args below meth c s₁ Bd hml0 hP hK
  obtain ⟨rfl, hZ, hh⟩ := hP
  have hx := Bd.exec
  have hby := Bd.bytes
  have hml : c.maxLocals = 3 := hml0
  have hown : s.vm.findClass "jdk/internal/util/Preconditions" = some m.cls := findClass_of_methodNamed Bd.named
  have hnm := (name_of_methodNamed Bd.named Bd.method).1
  have X0 : Stand p l e ({ frames := 0, cells := 0, slots := 0, locals := 0 } : Room) s m #[(.int i1), (.int n1), fm] below meth c s₁ [] 0 0 := Stand.of_body Bd
  have e0 : s₁.heap = h0 := by rw [← hh, Bd.state]; rfl
  have N0 := Fr.nil n0
  have Z0 : n0 ≤ h0.size := old_le O0
  have pre0 : ∀ t, Steps p.tables e below (s₁.setTop (mkF m 0 #[.val (.int i1), .val (.int n1), .val fm] [])) t → Steps p.tables e below (s₁.setTop (entryFrame m #[(.int i1), (.int n1), fm] 3)) t := fun t k => castTop (ef_rm26 m i1 n1 fm RF) k
  obtain ⟨fs, hr, hrun, hended, hW, hsame⟩ := X0.leave (v := some (.int i1)) (fun h => by rw [Bd.returns] at h; cases h)
  refine ⟨_, _, pre0 _ ?_, hrun, hended, _, _, rfl, ?_, ⟨_, rfl⟩, hW, hsame.mono (by decide) (by decide)⟩
  · show Steps p.tables e below (s₁.setTop (mkF m 0 #[.val (.int i1), .val (.int n1), .val fm] [])) _
    refine XS.iloadN X0.here hx rfl (hb hby d26_0) rfl ?_
    refine XS.ifNo X0.here hx rfl (hb hby d26_1) rfl ((if0 _ _).trans (flt (h0i : ¬ (i1 < (0 : Int32)))).1) ?_
    show Steps p.tables e below (s₁.setTop (mkF m 4 #[.val (.int i1), .val (.int n1), .val fm] [])) _
    refine XS.iloadN X0.here hx rfl (hb hby d26_4) rfl ?_
    refine XS.iloadN X0.here hx rfl (hb hby d26_5) rfl ?_
    refine XS.icmpYes X0.here hx rfl (pc0 := 6) (pc' := 16) rfl (hb hby d26_6) rfl (tlt (h1i : i1 < n1)).1 (by decide) (by decide) ?_
    show Steps p.tables e below (s₁.setTop (mkF m 16 #[.val (.int i1), .val (.int n1), .val fm] [])) _
    refine XS.iloadN X0.here hx rfl (hb hby d26_16) rfl ?_
    show Steps p.tables e below (s₁.setTop (mkF m 17 #[.val (.int i1), .val (.int n1), .val fm] [(.int i1)])) _
    exact Jvm.RoadKit.retOut X0 hx Bd.returns rfl (Or.inl ⟨rfl, by simp, _, rfl⟩) (hb hby d26_17) hr
  · show Q_rm26 Z i1 n1 fm h0 n0 _ s₁.heap _
    rw [e0]
    unfold Q_rm26
    exact ⟨rfl, N0, rfl⟩
theorem ef_rm25 (m : MethodId) (x0 : Int32) (x1 : Int32) : entryFrame m #[(.int x0), (.int x1)] 2 = mkF m 0 #[.val (.int x0), .val (.int x1)] [] := by first | (simp [entryFrame, mkF, argsToLocals, Value.category]; done) | rfl
def Q_rm25 (Z : State) (i1 : Int32) (n1 : Int32) (fm : Value) (h0 : Heap) (n0 : Nat) (v : Option Value) (h : Heap) (L : List Loc) : Prop := (v = none) ∧ (Fr n0 L) ∧ (h = h0)
theorem pn_2 : plainName "java/lang/String" = true := by first | (simp [plainName, overriddenIn]; done) | decide +kernel
theorem d25_0 : decode jdk_42_method_155_code 0 = .ok (.iload_n 0, 1) := by decide +kernel
theorem d25_1 : decode jdk_42_method_155_code 1 = .ok (.iload_n 1, 1) := by decide +kernel
theorem d25_2 : decode jdk_42_method_155_code 2 = .ok (.getstatic 1053, 3) := by decide +kernel
theorem d25_5 : decode jdk_42_method_155_code 5 = .ok (.invokestatic 1059, 3) := by decide +kernel
theorem pd_0 : parseMethodDescriptor "(IILjava/util/function/BiFunction;)I" = some ⟨[.int, .int, (.object "java/util/function/BiFunction")], some .int⟩ := by decide +kernel
theorem d25_8 : decode jdk_42_method_155_code 8 = .ok (.pop, 1) := by decide +kernel
theorem d25_9 : decode jdk_42_method_155_code 9 = .ok (.return_, 1) := by decide +kernel
set_option maxRecDepth 65536 in
set_option maxHeartbeats 40000000 in
theorem rm25 (l : Launch) (Z : State) (a0 : Array Value) (hw : ∀ d ∈ tables_1, d.before a0 Z = true) (ws : List Jvm.Cond) (i1 : Int32) (n1 : Int32) (fm : Value) (h0 : Heap) (n0 : Nat) (O0 : Old Z n0 h0) (h0i : ¬ i1 < (0 : Int32)) (h1i : i1 < n1) (SF : Sta Z Z.heap "jdk/internal/util/Preconditions" "SIOOBE_FORMATTER" "Ljava/util/function/BiFunction;" fm) (RF : fm.isRef = true) :
    MetFree l (⟨"java/lang/String", "checkIndex", "(II)V"⟩ : MethodName) (head1 (Jvm.Cond.code (⟨"java/lang/String", "checkIndex", "(II)V"⟩ : MethodName) jdk_42_method_155_code 2 none :: ws) ({ frames := 1, cells := 0, slots := 0, locals := 14 } : Room)) (fun a U => a = #[(.int i1), (.int n1)] ∧ Z.Warmed39 U.vm ∧ U.heap = h0) (fun _ _ _ _ _ => True) (fun _ U o U' => ∃ v L, o = .returned v ∧ Q_rm25 Z i1 n1 fm h0 n0 v U'.heap L ∧ FrameEnd U o U' L ({ frames := 1, cells := 0, slots := 0, locals := 14 } : Room).cells ({ frames := 1, cells := 0, slots := 0, locals := 14 } : Room).slots) := by
  refine MetFree.of_bodySF (plainFor_of_name pn_2) hisR ?_
  intro p e s m args below meth c s₁ Bd hml0 hP hK
  obtain ⟨rfl, hZ, hh⟩ := hP
  have hx := Bd.exec
  have hby := Bd.bytes
  have hml : c.maxLocals = 2 := hml0
  have hown : s.vm.findClass "java/lang/String" = some m.cls := findClass_of_methodNamed Bd.named
  have hnm := (name_of_methodNamed Bd.named Bd.method).1
  have X0 : Stand p l e ({ frames := 1, cells := 0, slots := 0, locals := 14 } : Room) s m #[(.int i1), (.int n1)] below meth c s₁ [] 0 0 := Stand.of_body Bd
  have e0 : s₁.heap = h0 := by rw [← hh, Bd.state]; rfl
  have N0 := Fr.nil n0
  have Z0 : n0 ≤ h0.size := old_le O0
  have pre0 : ∀ t, Steps p.tables e below (s₁.setTop (mkF m 0 #[.val (.int i1), .val (.int n1)] [])) t → Steps p.tables e below (s₁.setTop (entryFrame m #[(.int i1), (.int n1)] 2)) t := fun t k => castTop (ef_rm25 m i1 n1) k
  have c101 : Sta Z h0 "jdk/internal/util/Preconditions" "SIOOBE_FORMATTER" "Ljava/util/function/BiFunction;" fm := Sta.ext (O0).2 SF
  obtain ⟨T102, X102, e102, st102⟩ := getS2 X0 hx hZ hown (host := "") (Or.inl (hwk hw 109 rfl)) Via.refl e0 c101 (g := (mkF m 2 #[.val (.int i1), .val (.int n1)] [(.int n1), (.int i1)])) rfl (hb hby d25_2)
  obtain ⟨_, _, ⟨T103, L103, k103, n103⟩, -, X103, ⟨Lc103, hQ103, l103, y103, z103⟩, st103⟩ := Jvm.LawKit.callS X102 hx (y := (⟨"jdk/internal/util/Preconditions", "checkIndex", "(IILjava/util/function/BiFunction;)I"⟩ : MethodName)) hown (mvT hZ (hwk hw 111 rfl)) (mvT hZ (hwk hw 112 rfl)) (mvT hZ (hwk hw 110 rfl)) (mvT hZ (hwk hw 113 rfl)) (by decide) (backOf (W := 0) (rm26 l Z a0 hw [] i1 n1 fm h0 n0 O0 RF h0i h1i) hZ (hwk hw 113 rfl) (hwk hw 110 rfl) (by decide) (by decide)) (g := (mkF m 5 #[.val (.int i1), .val (.int n1)] [fm, (.int n1), (.int i1)])) rfl (by rw [hml]; rfl) (argsL := [(.int i1), (.int n1), fm]) (rest := []) (lenOf pd_0 rfl) rfl (by show 2 * 0 + _ ≤ _; exact Nat.le_of_eq rfl) (hb hby d25_5) (fun _ _ => ⟨rfl, e102, (by decide : 0 + 0 ≤ _), (by decide : 0 + 0 ≤ _)⟩)
  dsimp only [Pt.U, Pt.locs, Pt.cells, Pt.slots] at X103 l103 y103 z103 st103 hQ103
  subst l103 y103 z103
  unfold Q_rm26 at hQ103
  obtain ⟨rfl, N103q, e103⟩ := hQ103
  have N103 := Fr.app N0 N103q
  obtain ⟨fs, hr, hrun, hended, hW, hsame⟩ := X103.leave (v := none) (fun _ => rfl)
  refine ⟨_, _, pre0 _ ?_, hrun, hended, _, _, rfl, ?_, ⟨_, rfl⟩, hW, hsame.mono (by decide) (by decide)⟩
  · show Steps p.tables e below (s₁.setTop (mkF m 0 #[.val (.int i1), .val (.int n1)] [])) _
    refine XS.iloadN X0.here hx rfl (hb hby d25_0) rfl ?_
    refine XS.iloadN X0.here hx rfl (hb hby d25_1) rfl ?_
    show Steps p.tables e below (s₁.setTop (mkF m 2 #[.val (.int i1), .val (.int n1)] [(.int n1), (.int i1)])) _
    refine st102 _ ?_
    show Steps p.tables e below (T102.setTop (mkF m 5 #[.val (.int i1), .val (.int n1)] [fm, (.int n1), (.int i1)])) _
    refine st103 _ ?_
    show Steps p.tables e below (T103.setTop (mkF m 8 #[.val (.int i1), .val (.int n1)] [(.int i1)])) _
    refine XS.pop X103.here hx rfl (hb hby d25_8) rfl rfl ?_
    show Steps p.tables e below (T103.setTop (mkF m 9 #[.val (.int i1), .val (.int n1)] [])) _
    exact X103.returnOut hx Bd.returns (hb hby d25_9) hr
  · show Q_rm25 Z i1 n1 fm h0 n0 _ T103.heap _
    rw [e103]
    unfold Q_rm25
    exact ⟨rfl, N103, rfl⟩
theorem ef_rm40 (m : MethodId) (x0 : Int32) (x1 : Addr) : entryFrame m #[(.int x0), (.ref x1)] 2 = mkF m 0 #[.val (.int x0), .val (.ref x1)] [] := by first | (simp [entryFrame, mkF, argsToLocals, Value.category]; done) | rfl
def Q_rm40 (Z : State) (j : Nat) (t1 : Addr) (k1 : ClassId) (cs : List Int32) (fm : Value) (h0 : Heap) (n0 : Nat) (v : Option Value) (h : Heap) (L : List Loc) : Prop := (v = none) ∧ (Fr n0 L) ∧ (h = h0)
theorem d40_0 : decode jdk_52_method_91_code 0 = .ok (.iload_n 0, 1) := by decide +kernel
theorem d40_1 : decode jdk_52_method_91_code 1 = .ok (.aload_n 1, 1) := by decide +kernel
theorem d40_2 : decode jdk_52_method_91_code 2 = .ok (.invokestatic 48, 3) := by decide +kernel
theorem pd_1 : parseMethodDescriptor "([B)I" = some ⟨[(.array .byte)], some .int⟩ := by decide +kernel
theorem d40_5 : decode jdk_52_method_91_code 5 = .ok (.invokestatic 414, 3) := by decide +kernel
theorem pd_2 : parseMethodDescriptor "(II)V" = some ⟨[.int, .int], none⟩ := by decide +kernel
theorem d40_8 : decode jdk_52_method_91_code 8 = .ok (.return_, 1) := by decide +kernel
set_option maxRecDepth 65536 in
set_option maxHeartbeats 40000000 in
theorem rm40 (l : Launch) (Z : State) (a0 : Array Value) (hw : ∀ d ∈ tables_1, d.before a0 Z = true) (ws : List Jvm.Cond) (j : Nat) (t1 : Addr) (k1 : ClassId) (cs : List Int32) (fm : Value) (h0 : Heap) (n0 : Nat) (O0 : Old Z n0 h0) (AW : Arv Z h0 t1 k1 .byte (Int32.ofNat (2 * cs.length)) (wideBytes cs) (.int (0 : Int32))) (hs : cs.length ≤ 6) (hj : j < cs.length) (SF : Sta Z Z.heap "jdk/internal/util/Preconditions" "SIOOBE_FORMATTER" "Ljava/util/function/BiFunction;" fm) (RF : fm.isRef = true) :
    MetFree l (⟨"java/lang/StringUTF16", "checkIndex", "(I[B)V"⟩ : MethodName) (head1 (Jvm.Cond.code (⟨"java/lang/StringUTF16", "checkIndex", "(I[B)V"⟩ : MethodName) jdk_52_method_91_code 2 none :: ws) ({ frames := 2, cells := 0, slots := 0, locals := 27 } : Room)) (fun a U => a = #[(.int (Int32.ofNat j)), (.ref t1)] ∧ Z.Warmed39 U.vm ∧ U.heap = h0) (fun _ _ _ _ _ => True) (fun _ U o U' => ∃ v L, o = .returned v ∧ Q_rm40 Z j t1 k1 cs fm h0 n0 v U'.heap L ∧ FrameEnd U o U' L ({ frames := 2, cells := 0, slots := 0, locals := 27 } : Room).cells ({ frames := 2, cells := 0, slots := 0, locals := 27 } : Room).slots) := by
  refine MetFree.of_bodySF (plainFor_of_name pn_0) hisR ?_
  intro p e s m args below meth c s₁ Bd hml0 hP hK
  obtain ⟨rfl, hZ, hh⟩ := hP
  have hx := Bd.exec
  have hby := Bd.bytes
  have hml : c.maxLocals = 2 := hml0
  have hown : s.vm.findClass "java/lang/StringUTF16" = some m.cls := findClass_of_methodNamed Bd.named
  have hnm := (name_of_methodNamed Bd.named Bd.method).1
  have X0 : Stand p l e ({ frames := 2, cells := 0, slots := 0, locals := 27 } : Room) s m #[(.int (Int32.ofNat j)), (.ref t1)] below meth c s₁ [] 0 0 := Stand.of_body Bd
  have e0 : s₁.heap = h0 := by rw [← hh, Bd.state]; rfl
  have N0 := Fr.nil n0
  have Z0 : n0 ≤ h0.size := old_le O0
  have pre0 : ∀ t, Steps p.tables e below (s₁.setTop (mkF m 0 #[.val (.int (Int32.ofNat j)), .val (.ref t1)] [])) t → Steps p.tables e below (s₁.setTop (entryFrame m #[(.int (Int32.ofNat j)), (.ref t1)] 2)) t := fun t k => castTop (ef_rm40 m (Int32.ofNat j) t1) k
  obtain ⟨_, _, ⟨T101, L101, k101, n101⟩, -, X101, ⟨Lc101, hQ101, l101, y101, z101⟩, st101⟩ := Jvm.LawKit.callS X0 hx (y := (⟨"java/lang/StringUTF16", "length", "([B)I"⟩ : MethodName)) hown (mvT hZ (hwk hw 145 rfl)) (mvT hZ (hwk hw 146 rfl)) (mvT hZ (hwk hw 84 rfl)) (mvT hZ (hwk hw 147 rfl)) (by decide) (backOf (W := 1) (rm35 l Z a0 hw [] t1 k1 cs h0 n0 O0 AW hs) hZ (hwk hw 147 rfl) (hwk hw 84 rfl) (by decide) (by decide)) (g := (mkF m 2 #[.val (.int (Int32.ofNat j)), .val (.ref t1)] [(.ref t1), (.int (Int32.ofNat j))])) rfl (by rw [hml]; rfl) (argsL := [(.ref t1)]) (rest := [(.int (Int32.ofNat j))]) (lenOf pd_1 rfl) rfl (by show 2 * 0 + _ ≤ _; exact Nat.le_of_eq rfl) (hb hby d40_2) (fun _ _ => ⟨rfl, e0, (by decide : 0 + 0 ≤ _), (by decide : 0 + 0 ≤ _)⟩)
  dsimp only [Pt.U, Pt.locs, Pt.cells, Pt.slots] at X101 l101 y101 z101 st101 hQ101
  subst l101 y101 z101
  unfold Q_rm35 at hQ101
  obtain ⟨rfl, N101q, e101⟩ := hQ101
  have N101 := Fr.app N0 N101q
  obtain ⟨_, _, ⟨T102, L102, k102, n102⟩, -, X102, ⟨Lc102, hQ102, l102, y102, z102⟩, st102⟩ := Jvm.LawKit.callS X101 hx (y := (⟨"java/lang/String", "checkIndex", "(II)V"⟩ : MethodName)) hown (mvT hZ (hwk hw 163 rfl)) (mvT hZ (hwk hw 107 rfl)) (mvT hZ (hwk hw 8 rfl)) (mvT hZ (hwk hw 108 rfl)) (by decide) (backOf (W := 0) (rm25 l Z a0 hw [] (Int32.ofNat j) (Int32.ofNat cs.length) fm h0 n0 O0 (own_inb hj (by omega)).1 (own_inb hj (by omega)).2 SF RF) hZ (hwk hw 108 rfl) (hwk hw 8 rfl) (by decide) (by decide)) (g := (mkF m 5 #[.val (.int (Int32.ofNat j)), .val (.ref t1)] [(.int (Int32.ofNat cs.length)), (.int (Int32.ofNat j))])) rfl (by rw [hml]; rfl) (argsL := [(.int (Int32.ofNat j)), (.int (Int32.ofNat cs.length))]) (rest := []) (lenOf pd_2 rfl) rfl (by show 2 * 0 + _ ≤ _; exact Nat.le_of_eq rfl) (hb hby d40_5) (fun _ _ => ⟨rfl, e101, (by decide : 0 + 0 ≤ _), (by decide : 0 + 0 ≤ _)⟩)
  dsimp only [Pt.U, Pt.locs, Pt.cells, Pt.slots] at X102 l102 y102 z102 st102 hQ102
  subst l102 y102 z102
  unfold Q_rm25 at hQ102
  obtain ⟨rfl, N102q, e102⟩ := hQ102
  have N102 := Fr.app N101 N102q
  obtain ⟨fs, hr, hrun, hended, hW, hsame⟩ := X102.leave (v := none) (fun _ => rfl)
  refine ⟨_, _, pre0 _ ?_, hrun, hended, _, _, rfl, ?_, ⟨_, rfl⟩, hW, hsame.mono (by decide) (by decide)⟩
  · show Steps p.tables e below (s₁.setTop (mkF m 0 #[.val (.int (Int32.ofNat j)), .val (.ref t1)] [])) _
    refine XS.iloadN X0.here hx rfl (hb hby d40_0) rfl ?_
    refine XS.aloadN X0.here hx rfl (hb hby d40_1) rfl rfl ?_
    show Steps p.tables e below (s₁.setTop (mkF m 2 #[.val (.int (Int32.ofNat j)), .val (.ref t1)] [(.ref t1), (.int (Int32.ofNat j))])) _
    refine st101 _ ?_
    show Steps p.tables e below (T101.setTop (mkF m 5 #[.val (.int (Int32.ofNat j)), .val (.ref t1)] [(.int (Int32.ofNat cs.length)), (.int (Int32.ofNat j))])) _
    refine st102 _ ?_
    show Steps p.tables e below (T102.setTop (mkF m 8 #[.val (.int (Int32.ofNat j)), .val (.ref t1)] [])) _
    exact X102.returnOut hx Bd.returns (hb hby d40_8) hr
  · show Q_rm40 Z j t1 k1 cs fm h0 n0 _ T102.heap _
    rw [e102]
    unfold Q_rm40
    exact ⟨rfl, N102, rfl⟩
theorem ef_rm31 (m : MethodId) (x0 : Addr) (x1 : Int32) : entryFrame m #[(.ref x0), (.int x1)] 2 = mkF m 0 #[.val (.ref x0), .val (.int x1)] [] := by first | (simp [entryFrame, mkF, argsToLocals, Value.category]; done) | rfl
def Q_rm31 (Z : State) (j : Nat) (t1 : Addr) (k1 : ClassId) (cs : List Int32) (h0 : Heap) (n0 : Nat) (v : Option Value) (h : Heap) (L : List Loc) : Prop := (v = some (.int (cs.getD j 0))) ∧ (Fr n0 L) ∧ (h = h0)
theorem d31_0 : decode jdk_52_method_5_code 0 = .ok (.getstatic 44, 3) := by decide +kernel
theorem d31_3 : decode jdk_52_method_5_code 3 = .ok (.ifCond .ne 25, 3) := by decide +kernel
theorem d31_28 : decode jdk_52_method_5_code 28 = .ok (.iload_n 1, 1) := by decide +kernel
theorem d31_29 : decode jdk_52_method_5_code 29 = .ok (.iconst 1, 1) := by decide +kernel
theorem d31_30 : decode jdk_52_method_5_code 30 = .ok (.ishl, 1) := by decide +kernel
theorem d31_31 : decode jdk_52_method_5_code 31 = .ok (.istore_n 1, 1) := by decide +kernel
theorem d31_32 : decode jdk_52_method_5_code 32 = .ok (.aload_n 0, 1) := by decide +kernel
theorem d31_33 : decode jdk_52_method_5_code 33 = .ok (.iload_n 1, 1) := by decide +kernel
theorem d31_34 : decode jdk_52_method_5_code 34 = .ok (.iinc 1 1, 3) := by decide +kernel
theorem d31_37 : decode jdk_52_method_5_code 37 = .ok (.baload, 1) := by decide +kernel
theorem d31_38 : decode jdk_52_method_5_code 38 = .ok (.sipush 255, 3) := by decide +kernel
theorem d31_41 : decode jdk_52_method_5_code 41 = .ok (.iand, 1) := by decide +kernel
theorem d31_42 : decode jdk_52_method_5_code 42 = .ok (.getstatic 59, 3) := by decide +kernel
theorem d31_45 : decode jdk_52_method_5_code 45 = .ok (.ishl, 1) := by decide +kernel
theorem d31_46 : decode jdk_52_method_5_code 46 = .ok (.aload_n 0, 1) := by decide +kernel
theorem d31_47 : decode jdk_52_method_5_code 47 = .ok (.iload_n 1, 1) := by decide +kernel
theorem d31_48 : decode jdk_52_method_5_code 48 = .ok (.baload, 1) := by decide +kernel
theorem d31_49 : decode jdk_52_method_5_code 49 = .ok (.sipush 255, 3) := by decide +kernel
theorem d31_52 : decode jdk_52_method_5_code 52 = .ok (.iand, 1) := by decide +kernel
theorem d31_53 : decode jdk_52_method_5_code 53 = .ok (.getstatic 63, 3) := by decide +kernel
theorem d31_56 : decode jdk_52_method_5_code 56 = .ok (.ishl, 1) := by decide +kernel
theorem d31_57 : decode jdk_52_method_5_code 57 = .ok (.ior, 1) := by decide +kernel
theorem d31_58 : decode jdk_52_method_5_code 58 = .ok (.i2c, 1) := by decide +kernel
theorem d31_59 : decode jdk_52_method_5_code 59 = .ok (.ireturn, 1) := by decide +kernel
set_option maxRecDepth 65536 in
set_option maxHeartbeats 40000000 in
theorem rm31 (l : Launch) (Z : State) (a0 : Array Value) (hw : ∀ d ∈ tables_1, d.before a0 Z = true) (ws : List Jvm.Cond) (j : Nat) (t1 : Addr) (k1 : ClassId) (cs : List Int32) (h0 : Heap) (n0 : Nat) (O0 : Old Z n0 h0) (AW : Arv Z h0 t1 k1 .byte (Int32.ofNat (2 * cs.length)) (wideBytes cs) (.int (0 : Int32))) (hs : cs.length ≤ 6) (hq : ∀ c ∈ cs, C16 c) (hj : j < cs.length) (SA : Sta Z Z.heap "java/lang/StringUTF16" "$assertionsDisabled" "Z" (.int (1 : Int32))) (SH : Sta Z Z.heap "java/lang/StringUTF16" "HI_BYTE_SHIFT" "I" (.int (0 : Int32))) (SL : Sta Z Z.heap "java/lang/StringUTF16" "LO_BYTE_SHIFT" "I" (.int (8 : Int32))) :
    MetFree l (⟨"java/lang/StringUTF16", "getChar", "([BI)C"⟩ : MethodName) (head1 (Jvm.Cond.code (⟨"java/lang/StringUTF16", "getChar", "([BI)C"⟩ : MethodName) jdk_52_method_5_code 2 (some .char) :: ws) ({ frames := 0, cells := 0, slots := 0, locals := 0 } : Room)) (fun a U => a = #[(.ref t1), (.int (Int32.ofNat j))] ∧ Z.Warmed39 U.vm ∧ U.heap = h0) (fun _ _ _ _ _ => True) (fun _ U o U' => ∃ v L, o = .returned v ∧ Q_rm31 Z j t1 k1 cs h0 n0 v U'.heap L ∧ FrameEnd U o U' L ({ frames := 0, cells := 0, slots := 0, locals := 0 } : Room).cells ({ frames := 0, cells := 0, slots := 0, locals := 0 } : Room).slots) := by
  refine MetFree.of_bodySF (plainFor_of_name pn_0) hisR ?_
  intro p e s m args below meth c s₁ Bd hml0 hP hK
  obtain ⟨rfl, hZ, hh⟩ := hP
  have hx := Bd.exec
  have hby := Bd.bytes
  have hml : c.maxLocals = 2 := hml0
  have hown : s.vm.findClass "java/lang/StringUTF16" = some m.cls := findClass_of_methodNamed Bd.named
  have hnm := (name_of_methodNamed Bd.named Bd.method).1
  have X0 : Stand p l e ({ frames := 0, cells := 0, slots := 0, locals := 0 } : Room) s m #[(.ref t1), (.int (Int32.ofNat j))] below meth c s₁ [] 0 0 := Stand.of_body Bd
  have e0 : s₁.heap = h0 := by rw [← hh, Bd.state]; rfl
  have N0 := Fr.nil n0
  have Z0 : n0 ≤ h0.size := old_le O0
  have pre0 : ∀ t, Steps p.tables e below (s₁.setTop (mkF m 0 #[.val (.ref t1), .val (.int (Int32.ofNat j))] [])) t → Steps p.tables e below (s₁.setTop (entryFrame m #[(.ref t1), (.int (Int32.ofNat j))] 2)) t := fun t k => castTop (ef_rm31 m t1 (Int32.ofNat j)) k
  have c101 : Sta Z h0 "java/lang/StringUTF16" "$assertionsDisabled" "Z" (.int (1 : Int32)) := Sta.ext (O0).2 SA
  obtain ⟨T102, X102, e102, st102⟩ := getS2 X0 hx hZ hown (host := "") (Or.inl (hwk hw 127 rfl)) Via.refl e0 c101 (g := (mkF m 0 #[.val (.ref t1), .val (.int (Int32.ofNat j))] [])) rfl (hb hby d31_0)
  obtain ⟨clq103, Arq103, kqq103, Szq103, Nnq103, Hsq103, Gsq103⟩ := id AW
  have hinq103 : ¬ ((Int32.ofNat (2 * j)) < 0 ∨ clq103.slots.size ≤ ((Int32.ofNat (2 * j))).toNatClampNeg) := inb_of Szq103 (own_inb (by omega) (by omega))
  have c104 : Sta Z h0 "java/lang/StringUTF16" "HI_BYTE_SHIFT" "I" (.int (0 : Int32)) := Sta.ext (O0).2 SH
  obtain ⟨T105, X105, e105, st105⟩ := getS2 X102 hx hZ hown (host := "") (Or.inl (hwk hw 128 rfl)) Via.refl e102 c104 (g := (mkF m 42 #[.val (.ref t1), .val (.int (Int32.ofNat (2 * j + 1)))] [(.int ((lo8 (cs.getD j 0)) &&& (255 : Int32)))])) rfl (hb hby d31_42)
  obtain ⟨clq106, Arq106, kqq106, Szq106, Nnq106, Hsq106, Gsq106⟩ := id AW
  have hinq106 : ¬ ((Int32.ofNat (2 * j + 1)) < 0 ∨ clq106.slots.size ≤ ((Int32.ofNat (2 * j + 1))).toNatClampNeg) := inb_of Szq106 (own_inb (by omega) (by omega))
  have c107 : Sta Z h0 "java/lang/StringUTF16" "LO_BYTE_SHIFT" "I" (.int (8 : Int32)) := Sta.ext (O0).2 SL
  obtain ⟨T108, X108, e108, st108⟩ := getS2 X105 hx hZ hown (host := "") (Or.inl (hwk hw 129 rfl)) Via.refl e105 c107 (g := (mkF m 53 #[.val (.ref t1), .val (.int (Int32.ofNat (2 * j + 1)))] [(.int ((hi8 (cs.getD j 0)) &&& (255 : Int32))), (.int ((lo8 (cs.getD j 0)) &&& (255 : Int32)))])) rfl (hb hby d31_53)
  obtain ⟨fs, hr, hrun, hended, hW, hsame⟩ := X108.leave (v := some (.int (nar .char ((((lo8 (cs.getD j 0)) &&& (255 : Int32)) ||| (((hi8 (cs.getD j 0)) &&& (255 : Int32)) <<< ((8 : Int32) &&& 31))).toUInt32.toUInt16.toUInt32.toInt32)))) (fun h => by rw [Bd.returns] at h; cases h)
  refine ⟨_, _, pre0 _ ?_, hrun, hended, _, _, rfl, ?_, ⟨_, rfl⟩, hW, hsame.mono (by decide) (by decide)⟩
  · show Steps p.tables e below (s₁.setTop (mkF m 0 #[.val (.ref t1), .val (.int (Int32.ofNat j))] [])) _
    refine st102 _ ?_
    show Steps p.tables e below (T102.setTop (mkF m 3 #[.val (.ref t1), .val (.int (Int32.ofNat j))] [(.int (1 : Int32))])) _
    refine XS.ifYes X102.here hx rfl (pc0 := 3) (pc' := 28) rfl (hb hby d31_3) rfl ((if0 _ _).trans (feq (by decide : ¬ ((1 : Int32) = (0 : Int32)))).2) (by decide) (by decide) ?_
    show Steps p.tables e below (T102.setTop (mkF m 28 #[.val (.ref t1), .val (.int (Int32.ofNat j))] [])) _
    refine XS.iloadN X102.here hx rfl (hb hby d31_28) rfl ?_
    refine XS.iconst X102.here hx rfl (hb hby d31_29) ?_
    refine XS.ishl X102.here hx rfl (hb hby d31_30) rfl ?_
    show Steps p.tables e below (T102.setTop (mkF m 31 #[.val (.ref t1), .val (.int (Int32.ofNat j))] [(.int ((Int32.ofNat j) <<< ((1 : Int32) &&& 31)))])) _
    rw [own_dbl (show j < 16 by omega)]
    show Steps p.tables e below (T102.setTop (mkF m 31 #[.val (.ref t1), .val (.int (Int32.ofNat j))] [(.int (Int32.ofNat (2 * j)))])) _
    refine XS.istoreN X102.here hx rfl (hb hby d31_31) rfl (l' := #[.val (.ref t1), .val (.int (Int32.ofNat (2 * j)))]) rfl ?_
    show Steps p.tables e below (T102.setTop (mkF m 32 #[.val (.ref t1), .val (.int (Int32.ofNat (2 * j)))] [])) _
    refine XS.aloadN X102.here hx rfl (hb hby d31_32) rfl rfl ?_
    refine XS.iloadN X102.here hx rfl (hb hby d31_33) rfl ?_
    refine XS.iinc X102.here hx rfl (hb hby d31_34) rfl (l' := #[.val (.ref t1), .val (.int ((Int32.ofNat (2 * j)) + (1 : Int32)))]) rfl ?_
    show Steps p.tables e below (T102.setTop (mkF m 37 #[.val (.ref t1), .val (.int ((Int32.ofNat (2 * j)) + (1 : Int32)))] [(.int (Int32.ofNat (2 * j))), (.ref t1)])) _
    rw [own_succ]
    show Steps p.tables e below (T102.setTop (mkF m 37 #[.val (.ref t1), .val (.int (Int32.ofNat (2 * j + 1)))] [(.int (Int32.ofNat (2 * j))), (.ref t1)])) _
    refine X102.baloadBytes hx (j := (Int32.ofNat (2 * j))) (v := (.int (lo8 (cs.getD j 0)))) (by rw [e102]; exact Arq103.1) (State.isArrayOf_alike hZ.alike Arq103.2.1) Arq103.2.2 hinq103 (Has.at Hsq103 hinq103 (own_lo hj hs)) (g := (mkF m 37 #[.val (.ref t1), .val (.int (Int32.ofNat (2 * j + 1)))] [(.int (Int32.ofNat (2 * j))), (.ref t1)])) rfl rfl (hb hby d31_37) _ ?_
    show Steps p.tables e below (T102.setTop (mkF m 38 #[.val (.ref t1), .val (.int (Int32.ofNat (2 * j + 1)))] [(.int (lo8 (cs.getD j 0)))])) _
    refine XS.sipush X102.here hx rfl (hb hby d31_38) ?_
    refine XS.iand X102.here hx rfl (hb hby d31_41) rfl ?_
    show Steps p.tables e below (T102.setTop (mkF m 42 #[.val (.ref t1), .val (.int (Int32.ofNat (2 * j + 1)))] [(.int ((lo8 (cs.getD j 0)) &&& (255 : Int32)))])) _
    refine st105 _ ?_
    show Steps p.tables e below (T105.setTop (mkF m 45 #[.val (.ref t1), .val (.int (Int32.ofNat (2 * j + 1)))] [(.int (0 : Int32)), (.int ((lo8 (cs.getD j 0)) &&& (255 : Int32)))])) _
    refine XS.ishl X105.here hx rfl (hb hby d31_45) rfl ?_
    show Steps p.tables e below (T105.setTop (mkF m 46 #[.val (.ref t1), .val (.int (Int32.ofNat (2 * j + 1)))] [(.int (((lo8 (cs.getD j 0)) &&& (255 : Int32)) <<< ((0 : Int32) &&& 31)))])) _
    rw [own_shl0 ((lo8 (cs.getD j 0)) &&& (255 : Int32))]
    show Steps p.tables e below (T105.setTop (mkF m 46 #[.val (.ref t1), .val (.int (Int32.ofNat (2 * j + 1)))] [(.int ((lo8 (cs.getD j 0)) &&& (255 : Int32)))])) _
    refine XS.aloadN X105.here hx rfl (hb hby d31_46) rfl rfl ?_
    refine XS.iloadN X105.here hx rfl (hb hby d31_47) rfl ?_
    show Steps p.tables e below (T105.setTop (mkF m 48 #[.val (.ref t1), .val (.int (Int32.ofNat (2 * j + 1)))] [(.int (Int32.ofNat (2 * j + 1))), (.ref t1), (.int ((lo8 (cs.getD j 0)) &&& (255 : Int32)))])) _
    refine X105.baloadBytes hx (j := (Int32.ofNat (2 * j + 1))) (v := (.int (hi8 (cs.getD j 0)))) (by rw [e105]; exact Arq106.1) (State.isArrayOf_alike hZ.alike Arq106.2.1) Arq106.2.2 hinq106 (Has.at Hsq106 hinq106 (own_hi hj hs)) (g := (mkF m 48 #[.val (.ref t1), .val (.int (Int32.ofNat (2 * j + 1)))] [(.int (Int32.ofNat (2 * j + 1))), (.ref t1), (.int ((lo8 (cs.getD j 0)) &&& (255 : Int32)))])) rfl rfl (hb hby d31_48) _ ?_
    show Steps p.tables e below (T105.setTop (mkF m 49 #[.val (.ref t1), .val (.int (Int32.ofNat (2 * j + 1)))] [(.int (hi8 (cs.getD j 0))), (.int ((lo8 (cs.getD j 0)) &&& (255 : Int32)))])) _
    refine XS.sipush X105.here hx rfl (hb hby d31_49) ?_
    refine XS.iand X105.here hx rfl (hb hby d31_52) rfl ?_
    show Steps p.tables e below (T105.setTop (mkF m 53 #[.val (.ref t1), .val (.int (Int32.ofNat (2 * j + 1)))] [(.int ((hi8 (cs.getD j 0)) &&& (255 : Int32))), (.int ((lo8 (cs.getD j 0)) &&& (255 : Int32)))])) _
    refine st108 _ ?_
    show Steps p.tables e below (T108.setTop (mkF m 56 #[.val (.ref t1), .val (.int (Int32.ofNat (2 * j + 1)))] [(.int (8 : Int32)), (.int ((hi8 (cs.getD j 0)) &&& (255 : Int32))), (.int ((lo8 (cs.getD j 0)) &&& (255 : Int32)))])) _
    refine XS.ishl X108.here hx rfl (hb hby d31_56) rfl ?_
    show Steps p.tables e below (T108.setTop (mkF m 57 #[.val (.ref t1), .val (.int (Int32.ofNat (2 * j + 1)))] [(.int (((hi8 (cs.getD j 0)) &&& (255 : Int32)) <<< ((8 : Int32) &&& 31))), (.int ((lo8 (cs.getD j 0)) &&& (255 : Int32)))])) _
    refine XS.ior X108.here hx rfl (hb hby d31_57) rfl ?_
    show Steps p.tables e below (T108.setTop (mkF m 58 #[.val (.ref t1), .val (.int (Int32.ofNat (2 * j + 1)))] [(.int (((lo8 (cs.getD j 0)) &&& (255 : Int32)) ||| (((hi8 (cs.getD j 0)) &&& (255 : Int32)) <<< ((8 : Int32) &&& 31))))])) _
    refine XS.i2c X108.here hx rfl (hb hby d31_58) rfl ?_
    show Steps p.tables e below (T108.setTop (mkF m 59 #[.val (.ref t1), .val (.int (Int32.ofNat (2 * j + 1)))] [(.int ((((lo8 (cs.getD j 0)) &&& (255 : Int32)) ||| (((hi8 (cs.getD j 0)) &&& (255 : Int32)) <<< ((8 : Int32) &&& 31))).toUInt32.toUInt16.toUInt32.toInt32))])) _
    exact retN X108 hx (t := .char) Bd.returns (by simp) (hb hby d31_59) hr
  · show Q_rm31 Z j t1 k1 cs h0 n0 _ T108.heap _
    rw [e108]
    unfold Q_rm31
    exact ⟨(congrArg (fun z => some (Value.int z)) (own_gc (own_getD16 hq j))), N0, rfl⟩
theorem ef_rm39 (m : MethodId) (x0 : Addr) (x1 : Int32) : entryFrame m #[(.ref x0), (.int x1)] 2 = mkF m 0 #[.val (.ref x0), .val (.int x1)] [] := by first | (simp [entryFrame, mkF, argsToLocals, Value.category]; done) | rfl
def Q_rm39 (Z : State) (j : Nat) (t1 : Addr) (k1 : ClassId) (cs : List Int32) (fm : Value) (h0 : Heap) (n0 : Nat) (v : Option Value) (h : Heap) (L : List Loc) : Prop := (v = some (.int (cs.getD j 0))) ∧ (Fr n0 L) ∧ (h = h0)
theorem d39_0 : decode jdk_52_method_83_code 0 = .ok (.iload_n 1, 1) := by decide +kernel
theorem d39_1 : decode jdk_52_method_83_code 1 = .ok (.aload_n 0, 1) := by decide +kernel
theorem d39_2 : decode jdk_52_method_83_code 2 = .ok (.invokestatic 67, 3) := by decide +kernel
theorem pd_3 : parseMethodDescriptor "(I[B)V" = some ⟨[.int, (.array .byte)], none⟩ := by decide +kernel
theorem d39_5 : decode jdk_52_method_83_code 5 = .ok (.aload_n 0, 1) := by decide +kernel
theorem d39_6 : decode jdk_52_method_83_code 6 = .ok (.iload_n 1, 1) := by decide +kernel
theorem d39_7 : decode jdk_52_method_83_code 7 = .ok (.invokestatic 71, 3) := by decide +kernel
theorem pd_4 : parseMethodDescriptor "([BI)C" = some ⟨[(.array .byte), .int], some .char⟩ := by decide +kernel
theorem d39_10 : decode jdk_52_method_83_code 10 = .ok (.ireturn, 1) := by decide +kernel
set_option maxRecDepth 65536 in
set_option maxHeartbeats 40000000 in
theorem rm39 (l : Launch) (Z : State) (a0 : Array Value) (hw : ∀ d ∈ tables_1, d.before a0 Z = true) (ws : List Jvm.Cond) (j : Nat) (t1 : Addr) (k1 : ClassId) (cs : List Int32) (fm : Value) (h0 : Heap) (n0 : Nat) (O0 : Old Z n0 h0) (AW : Arv Z h0 t1 k1 .byte (Int32.ofNat (2 * cs.length)) (wideBytes cs) (.int (0 : Int32))) (hs : cs.length ≤ 6) (hq : ∀ c ∈ cs, C16 c) (hj : j < cs.length) (SF : Sta Z Z.heap "jdk/internal/util/Preconditions" "SIOOBE_FORMATTER" "Ljava/util/function/BiFunction;" fm) (RF : fm.isRef = true) (SA : Sta Z Z.heap "java/lang/StringUTF16" "$assertionsDisabled" "Z" (.int (1 : Int32))) (SH : Sta Z Z.heap "java/lang/StringUTF16" "HI_BYTE_SHIFT" "I" (.int (0 : Int32))) (SL : Sta Z Z.heap "java/lang/StringUTF16" "LO_BYTE_SHIFT" "I" (.int (8 : Int32))) :
    MetFree l (⟨"java/lang/StringUTF16", "charAt", "([BI)C"⟩ : MethodName) (head1 (Jvm.Cond.code (⟨"java/lang/StringUTF16", "charAt", "([BI)C"⟩ : MethodName) jdk_52_method_83_code 2 (some .char) :: ws) ({ frames := 3, cells := 0, slots := 0, locals := 40 } : Room)) (fun a U => a = #[(.ref t1), (.int (Int32.ofNat j))] ∧ Z.Warmed39 U.vm ∧ U.heap = h0) (fun _ _ _ _ _ => True) (fun _ U o U' => ∃ v L, o = .returned v ∧ Q_rm39 Z j t1 k1 cs fm h0 n0 v U'.heap L ∧ FrameEnd U o U' L ({ frames := 3, cells := 0, slots := 0, locals := 40 } : Room).cells ({ frames := 3, cells := 0, slots := 0, locals := 40 } : Room).slots) := by
  refine MetFree.of_bodySF (plainFor_of_name pn_0) hisR ?_
  intro p e s m args below meth c s₁ Bd hml0 hP hK
  obtain ⟨rfl, hZ, hh⟩ := hP
  have hx := Bd.exec
  have hby := Bd.bytes
  have hml : c.maxLocals = 2 := hml0
  have hown : s.vm.findClass "java/lang/StringUTF16" = some m.cls := findClass_of_methodNamed Bd.named
  have hnm := (name_of_methodNamed Bd.named Bd.method).1
  have X0 : Stand p l e ({ frames := 3, cells := 0, slots := 0, locals := 40 } : Room) s m #[(.ref t1), (.int (Int32.ofNat j))] below meth c s₁ [] 0 0 := Stand.of_body Bd
  have e0 : s₁.heap = h0 := by rw [← hh, Bd.state]; rfl
  have N0 := Fr.nil n0
  have Z0 : n0 ≤ h0.size := old_le O0
  have pre0 : ∀ t, Steps p.tables e below (s₁.setTop (mkF m 0 #[.val (.ref t1), .val (.int (Int32.ofNat j))] [])) t → Steps p.tables e below (s₁.setTop (entryFrame m #[(.ref t1), (.int (Int32.ofNat j))] 2)) t := fun t k => castTop (ef_rm39 m t1 (Int32.ofNat j)) k
  obtain ⟨_, _, ⟨T101, L101, k101, n101⟩, -, X101, ⟨Lc101, hQ101, l101, y101, z101⟩, st101⟩ := Jvm.LawKit.callS X0 hx (y := (⟨"java/lang/StringUTF16", "checkIndex", "(I[B)V"⟩ : MethodName)) hown (mvT hZ (hwk hw 160 rfl)) (mvT hZ (hwk hw 161 rfl)) (mvT hZ (hwk hw 84 rfl)) (mvT hZ (hwk hw 162 rfl)) (by decide) (backOf (W := 0) (rm40 l Z a0 hw [] j t1 k1 cs fm h0 n0 O0 AW hs hj SF RF) hZ (hwk hw 162 rfl) (hwk hw 84 rfl) (by decide) (by decide)) (g := (mkF m 2 #[.val (.ref t1), .val (.int (Int32.ofNat j))] [(.ref t1), (.int (Int32.ofNat j))])) rfl (by rw [hml]; rfl) (argsL := [(.int (Int32.ofNat j)), (.ref t1)]) (rest := []) (lenOf pd_3 rfl) rfl (by show 2 * 0 + _ ≤ _; exact Nat.le_of_eq rfl) (hb hby d39_2) (fun _ _ => ⟨rfl, e0, (by decide : 0 + 0 ≤ _), (by decide : 0 + 0 ≤ _)⟩)
  dsimp only [Pt.U, Pt.locs, Pt.cells, Pt.slots] at X101 l101 y101 z101 st101 hQ101
  subst l101 y101 z101
  unfold Q_rm40 at hQ101
  obtain ⟨rfl, N101q, e101⟩ := hQ101
  have N101 := Fr.app N0 N101q
  obtain ⟨_, _, ⟨T102, L102, k102, n102⟩, -, X102, ⟨Lc102, hQ102, l102, y102, z102⟩, st102⟩ := Jvm.LawKit.callS X101 hx (y := (⟨"java/lang/StringUTF16", "getChar", "([BI)C"⟩ : MethodName)) hown (mvT hZ (hwk hw 130 rfl)) (mvT hZ (hwk hw 131 rfl)) (mvT hZ (hwk hw 84 rfl)) (mvT hZ (hwk hw 132 rfl)) (by decide) (backOf (W := 0) (rm31 l Z a0 hw [] j t1 k1 cs h0 n0 O0 AW hs hq hj SA SH SL) hZ (hwk hw 132 rfl) (hwk hw 84 rfl) (by decide) (by decide)) (g := (mkF m 7 #[.val (.ref t1), .val (.int (Int32.ofNat j))] [(.int (Int32.ofNat j)), (.ref t1)])) rfl (by rw [hml]; rfl) (argsL := [(.ref t1), (.int (Int32.ofNat j))]) (rest := []) (lenOf pd_4 rfl) rfl (by show 2 * 0 + _ ≤ _; exact Nat.le_of_eq rfl) (hb hby d39_7) (fun _ _ => ⟨rfl, e101, (by decide : 0 + 0 ≤ _), (by decide : 0 + 0 ≤ _)⟩)
  dsimp only [Pt.U, Pt.locs, Pt.cells, Pt.slots] at X102 l102 y102 z102 st102 hQ102
  subst l102 y102 z102
  unfold Q_rm31 at hQ102
  obtain ⟨rfl, N102q, e102⟩ := hQ102
  have N102 := Fr.app N101 N102q
  obtain ⟨fs, hr, hrun, hended, hW, hsame⟩ := X102.leave (v := some (.int (cs.getD j 0))) (fun h => by rw [Bd.returns] at h; cases h)
  refine ⟨_, _, pre0 _ ?_, hrun, hended, _, _, rfl, ?_, ⟨_, rfl⟩, hW, hsame.mono (by decide) (by decide)⟩
  · show Steps p.tables e below (s₁.setTop (mkF m 0 #[.val (.ref t1), .val (.int (Int32.ofNat j))] [])) _
    refine XS.iloadN X0.here hx rfl (hb hby d39_0) rfl ?_
    refine XS.aloadN X0.here hx rfl (hb hby d39_1) rfl rfl ?_
    show Steps p.tables e below (s₁.setTop (mkF m 2 #[.val (.ref t1), .val (.int (Int32.ofNat j))] [(.ref t1), (.int (Int32.ofNat j))])) _
    refine st101 _ ?_
    show Steps p.tables e below (T101.setTop (mkF m 5 #[.val (.ref t1), .val (.int (Int32.ofNat j))] [])) _
    refine XS.aloadN X101.here hx rfl (hb hby d39_5) rfl rfl ?_
    refine XS.iloadN X101.here hx rfl (hb hby d39_6) rfl ?_
    show Steps p.tables e below (T101.setTop (mkF m 7 #[.val (.ref t1), .val (.int (Int32.ofNat j))] [(.int (Int32.ofNat j)), (.ref t1)])) _
    refine st102 _ ?_
    show Steps p.tables e below (T102.setTop (mkF m 10 #[.val (.ref t1), .val (.int (Int32.ofNat j))] [(.int (cs.getD j 0))])) _
    exact Jvm.RoadKit.retOut X102 hx Bd.returns (own_narC16 (own_getD16 hq j)) (Or.inl ⟨rfl, by simp, _, rfl⟩) (hb hby d39_10) hr
  · show Q_rm39 Z j t1 k1 cs fm h0 n0 _ T102.heap _
    rw [e102]
    unfold Q_rm39
    exact ⟨rfl, N102, rfl⟩
theorem ef_rm24 (m : MethodId) (x0 : Addr) (x1 : Int32) : entryFrame m #[(.ref x0), (.int x1)] 2 = mkF m 0 #[.val (.ref x0), .val (.int x1)] [] := by first | (simp [entryFrame, mkF, argsToLocals, Value.category]; done) | rfl
def Q_rm24 (Z : State) (j : Nat) (t1 : Addr) (k1 : ClassId) (cs : List Int32) (fm : Value) (h0 : Heap) (n0 : Nat) (v : Option Value) (h : Heap) (L : List Loc) : Prop := (v = some (.int (cs.getD j 0))) ∧ (Fr n0 L) ∧ (h = h0)
theorem pn_3 : plainName "java/lang/StringLatin1" = true := by first | (simp [plainName, overriddenIn]; done) | decide +kernel
theorem d24_0 : decode jdk_43_method_2_code 0 = .ok (.iload_n 1, 1) := by decide +kernel
theorem d24_1 : decode jdk_43_method_2_code 1 = .ok (.aload_n 0, 1) := by decide +kernel
theorem d24_2 : decode jdk_43_method_2_code 2 = .ok (.arraylength, 1) := by decide +kernel
theorem d24_3 : decode jdk_43_method_2_code 3 = .ok (.invokestatic 9, 3) := by decide +kernel
theorem d24_6 : decode jdk_43_method_2_code 6 = .ok (.aload_n 0, 1) := by decide +kernel
theorem d24_7 : decode jdk_43_method_2_code 7 = .ok (.iload_n 1, 1) := by decide +kernel
theorem d24_8 : decode jdk_43_method_2_code 8 = .ok (.baload, 1) := by decide +kernel
theorem d24_9 : decode jdk_43_method_2_code 9 = .ok (.sipush 255, 3) := by decide +kernel
theorem d24_12 : decode jdk_43_method_2_code 12 = .ok (.iand, 1) := by decide +kernel
theorem d24_13 : decode jdk_43_method_2_code 13 = .ok (.i2c, 1) := by decide +kernel
theorem d24_14 : decode jdk_43_method_2_code 14 = .ok (.ireturn, 1) := by decide +kernel
set_option maxRecDepth 65536 in
set_option maxHeartbeats 40000000 in
theorem rm24 (l : Launch) (Z : State) (a0 : Array Value) (hw : ∀ d ∈ tables_1, d.before a0 Z = true) (ws : List Jvm.Cond) (j : Nat) (t1 : Addr) (k1 : ClassId) (cs : List Int32) (fm : Value) (h0 : Heap) (n0 : Nat) (O0 : Old Z n0 h0) (AL : Arv Z h0 t1 k1 .byte (Int32.ofNat cs.length) (cs.map fun c => Value.int (lo8 c)) (.int (0 : Int32))) (hs : cs.length ≤ 6) (hq : ∀ c ∈ cs, C16 c) (hl : ∀ c ∈ cs, ¬ (255 : Int32) < c) (hj : j < cs.length) (SF : Sta Z Z.heap "jdk/internal/util/Preconditions" "SIOOBE_FORMATTER" "Ljava/util/function/BiFunction;" fm) (RF : fm.isRef = true) :
    MetFree l (⟨"java/lang/StringLatin1", "charAt", "([BI)C"⟩ : MethodName) (head1 (Jvm.Cond.code (⟨"java/lang/StringLatin1", "charAt", "([BI)C"⟩ : MethodName) jdk_43_method_2_code 2 (some .char) :: ws) ({ frames := 2, cells := 0, slots := 0, locals := 27 } : Room)) (fun a U => a = #[(.ref t1), (.int (Int32.ofNat j))] ∧ Z.Warmed39 U.vm ∧ U.heap = h0) (fun _ _ _ _ _ => True) (fun _ U o U' => ∃ v L, o = .returned v ∧ Q_rm24 Z j t1 k1 cs fm h0 n0 v U'.heap L ∧ FrameEnd U o U' L ({ frames := 2, cells := 0, slots := 0, locals := 27 } : Room).cells ({ frames := 2, cells := 0, slots := 0, locals := 27 } : Room).slots) := by
  refine MetFree.of_bodySF (plainFor_of_name pn_3) hisR ?_
  intro p e s m args below meth c s₁ Bd hml0 hP hK
  obtain ⟨rfl, hZ, hh⟩ := hP
  have hx := Bd.exec
  have hby := Bd.bytes
  have hml : c.maxLocals = 2 := hml0
  have hown : s.vm.findClass "java/lang/StringLatin1" = some m.cls := findClass_of_methodNamed Bd.named
  have hnm := (name_of_methodNamed Bd.named Bd.method).1
  have X0 : Stand p l e ({ frames := 2, cells := 0, slots := 0, locals := 27 } : Room) s m #[(.ref t1), (.int (Int32.ofNat j))] below meth c s₁ [] 0 0 := Stand.of_body Bd
  have e0 : s₁.heap = h0 := by rw [← hh, Bd.state]; rfl
  have N0 := Fr.nil n0
  have Z0 : n0 ≤ h0.size := old_le O0
  have pre0 : ∀ t, Steps p.tables e below (s₁.setTop (mkF m 0 #[.val (.ref t1), .val (.int (Int32.ofNat j))] [])) t → Steps p.tables e below (s₁.setTop (entryFrame m #[(.ref t1), (.int (Int32.ofNat j))] 2)) t := fun t k => castTop (ef_rm24 m t1 (Int32.ofNat j)) k
  obtain ⟨cl101, Ar101, -, Sz101, Nn101, -, -⟩ := id AL
  obtain ⟨_, _, ⟨T102, L102, k102, n102⟩, -, X102, ⟨Lc102, hQ102, l102, y102, z102⟩, st102⟩ := Jvm.LawKit.callS X0 hx (y := (⟨"java/lang/String", "checkIndex", "(II)V"⟩ : MethodName)) hown (mvT hZ (hwk hw 106 rfl)) (mvT hZ (hwk hw 107 rfl)) (mvT hZ (hwk hw 8 rfl)) (mvT hZ (hwk hw 108 rfl)) (by decide) (backOf (W := 0) (rm25 l Z a0 hw [] (Int32.ofNat j) (Int32.ofNat cs.length) fm h0 n0 O0 (own_inb hj (by omega)).1 (own_inb hj (by omega)).2 SF RF) hZ (hwk hw 108 rfl) (hwk hw 8 rfl) (by decide) (by decide)) (g := (mkF m 3 #[.val (.ref t1), .val (.int (Int32.ofNat j))] [(.int (Int32.ofNat cs.length)), (.int (Int32.ofNat j))])) rfl (by rw [hml]; rfl) (argsL := [(.int (Int32.ofNat j)), (.int (Int32.ofNat cs.length))]) (rest := []) (lenOf pd_2 rfl) rfl (by show 2 * 0 + _ ≤ _; exact Nat.le_of_eq rfl) (hb hby d24_3) (fun _ _ => ⟨rfl, e0, (by decide : 0 + 0 ≤ _), (by decide : 0 + 0 ≤ _)⟩)
  dsimp only [Pt.U, Pt.locs, Pt.cells, Pt.slots] at X102 l102 y102 z102 st102 hQ102
  subst l102 y102 z102
  unfold Q_rm25 at hQ102
  obtain ⟨rfl, N102q, e102⟩ := hQ102
  have N102 := Fr.app N0 N102q
  obtain ⟨clq103, Arq103, kqq103, Szq103, Nnq103, Hsq103, Gsq103⟩ := id AL
  have hinq103 : ¬ ((Int32.ofNat j) < 0 ∨ clq103.slots.size ≤ ((Int32.ofNat j)).toNatClampNeg) := inb_of Szq103 (own_inb hj (by omega))
  obtain ⟨fs, hr, hrun, hended, hW, hsame⟩ := X102.leave (v := some (.int (nar .char (((lo8 (cs.getD j 0)) &&& (255 : Int32)).toUInt32.toUInt16.toUInt32.toInt32)))) (fun h => by rw [Bd.returns] at h; cases h)
  refine ⟨_, _, pre0 _ ?_, hrun, hended, _, _, rfl, ?_, ⟨_, rfl⟩, hW, hsame.mono (by decide) (by decide)⟩
  · show Steps p.tables e below (s₁.setTop (mkF m 0 #[.val (.ref t1), .val (.int (Int32.ofNat j))] [])) _
    refine XS.iloadN X0.here hx rfl (hb hby d24_0) rfl ?_
    refine XS.aloadN X0.here hx rfl (hb hby d24_1) rfl rfl ?_
    show Steps p.tables e below (s₁.setTop (mkF m 2 #[.val (.ref t1), .val (.int (Int32.ofNat j))] [(.ref t1), (.int (Int32.ofNat j))])) _
    refine X0.arraylength hx (by rw [e0]; exact Ar101.1) (State.isArrayOf_alike hZ.alike Ar101.2.1) (g := (mkF m 2 #[.val (.ref t1), .val (.int (Int32.ofNat j))] [(.ref t1), (.int (Int32.ofNat j))])) rfl rfl (hb hby d24_2) _ ?_
    rw [len_of Sz101 Nn101]
    show Steps p.tables e below (s₁.setTop (mkF m 3 #[.val (.ref t1), .val (.int (Int32.ofNat j))] [(.int (Int32.ofNat cs.length)), (.int (Int32.ofNat j))])) _
    refine st102 _ ?_
    show Steps p.tables e below (T102.setTop (mkF m 6 #[.val (.ref t1), .val (.int (Int32.ofNat j))] [])) _
    refine XS.aloadN X102.here hx rfl (hb hby d24_6) rfl rfl ?_
    refine XS.iloadN X102.here hx rfl (hb hby d24_7) rfl ?_
    show Steps p.tables e below (T102.setTop (mkF m 8 #[.val (.ref t1), .val (.int (Int32.ofNat j))] [(.int (Int32.ofNat j)), (.ref t1)])) _
    refine X102.baloadBytes hx (j := (Int32.ofNat j)) (v := (.int (lo8 (cs.getD j 0)))) (by rw [e102]; exact Arq103.1) (State.isArrayOf_alike hZ.alike Arq103.2.1) Arq103.2.2 hinq103 (Has.at Hsq103 hinq103 (own_low hj hs)) (g := (mkF m 8 #[.val (.ref t1), .val (.int (Int32.ofNat j))] [(.int (Int32.ofNat j)), (.ref t1)])) rfl rfl (hb hby d24_8) _ ?_
    show Steps p.tables e below (T102.setTop (mkF m 9 #[.val (.ref t1), .val (.int (Int32.ofNat j))] [(.int (lo8 (cs.getD j 0)))])) _
    refine XS.sipush X102.here hx rfl (hb hby d24_9) ?_
    refine XS.iand X102.here hx rfl (hb hby d24_12) rfl ?_
    show Steps p.tables e below (T102.setTop (mkF m 13 #[.val (.ref t1), .val (.int (Int32.ofNat j))] [(.int ((lo8 (cs.getD j 0)) &&& (255 : Int32)))])) _
    refine XS.i2c X102.here hx rfl (hb hby d24_13) rfl ?_
    show Steps p.tables e below (T102.setTop (mkF m 14 #[.val (.ref t1), .val (.int (Int32.ofNat j))] [(.int (((lo8 (cs.getD j 0)) &&& (255 : Int32)).toUInt32.toUInt16.toUInt32.toInt32))])) _
    exact retN X102 hx (t := .char) Bd.returns (by simp) (hb hby d24_14) hr
  · show Q_rm24 Z j t1 k1 cs fm h0 n0 _ T102.heap _
    rw [e102]
    unfold Q_rm24
    exact ⟨(congrArg (fun z => some (Value.int z)) (own_gl (own_getD16 hq j) (own_getl hl hj))), N102, rfl⟩
theorem ef_il0 (m : MethodId) (x0 : Addr) : entryFrame m #[(.ref x0)] 1 = mkF m 0 #[.val (.ref x0)] [] := by first | (simp [entryFrame, mkF, argsToLocals, Value.category]; done) | rfl
def Q_il0 (Z : State) (s1 : Addr) (zc : Int32) (h0 : Heap) (n0 : Nat) (v : Option Value) (h : Heap) (L : List Loc) : Prop := (v = some (.int (1 : Int32))) ∧ (Fr n0 L) ∧ (h = h0)
theorem d10_0 : decode jdk_42_method_154_code 0 = .ok (.getstatic 38, 3) := by decide +kernel
theorem d10_3 : decode jdk_42_method_154_code 3 = .ok (.ifCond .eq 14, 3) := by decide +kernel
theorem d10_6 : decode jdk_42_method_154_code 6 = .ok (.aload_n 0, 1) := by decide +kernel
theorem d10_7 : decode jdk_42_method_154_code 7 = .ok (.getfield 15, 3) := by decide +kernel
theorem d10_10 : decode jdk_42_method_154_code 10 = .ok (.ifCond .ne 7, 3) := by decide +kernel
theorem d10_13 : decode jdk_42_method_154_code 13 = .ok (.iconst 1, 1) := by decide +kernel
theorem d10_14 : decode jdk_42_method_154_code 14 = .ok (.goto 4, 3) := by decide +kernel
theorem d10_18 : decode jdk_42_method_154_code 18 = .ok (.ireturn, 1) := by decide +kernel
set_option maxRecDepth 65536 in
set_option maxHeartbeats 40000000 in
theorem il0 (l : Launch) (Z : State) (a0 : Array Value) (hw : ∀ d ∈ tables_1, d.before a0 Z = true) (ws : List Jvm.Cond) (s1 : Addr) (zc : Int32) (h0 : Heap) (n0 : Nat) (O0 : Old Z n0 h0) (C1 : Fld Z h0 s1 "java/lang/String" "coder" "B" (.int (0 : Int32))) (SZ : Sta Z Z.heap "java/lang/String" "COMPACT_STRINGS" "Z" (.int zc)) (PZ : ¬ (zc = (0 : Int32))) :
    MetFree l (⟨"java/lang/String", "isLatin1", "()Z"⟩ : MethodName) (head1 (Jvm.Cond.code (⟨"java/lang/String", "isLatin1", "()Z"⟩ : MethodName) jdk_42_method_154_code 1 (some .boolean) :: ws) ({ frames := 0, cells := 0, slots := 0, locals := 0 } : Room)) (fun a U => a = #[(.ref s1)] ∧ Z.Warmed39 U.vm ∧ U.heap = h0) (fun _ _ _ _ _ => True) (fun _ U o U' => ∃ v L, o = .returned v ∧ Q_il0 Z s1 zc h0 n0 v U'.heap L ∧ FrameEnd U o U' L ({ frames := 0, cells := 0, slots := 0, locals := 0 } : Room).cells ({ frames := 0, cells := 0, slots := 0, locals := 0 } : Room).slots) := by
  refine MetFree.of_bodySF (plainFor_of_name pn_2) hisR ?_
  intro p e s m args below meth c s₁ Bd hml0 hP hK
  obtain ⟨rfl, hZ, hh⟩ := hP
  have hx := Bd.exec
  have hby := Bd.bytes
  have hml : c.maxLocals = 1 := hml0
  have hown : s.vm.findClass "java/lang/String" = some m.cls := findClass_of_methodNamed Bd.named
  have hnm := (name_of_methodNamed Bd.named Bd.method).1
  have X0 : Stand p l e ({ frames := 0, cells := 0, slots := 0, locals := 0 } : Room) s m #[(.ref s1)] below meth c s₁ [] 0 0 := Stand.of_body Bd
  have e0 : s₁.heap = h0 := by rw [← hh, Bd.state]; rfl
  have N0 := Fr.nil n0
  have Z0 : n0 ≤ h0.size := old_le O0
  have pre0 : ∀ t, Steps p.tables e below (s₁.setTop (mkF m 0 #[.val (.ref s1)] [])) t → Steps p.tables e below (s₁.setTop (entryFrame m #[(.ref s1)] 1)) t := fun t k => castTop (ef_il0 m s1) k
  have c101 : Sta Z h0 "java/lang/String" "COMPACT_STRINGS" "Z" (.int zc) := Sta.ext (O0).2 SZ
  obtain ⟨T102, X102, e102, st102⟩ := getS2 X0 hx hZ hown (host := "") (Or.inl (hwk hw 53 rfl)) Via.refl e0 c101 (g := (mkF m 0 #[.val (.ref s1)] [])) rfl (hb hby d10_0)
  obtain ⟨T103, X103, e103, st103⟩ := getF X102 hx hZ hown (host := "") (Or.inl (hwk hw 27 rfl)) Via.refl e102 C1 (g := (mkF m 7 #[.val (.ref s1)] [(.ref s1)])) rfl rfl (hb hby d10_7)
  obtain ⟨fs, hr, hrun, hended, hW, hsame⟩ := X103.leave (v := some (.int (1 : Int32))) (fun h => by rw [Bd.returns] at h; cases h)
  refine ⟨_, _, pre0 _ ?_, hrun, hended, _, _, rfl, ?_, ⟨_, rfl⟩, hW, hsame.mono (by decide) (by decide)⟩
  · show Steps p.tables e below (s₁.setTop (mkF m 0 #[.val (.ref s1)] [])) _
    refine st102 _ ?_
    show Steps p.tables e below (T102.setTop (mkF m 3 #[.val (.ref s1)] [(.int zc)])) _
    refine XS.ifNo X102.here hx rfl (hb hby d10_3) rfl ((if0 _ _).trans (feq (PZ : ¬ (zc = (0 : Int32)))).1) ?_
    show Steps p.tables e below (T102.setTop (mkF m 6 #[.val (.ref s1)] [])) _
    refine XS.aloadN X102.here hx rfl (hb hby d10_6) rfl rfl ?_
    show Steps p.tables e below (T102.setTop (mkF m 7 #[.val (.ref s1)] [(.ref s1)])) _
    refine st103 _ ?_
    show Steps p.tables e below (T103.setTop (mkF m 10 #[.val (.ref s1)] [(.int (0 : Int32))])) _
    refine XS.ifNo X103.here hx rfl (hb hby d10_10) rfl ((if0 _ _).trans (teq (by decide : (0 : Int32) = (0 : Int32))).2) ?_
    show Steps p.tables e below (T103.setTop (mkF m 13 #[.val (.ref s1)] [])) _
    refine XS.iconst X103.here hx rfl (hb hby d10_13) ?_
    refine XS.goto X103.here hx rfl (pc0 := 14) (pc' := 18) rfl (hb hby d10_14) (by decide) (by decide) ?_
    show Steps p.tables e below (T103.setTop (mkF m 18 #[.val (.ref s1)] [(.int (1 : Int32))])) _
    exact Jvm.RoadKit.retOut X103 hx Bd.returns rfl (Or.inl ⟨rfl, by simp, _, rfl⟩) (hb hby d10_18) hr
  · show Q_il0 Z s1 zc h0 n0 _ T103.heap _
    rw [e103]
    unfold Q_il0
    exact ⟨rfl, N0, rfl⟩
theorem ef_il1 (m : MethodId) (x0 : Addr) : entryFrame m #[(.ref x0)] 1 = mkF m 0 #[.val (.ref x0)] [] := by first | (simp [entryFrame, mkF, argsToLocals, Value.category]; done) | rfl
def Q_il1 (Z : State) (s1 : Addr) (zc : Int32) (h0 : Heap) (n0 : Nat) (v : Option Value) (h : Heap) (L : List Loc) : Prop := (v = some (.int (0 : Int32))) ∧ (Fr n0 L) ∧ (h = h0)
theorem d10_17 : decode jdk_42_method_154_code 17 = .ok (.iconst 0, 1) := by decide +kernel
set_option maxRecDepth 65536 in
set_option maxHeartbeats 40000000 in
theorem il1 (l : Launch) (Z : State) (a0 : Array Value) (hw : ∀ d ∈ tables_1, d.before a0 Z = true) (ws : List Jvm.Cond) (s1 : Addr) (zc : Int32) (h0 : Heap) (n0 : Nat) (O0 : Old Z n0 h0) (C1 : Fld Z h0 s1 "java/lang/String" "coder" "B" (.int (1 : Int32))) (SZ : Sta Z Z.heap "java/lang/String" "COMPACT_STRINGS" "Z" (.int zc)) (PZ : ¬ (zc = (0 : Int32))) :
    MetFree l (⟨"java/lang/String", "isLatin1", "()Z"⟩ : MethodName) (head1 (Jvm.Cond.code (⟨"java/lang/String", "isLatin1", "()Z"⟩ : MethodName) jdk_42_method_154_code 1 (some .boolean) :: ws) ({ frames := 0, cells := 0, slots := 0, locals := 0 } : Room)) (fun a U => a = #[(.ref s1)] ∧ Z.Warmed39 U.vm ∧ U.heap = h0) (fun _ _ _ _ _ => True) (fun _ U o U' => ∃ v L, o = .returned v ∧ Q_il1 Z s1 zc h0 n0 v U'.heap L ∧ FrameEnd U o U' L ({ frames := 0, cells := 0, slots := 0, locals := 0 } : Room).cells ({ frames := 0, cells := 0, slots := 0, locals := 0 } : Room).slots) := by
  refine MetFree.of_bodySF (plainFor_of_name pn_2) hisR ?_
  intro p e s m args below meth c s₁ Bd hml0 hP hK
  obtain ⟨rfl, hZ, hh⟩ := hP
  have hx := Bd.exec
  have hby := Bd.bytes
  have hml : c.maxLocals = 1 := hml0
  have hown : s.vm.findClass "java/lang/String" = some m.cls := findClass_of_methodNamed Bd.named
  have hnm := (name_of_methodNamed Bd.named Bd.method).1
  have X0 : Stand p l e ({ frames := 0, cells := 0, slots := 0, locals := 0 } : Room) s m #[(.ref s1)] below meth c s₁ [] 0 0 := Stand.of_body Bd
  have e0 : s₁.heap = h0 := by rw [← hh, Bd.state]; rfl
  have N0 := Fr.nil n0
  have Z0 : n0 ≤ h0.size := old_le O0
  have pre0 : ∀ t, Steps p.tables e below (s₁.setTop (mkF m 0 #[.val (.ref s1)] [])) t → Steps p.tables e below (s₁.setTop (entryFrame m #[(.ref s1)] 1)) t := fun t k => castTop (ef_il1 m s1) k
  have c101 : Sta Z h0 "java/lang/String" "COMPACT_STRINGS" "Z" (.int zc) := Sta.ext (O0).2 SZ
  obtain ⟨T102, X102, e102, st102⟩ := getS2 X0 hx hZ hown (host := "") (Or.inl (hwk hw 53 rfl)) Via.refl e0 c101 (g := (mkF m 0 #[.val (.ref s1)] [])) rfl (hb hby d10_0)
  obtain ⟨T103, X103, e103, st103⟩ := getF X102 hx hZ hown (host := "") (Or.inl (hwk hw 27 rfl)) Via.refl e102 C1 (g := (mkF m 7 #[.val (.ref s1)] [(.ref s1)])) rfl rfl (hb hby d10_7)
  obtain ⟨fs, hr, hrun, hended, hW, hsame⟩ := X103.leave (v := some (.int (0 : Int32))) (fun h => by rw [Bd.returns] at h; cases h)
  refine ⟨_, _, pre0 _ ?_, hrun, hended, _, _, rfl, ?_, ⟨_, rfl⟩, hW, hsame.mono (by decide) (by decide)⟩
  · show Steps p.tables e below (s₁.setTop (mkF m 0 #[.val (.ref s1)] [])) _
    refine st102 _ ?_
    show Steps p.tables e below (T102.setTop (mkF m 3 #[.val (.ref s1)] [(.int zc)])) _
    refine XS.ifNo X102.here hx rfl (hb hby d10_3) rfl ((if0 _ _).trans (feq (PZ : ¬ (zc = (0 : Int32)))).1) ?_
    show Steps p.tables e below (T102.setTop (mkF m 6 #[.val (.ref s1)] [])) _
    refine XS.aloadN X102.here hx rfl (hb hby d10_6) rfl rfl ?_
    show Steps p.tables e below (T102.setTop (mkF m 7 #[.val (.ref s1)] [(.ref s1)])) _
    refine st103 _ ?_
    show Steps p.tables e below (T103.setTop (mkF m 10 #[.val (.ref s1)] [(.int (1 : Int32))])) _
    refine XS.ifYes X103.here hx rfl (pc0 := 10) (pc' := 17) rfl (hb hby d10_10) rfl ((if0 _ _).trans (feq (by decide : ¬ ((1 : Int32) = (0 : Int32)))).2) (by decide) (by decide) ?_
    show Steps p.tables e below (T103.setTop (mkF m 17 #[.val (.ref s1)] [])) _
    refine XS.iconst X103.here hx rfl (hb hby d10_17) ?_
    show Steps p.tables e below (T103.setTop (mkF m 18 #[.val (.ref s1)] [(.int (0 : Int32))])) _
    exact Jvm.RoadKit.retOut X103 hx Bd.returns rfl (Or.inl ⟨rfl, by simp, _, rfl⟩) (hb hby d10_18) hr
  · show Q_il1 Z s1 zc h0 n0 _ T103.heap _
    rw [e103]
    unfold Q_il1
    exact ⟨rfl, N0, rfl⟩
theorem ef_ch0 (m : MethodId) (x0 : Addr) (x1 : Int32) : entryFrame m #[(.ref x0), (.int x1)] 2 = mkF m 0 #[.val (.ref x0), .val (.int x1)] [] := by first | (simp [entryFrame, mkF, argsToLocals, Value.category]; done) | rfl
def Q_ch0 (Z : State) (j : Nat) (s1 : Addr) (t1 : Addr) (k1 : ClassId) (cs : List Int32) (zc : Int32) (fm : Value) (h0 : Heap) (n0 : Nat) (v : Option Value) (h : Heap) (L : List Loc) : Prop := (v = some (.int (cs.getD j 0))) ∧ (Fr n0 L) ∧ (h = h0)
theorem d23_0 : decode jdk_42_method_56_code 0 = .ok (.aload_n 0, 1) := by decide +kernel
theorem d23_1 : decode jdk_42_method_56_code 1 = .ok (.invokevirtual 492, 3) := by decide +kernel
theorem pd_5 : parseMethodDescriptor "()Z" = some ⟨[], some .boolean⟩ := by decide +kernel
theorem d23_4 : decode jdk_42_method_56_code 4 = .ok (.ifCond .eq 12, 3) := by decide +kernel
theorem d23_7 : decode jdk_42_method_56_code 7 = .ok (.aload_n 0, 1) := by decide +kernel
theorem d23_8 : decode jdk_42_method_56_code 8 = .ok (.getfield 9, 3) := by decide +kernel
theorem d23_11 : decode jdk_42_method_56_code 11 = .ok (.iload_n 1, 1) := by decide +kernel
theorem d23_12 : decode jdk_42_method_56_code 12 = .ok (.invokestatic 495, 3) := by decide +kernel
theorem d23_15 : decode jdk_42_method_56_code 15 = .ok (.ireturn, 1) := by decide +kernel
set_option maxRecDepth 65536 in
set_option maxHeartbeats 40000000 in
theorem ch0 (l : Launch) (Z : State) (a0 : Array Value) (hw : ∀ d ∈ tables_1, d.before a0 Z = true) (ws : List Jvm.Cond) (j : Nat) (s1 : Addr) (t1 : Addr) (k1 : ClassId) (cs : List Int32) (zc : Int32) (fm : Value) (h0 : Heap) (n0 : Nat) (O0 : Old Z n0 h0) (E1 : Exa Z h0 s1 "java/lang/String") (V1 : Fld Z h0 s1 "java/lang/String" "value" "[B" (.ref t1)) (C1 : Fld Z h0 s1 "java/lang/String" "coder" "B" (.int (0 : Int32))) (AL : Arv Z h0 t1 k1 .byte (Int32.ofNat cs.length) (cs.map fun c => Value.int (lo8 c)) (.int (0 : Int32))) (hs : cs.length ≤ 6) (hq : ∀ c ∈ cs, C16 c) (hl : ∀ c ∈ cs, ¬ (255 : Int32) < c) (hj : j < cs.length) (SZ : Sta Z Z.heap "java/lang/String" "COMPACT_STRINGS" "Z" (.int zc)) (PZ : ¬ (zc = (0 : Int32))) (SF : Sta Z Z.heap "jdk/internal/util/Preconditions" "SIOOBE_FORMATTER" "Ljava/util/function/BiFunction;" fm) (RF : fm.isRef = true) :
    MetFree l (⟨"java/lang/String", "charAt", "(I)C"⟩ : MethodName) (head1 (Jvm.Cond.code (⟨"java/lang/String", "charAt", "(I)C"⟩ : MethodName) jdk_42_method_56_code 2 (some .char) :: ws) ({ frames := 4, cells := 0, slots := 0, locals := 53 } : Room)) (fun a U => a = #[(.ref s1), (.int (Int32.ofNat j))] ∧ Z.Warmed39 U.vm ∧ U.heap = h0) (fun _ _ _ _ _ => True) (fun _ U o U' => ∃ v L, o = .returned v ∧ Q_ch0 Z j s1 t1 k1 cs zc fm h0 n0 v U'.heap L ∧ FrameEnd U o U' L ({ frames := 4, cells := 0, slots := 0, locals := 53 } : Room).cells ({ frames := 4, cells := 0, slots := 0, locals := 53 } : Room).slots) := by
  refine MetFree.of_bodySF (plainFor_of_name pn_2) hisR ?_
  intro p e s m args below meth c s₁ Bd hml0 hP hK
  obtain ⟨rfl, hZ, hh⟩ := hP
  have hx := Bd.exec
  have hby := Bd.bytes
  have hml : c.maxLocals = 2 := hml0
  have hown : s.vm.findClass "java/lang/String" = some m.cls := findClass_of_methodNamed Bd.named
  have hnm := (name_of_methodNamed Bd.named Bd.method).1
  have X0 : Stand p l e ({ frames := 4, cells := 0, slots := 0, locals := 53 } : Room) s m #[(.ref s1), (.int (Int32.ofNat j))] below meth c s₁ [] 0 0 := Stand.of_body Bd
  have e0 : s₁.heap = h0 := by rw [← hh, Bd.state]; rfl
  have N0 := Fr.nil n0
  have Z0 : n0 ≤ h0.size := old_le O0
  have pre0 : ∀ t, Steps p.tables e below (s₁.setTop (mkF m 0 #[.val (.ref s1), .val (.int (Int32.ofNat j))] [])) t → Steps p.tables e below (s₁.setTop (entryFrame m #[(.ref s1), (.int (Int32.ofNat j))] 2)) t := fun t k => castTop (ef_ch0 m s1 (Int32.ofNat j)) k
  obtain ⟨cq101, kq101, q101a, q101b, q101c⟩ := isOf hZ e0 E1
  obtain ⟨_, _, ⟨T101, L101, k101, n101⟩, -, X101, ⟨Lc101, hQ101, l101, y101, z101⟩, st101⟩ := X0.virtualBack hx (y := (⟨"java/lang/String", "isLatin1", "()Z"⟩ : MethodName)) (z := (⟨"java/lang/String", "isLatin1", "()Z"⟩ : MethodName)) hown (mvT hZ (hwk hw 48 rfl)) (mvT hZ (hwk hw 49 rfl)) (notFace_of_selects (args := #[]) (mvT hZ (hwk hw 51 rfl))) (mvT hZ (hwk hw 51 rfl)) (mvT hZ (hwk hw 50 rfl)) (by decide) (backOf (W := 0) (il0 l Z a0 hw [] s1 zc h0 n0 O0 C1 SZ PZ) hZ (hwk hw 52 rfl) (hwk hw 8 rfl) (by decide) (by decide)) q101a q101c (g := (mkF m 1 #[.val (.ref s1), .val (.int (Int32.ofNat j))] [(.ref s1)])) rfl (by rw [hml]; rfl) (Steps.refl _) (argsL := []) (rest := []) (lenOf pd_5 rfl) rfl (by show 2 * 0 + _ ≤ _; exact Nat.le_of_eq rfl) (hb hby d23_1) (fun _ _ => ⟨rfl, e0, (by decide : 0 + 0 ≤ _), (by decide : 0 + 0 ≤ _)⟩)
  dsimp only [Pt.U, Pt.locs, Pt.cells, Pt.slots] at X101 l101 y101 z101 st101 hQ101
  subst l101 y101 z101
  unfold Q_il0 at hQ101
  obtain ⟨rfl, N101q, e101⟩ := hQ101
  have N101 := Fr.app N0 N101q
  obtain ⟨T102, X102, e102, st102⟩ := getF X101 hx hZ hown (host := "") (Or.inl (hwk hw 26 rfl)) Via.refl e101 V1 (g := (mkF m 8 #[.val (.ref s1), .val (.int (Int32.ofNat j))] [(.ref s1)])) rfl rfl (hb hby d23_8)
  obtain ⟨_, _, ⟨T103, L103, k103, n103⟩, -, X103, ⟨Lc103, hQ103, l103, y103, z103⟩, st103⟩ := Jvm.LawKit.callS X102 hx (y := (⟨"java/lang/StringLatin1", "charAt", "([BI)C"⟩ : MethodName)) hown (mvT hZ (hwk hw 103 rfl)) (mvT hZ (hwk hw 104 rfl)) (mvT hZ (hwk hw 66 rfl)) (mvT hZ (hwk hw 105 rfl)) (by decide) (backOf (W := 0) (rm24 l Z a0 hw [] j t1 k1 cs fm h0 n0 O0 AL hs hq hl hj SF RF) hZ (hwk hw 105 rfl) (hwk hw 66 rfl) (by decide) (by decide)) (g := (mkF m 12 #[.val (.ref s1), .val (.int (Int32.ofNat j))] [(.int (Int32.ofNat j)), (.ref t1)])) rfl (by rw [hml]; rfl) (argsL := [(.ref t1), (.int (Int32.ofNat j))]) (rest := []) (lenOf pd_4 rfl) rfl (by show 2 * 0 + _ ≤ _; exact Nat.le_of_eq rfl) (hb hby d23_12) (fun _ _ => ⟨rfl, e102, (by decide : 0 + 0 ≤ _), (by decide : 0 + 0 ≤ _)⟩)
  dsimp only [Pt.U, Pt.locs, Pt.cells, Pt.slots] at X103 l103 y103 z103 st103 hQ103
  subst l103 y103 z103
  unfold Q_rm24 at hQ103
  obtain ⟨rfl, N103q, e103⟩ := hQ103
  have N103 := Fr.app N101 N103q
  obtain ⟨fs, hr, hrun, hended, hW, hsame⟩ := X103.leave (v := some (.int (cs.getD j 0))) (fun h => by rw [Bd.returns] at h; cases h)
  refine ⟨_, _, pre0 _ ?_, hrun, hended, _, _, rfl, ?_, ⟨_, rfl⟩, hW, hsame.mono (by decide) (by decide)⟩
  · show Steps p.tables e below (s₁.setTop (mkF m 0 #[.val (.ref s1), .val (.int (Int32.ofNat j))] [])) _
    refine XS.aloadN X0.here hx rfl (hb hby d23_0) rfl rfl ?_
    show Steps p.tables e below (s₁.setTop (mkF m 1 #[.val (.ref s1), .val (.int (Int32.ofNat j))] [(.ref s1)])) _
    refine st101.trans ?_
    show Steps p.tables e below (T101.setTop (mkF m 4 #[.val (.ref s1), .val (.int (Int32.ofNat j))] [(.int (1 : Int32))])) _
    refine XS.ifNo X101.here hx rfl (hb hby d23_4) rfl ((if0 _ _).trans (feq (by decide : ¬ ((1 : Int32) = (0 : Int32)))).1) ?_
    show Steps p.tables e below (T101.setTop (mkF m 7 #[.val (.ref s1), .val (.int (Int32.ofNat j))] [])) _
    refine XS.aloadN X101.here hx rfl (hb hby d23_7) rfl rfl ?_
    show Steps p.tables e below (T101.setTop (mkF m 8 #[.val (.ref s1), .val (.int (Int32.ofNat j))] [(.ref s1)])) _
    refine st102 _ ?_
    show Steps p.tables e below (T102.setTop (mkF m 11 #[.val (.ref s1), .val (.int (Int32.ofNat j))] [(.ref t1)])) _
    refine XS.iloadN X102.here hx rfl (hb hby d23_11) rfl ?_
    show Steps p.tables e below (T102.setTop (mkF m 12 #[.val (.ref s1), .val (.int (Int32.ofNat j))] [(.int (Int32.ofNat j)), (.ref t1)])) _
    refine st103 _ ?_
    show Steps p.tables e below (T103.setTop (mkF m 15 #[.val (.ref s1), .val (.int (Int32.ofNat j))] [(.int (cs.getD j 0))])) _
    exact Jvm.RoadKit.retOut X103 hx Bd.returns (own_narC16 (own_getD16 hq j)) (Or.inl ⟨rfl, by simp, _, rfl⟩) (hb hby d23_15) hr
  · show Q_ch0 Z j s1 t1 k1 cs zc fm h0 n0 _ T103.heap _
    rw [e103]
    unfold Q_ch0
    exact ⟨rfl, N103, rfl⟩
theorem ef_ch1 (m : MethodId) (x0 : Addr) (x1 : Int32) : entryFrame m #[(.ref x0), (.int x1)] 2 = mkF m 0 #[.val (.ref x0), .val (.int x1)] [] := by first | (simp [entryFrame, mkF, argsToLocals, Value.category]; done) | rfl
def Q_ch1 (Z : State) (j : Nat) (s1 : Addr) (t1 : Addr) (k1 : ClassId) (cs : List Int32) (zc : Int32) (fm : Value) (h0 : Heap) (n0 : Nat) (v : Option Value) (h : Heap) (L : List Loc) : Prop := (v = some (.int (cs.getD j 0))) ∧ (Fr n0 L) ∧ (h = h0)
theorem d23_16 : decode jdk_42_method_56_code 16 = .ok (.aload_n 0, 1) := by decide +kernel
theorem d23_17 : decode jdk_42_method_56_code 17 = .ok (.getfield 9, 3) := by decide +kernel
theorem d23_20 : decode jdk_42_method_56_code 20 = .ok (.iload_n 1, 1) := by decide +kernel
theorem d23_21 : decode jdk_42_method_56_code 21 = .ok (.invokestatic 498, 3) := by decide +kernel
theorem d23_24 : decode jdk_42_method_56_code 24 = .ok (.ireturn, 1) := by decide +kernel
set_option maxRecDepth 65536 in
set_option maxHeartbeats 40000000 in
theorem ch1 (l : Launch) (Z : State) (a0 : Array Value) (hw : ∀ d ∈ tables_1, d.before a0 Z = true) (ws : List Jvm.Cond) (j : Nat) (s1 : Addr) (t1 : Addr) (k1 : ClassId) (cs : List Int32) (zc : Int32) (fm : Value) (h0 : Heap) (n0 : Nat) (O0 : Old Z n0 h0) (E1 : Exa Z h0 s1 "java/lang/String") (V1 : Fld Z h0 s1 "java/lang/String" "value" "[B" (.ref t1)) (C1 : Fld Z h0 s1 "java/lang/String" "coder" "B" (.int (1 : Int32))) (AW : Arv Z h0 t1 k1 .byte (Int32.ofNat (2 * cs.length)) (wideBytes cs) (.int (0 : Int32))) (hs : cs.length ≤ 6) (hq : ∀ c ∈ cs, C16 c) (hj : j < cs.length) (SZ : Sta Z Z.heap "java/lang/String" "COMPACT_STRINGS" "Z" (.int zc)) (PZ : ¬ (zc = (0 : Int32))) (SF : Sta Z Z.heap "jdk/internal/util/Preconditions" "SIOOBE_FORMATTER" "Ljava/util/function/BiFunction;" fm) (RF : fm.isRef = true) (SA : Sta Z Z.heap "java/lang/StringUTF16" "$assertionsDisabled" "Z" (.int (1 : Int32))) (SH : Sta Z Z.heap "java/lang/StringUTF16" "HI_BYTE_SHIFT" "I" (.int (0 : Int32))) (SL : Sta Z Z.heap "java/lang/StringUTF16" "LO_BYTE_SHIFT" "I" (.int (8 : Int32))) :
    MetFree l (⟨"java/lang/String", "charAt", "(I)C"⟩ : MethodName) (head1 (Jvm.Cond.code (⟨"java/lang/String", "charAt", "(I)C"⟩ : MethodName) jdk_42_method_56_code 2 (some .char) :: ws) ({ frames := 4, cells := 0, slots := 0, locals := 53 } : Room)) (fun a U => a = #[(.ref s1), (.int (Int32.ofNat j))] ∧ Z.Warmed39 U.vm ∧ U.heap = h0) (fun _ _ _ _ _ => True) (fun _ U o U' => ∃ v L, o = .returned v ∧ Q_ch1 Z j s1 t1 k1 cs zc fm h0 n0 v U'.heap L ∧ FrameEnd U o U' L ({ frames := 4, cells := 0, slots := 0, locals := 53 } : Room).cells ({ frames := 4, cells := 0, slots := 0, locals := 53 } : Room).slots) := by
  refine MetFree.of_bodySF (plainFor_of_name pn_2) hisR ?_
  intro p e s m args below meth c s₁ Bd hml0 hP hK
  obtain ⟨rfl, hZ, hh⟩ := hP
  have hx := Bd.exec
  have hby := Bd.bytes
  have hml : c.maxLocals = 2 := hml0
  have hown : s.vm.findClass "java/lang/String" = some m.cls := findClass_of_methodNamed Bd.named
  have hnm := (name_of_methodNamed Bd.named Bd.method).1
  have X0 : Stand p l e ({ frames := 4, cells := 0, slots := 0, locals := 53 } : Room) s m #[(.ref s1), (.int (Int32.ofNat j))] below meth c s₁ [] 0 0 := Stand.of_body Bd
  have e0 : s₁.heap = h0 := by rw [← hh, Bd.state]; rfl
  have N0 := Fr.nil n0
  have Z0 : n0 ≤ h0.size := old_le O0
  have pre0 : ∀ t, Steps p.tables e below (s₁.setTop (mkF m 0 #[.val (.ref s1), .val (.int (Int32.ofNat j))] [])) t → Steps p.tables e below (s₁.setTop (entryFrame m #[(.ref s1), (.int (Int32.ofNat j))] 2)) t := fun t k => castTop (ef_ch1 m s1 (Int32.ofNat j)) k
  obtain ⟨cq101, kq101, q101a, q101b, q101c⟩ := isOf hZ e0 E1
  obtain ⟨_, _, ⟨T101, L101, k101, n101⟩, -, X101, ⟨Lc101, hQ101, l101, y101, z101⟩, st101⟩ := X0.virtualBack hx (y := (⟨"java/lang/String", "isLatin1", "()Z"⟩ : MethodName)) (z := (⟨"java/lang/String", "isLatin1", "()Z"⟩ : MethodName)) hown (mvT hZ (hwk hw 48 rfl)) (mvT hZ (hwk hw 49 rfl)) (notFace_of_selects (args := #[]) (mvT hZ (hwk hw 51 rfl))) (mvT hZ (hwk hw 51 rfl)) (mvT hZ (hwk hw 50 rfl)) (by decide) (backOf (W := 0) (il1 l Z a0 hw [] s1 zc h0 n0 O0 C1 SZ PZ) hZ (hwk hw 52 rfl) (hwk hw 8 rfl) (by decide) (by decide)) q101a q101c (g := (mkF m 1 #[.val (.ref s1), .val (.int (Int32.ofNat j))] [(.ref s1)])) rfl (by rw [hml]; rfl) (Steps.refl _) (argsL := []) (rest := []) (lenOf pd_5 rfl) rfl (by show 2 * 0 + _ ≤ _; exact Nat.le_of_eq rfl) (hb hby d23_1) (fun _ _ => ⟨rfl, e0, (by decide : 0 + 0 ≤ _), (by decide : 0 + 0 ≤ _)⟩)
  dsimp only [Pt.U, Pt.locs, Pt.cells, Pt.slots] at X101 l101 y101 z101 st101 hQ101
  subst l101 y101 z101
  unfold Q_il1 at hQ101
  obtain ⟨rfl, N101q, e101⟩ := hQ101
  have N101 := Fr.app N0 N101q
  obtain ⟨T102, X102, e102, st102⟩ := getF X101 hx hZ hown (host := "") (Or.inl (hwk hw 26 rfl)) Via.refl e101 V1 (g := (mkF m 17 #[.val (.ref s1), .val (.int (Int32.ofNat j))] [(.ref s1)])) rfl rfl (hb hby d23_17)
  obtain ⟨_, _, ⟨T103, L103, k103, n103⟩, -, X103, ⟨Lc103, hQ103, l103, y103, z103⟩, st103⟩ := Jvm.LawKit.callS X102 hx (y := (⟨"java/lang/StringUTF16", "charAt", "([BI)C"⟩ : MethodName)) hown (mvT hZ (hwk hw 157 rfl)) (mvT hZ (hwk hw 158 rfl)) (mvT hZ (hwk hw 84 rfl)) (mvT hZ (hwk hw 159 rfl)) (by decide) (backOf (W := 0) (rm39 l Z a0 hw [] j t1 k1 cs fm h0 n0 O0 AW hs hq hj SF RF SA SH SL) hZ (hwk hw 159 rfl) (hwk hw 84 rfl) (by decide) (by decide)) (g := (mkF m 21 #[.val (.ref s1), .val (.int (Int32.ofNat j))] [(.int (Int32.ofNat j)), (.ref t1)])) rfl (by rw [hml]; rfl) (argsL := [(.ref t1), (.int (Int32.ofNat j))]) (rest := []) (lenOf pd_4 rfl) rfl (by show 2 * 0 + _ ≤ _; exact Nat.le_of_eq rfl) (hb hby d23_21) (fun _ _ => ⟨rfl, e102, (by decide : 0 + 0 ≤ _), (by decide : 0 + 0 ≤ _)⟩)
  dsimp only [Pt.U, Pt.locs, Pt.cells, Pt.slots] at X103 l103 y103 z103 st103 hQ103
  subst l103 y103 z103
  unfold Q_rm39 at hQ103
  obtain ⟨rfl, N103q, e103⟩ := hQ103
  have N103 := Fr.app N101 N103q
  obtain ⟨fs, hr, hrun, hended, hW, hsame⟩ := X103.leave (v := some (.int (cs.getD j 0))) (fun h => by rw [Bd.returns] at h; cases h)
  refine ⟨_, _, pre0 _ ?_, hrun, hended, _, _, rfl, ?_, ⟨_, rfl⟩, hW, hsame.mono (by decide) (by decide)⟩
  · show Steps p.tables e below (s₁.setTop (mkF m 0 #[.val (.ref s1), .val (.int (Int32.ofNat j))] [])) _
    refine XS.aloadN X0.here hx rfl (hb hby d23_0) rfl rfl ?_
    show Steps p.tables e below (s₁.setTop (mkF m 1 #[.val (.ref s1), .val (.int (Int32.ofNat j))] [(.ref s1)])) _
    refine st101.trans ?_
    show Steps p.tables e below (T101.setTop (mkF m 4 #[.val (.ref s1), .val (.int (Int32.ofNat j))] [(.int (0 : Int32))])) _
    refine XS.ifYes X101.here hx rfl (pc0 := 4) (pc' := 16) rfl (hb hby d23_4) rfl ((if0 _ _).trans (teq (by decide : (0 : Int32) = (0 : Int32))).1) (by decide) (by decide) ?_
    show Steps p.tables e below (T101.setTop (mkF m 16 #[.val (.ref s1), .val (.int (Int32.ofNat j))] [])) _
    refine XS.aloadN X101.here hx rfl (hb hby d23_16) rfl rfl ?_
    show Steps p.tables e below (T101.setTop (mkF m 17 #[.val (.ref s1), .val (.int (Int32.ofNat j))] [(.ref s1)])) _
    refine st102 _ ?_
    show Steps p.tables e below (T102.setTop (mkF m 20 #[.val (.ref s1), .val (.int (Int32.ofNat j))] [(.ref t1)])) _
    refine XS.iloadN X102.here hx rfl (hb hby d23_20) rfl ?_
    show Steps p.tables e below (T102.setTop (mkF m 21 #[.val (.ref s1), .val (.int (Int32.ofNat j))] [(.int (Int32.ofNat j)), (.ref t1)])) _
    refine st103 _ ?_
    show Steps p.tables e below (T103.setTop (mkF m 24 #[.val (.ref s1), .val (.int (Int32.ofNat j))] [(.int (cs.getD j 0))])) _
    exact Jvm.RoadKit.retOut X103 hx Bd.returns (own_narC16 (own_getD16 hq j)) (Or.inl ⟨rfl, by simp, _, rfl⟩) (hb hby d23_24) hr
  · show Q_ch1 Z j s1 t1 k1 cs zc fm h0 n0 _ T103.heap _
    rw [e103]
    unfold Q_ch1
    exact ⟨rfl, N103, rfl⟩
theorem ef_ch (m : MethodId) (x0 : Addr) (x1 : Int32) : entryFrame m #[(.ref x0), (.int x1)] 2 = mkF m 0 #[.val (.ref x0), .val (.int x1)] [] := by first | (simp [entryFrame, mkF, argsToLocals, Value.category]; done) | rfl
def Q_ch (Z : State) (j : Nat) (s1 : Addr) (t1 : Addr) (k1 : ClassId) (cd : Int32) (N1 : Int32) (vs1 : List Value) (cs : List Int32) (zc : Int32) (fm : Value) (h0 : Heap) (n0 : Nat) (v : Option Value) (h : Heap) (L : List Loc) : Prop := (v = some (.int (cs.getD j 0))) ∧ (Fr n0 L) ∧ (h = h0)
set_option maxRecDepth 65536 in
set_option maxHeartbeats 40000000 in
theorem ch (l : Launch) (Z : State) (a0 : Array Value) (hw : ∀ d ∈ tables_1, d.before a0 Z = true) (ws : List Jvm.Cond) (j : Nat) (s1 : Addr) (t1 : Addr) (k1 : ClassId) (cd : Int32) (N1 : Int32) (vs1 : List Value) (cs : List Int32) (zc : Int32) (fm : Value) (h0 : Heap) (n0 : Nat) (O0 : Old Z n0 h0) (E1 : Exa Z h0 s1 "java/lang/String") (V1 : Fld Z h0 s1 "java/lang/String" "value" "[B" (.ref t1)) (C1 : Fld Z h0 s1 "java/lang/String" "coder" "B" (.int cd)) (A1 : Arv Z h0 t1 k1 .byte N1 vs1 (.int (0 : Int32))) (hc : CodA cs cd N1 vs1) (hs : cs.length ≤ 6) (hq : ∀ c ∈ cs, C16 c) (hj : j < cs.length) (SZ : Sta Z Z.heap "java/lang/String" "COMPACT_STRINGS" "Z" (.int zc)) (PZ : ¬ (zc = (0 : Int32))) (SF : Sta Z Z.heap "jdk/internal/util/Preconditions" "SIOOBE_FORMATTER" "Ljava/util/function/BiFunction;" fm) (RF : fm.isRef = true) (SA : Sta Z Z.heap "java/lang/StringUTF16" "$assertionsDisabled" "Z" (.int (1 : Int32))) (SH : Sta Z Z.heap "java/lang/StringUTF16" "HI_BYTE_SHIFT" "I" (.int (0 : Int32))) (SL : Sta Z Z.heap "java/lang/StringUTF16" "LO_BYTE_SHIFT" "I" (.int (8 : Int32))) :
    MetFree l (⟨"java/lang/String", "charAt", "(I)C"⟩ : MethodName) (head1 (Jvm.Cond.code (⟨"java/lang/String", "charAt", "(I)C"⟩ : MethodName) jdk_42_method_56_code 2 (some .char) :: ws) ({ frames := 4, cells := 0, slots := 0, locals := 53 } : Room)) (fun a U => a = #[(.ref s1), (.int (Int32.ofNat j))] ∧ Z.Warmed39 U.vm ∧ U.heap = h0) (fun _ _ _ _ _ => True) (fun _ U o U' => ∃ v L, o = .returned v ∧ Q_ch Z j s1 t1 k1 cd N1 vs1 cs zc fm h0 n0 v U'.heap L ∧ FrameEnd U o U' L ({ frames := 4, cells := 0, slots := 0, locals := 53 } : Room).cells ({ frames := 4, cells := 0, slots := 0, locals := 53 } : Room).slots) := by
  rcases hc with ⟨rfl, rfl, rfl, hl⟩ | ⟨rfl, rfl, rfl, -⟩
  · exact ch0 l Z a0 hw ws j s1 t1 k1 cs zc fm h0 n0 O0 E1 V1 C1 A1 hs hq hl hj SZ PZ SF RF
  · exact ch1 l Z a0 hw ws j s1 t1 k1 cs zc fm h0 n0 O0 E1 V1 C1 A1 hs hq hj SZ PZ SF RF SA SH SL
def IX (cs : List Int32) : Int32 := if cs.findIdx (fun c => decide (c = (46 : Int32))) < cs.length then Int32.ofNat (cs.findIdx (fun c => decide (c = (46 : Int32)))) else (-1 : Int32)
theorem own_gE {cs : List Int32} {j : Nat} (h : j < cs.length) : cs.getD j 0 = cs[j] := by simp [List.getD_eq_getElem?_getD, h]
theorem own_ix_at {cs : List Int32} {j : Nat} (hj : j < cs.length) (he : cs.getD j 0 = (46 : Int32)) (hn : ∀ m < j, ¬ cs.getD m 0 = (46 : Int32)) : IX cs = Int32.ofNat j := by
  have e : cs.findIdx (fun c => decide (c = (46 : Int32))) = j := by
    rw [List.findIdx_eq hj]
    refine ⟨by rw [own_gE hj] at he; simp [he], fun m hm => ?_⟩
    have := hn m hm
    rw [own_gE (by omega)] at this
    simp [this]
  unfold IX
  rw [e, if_pos hj]
theorem own_ix_no {cs : List Int32} (hn : ∀ m < cs.length, ¬ cs.getD m 0 = (46 : Int32)) : IX cs = (-1 : Int32) := by
  unfold IX
  rw [if_neg]
  intro h
  have e := List.findIdx_getElem (w := h)
  have := hn _ h
  rw [own_gE h] at this
  exact this (by simpa using e)
theorem own_ix_c (cs : List Int32) : (IX cs = (-1 : Int32) ∧ ∀ m < cs.length, ¬ cs.getD m 0 = (46 : Int32)) ∨ ∃ p, p < cs.length ∧ IX cs = Int32.ofNat p ∧ cs.getD p 0 = (46 : Int32) ∧ ∀ m < p, ¬ cs.getD m 0 = (46 : Int32) := by
  by_cases q : ∃ p, p < cs.length ∧ cs.getD p 0 = (46 : Int32)
  · right
    have hl : cs.findIdx (fun c => decide (c = (46 : Int32))) < cs.length := by
      obtain ⟨p, hp, e⟩ := q
      rw [own_gE hp] at e
      exact List.findIdx_lt_length_of_exists ⟨cs[p], List.getElem_mem hp, by simp [e]⟩
    have e := List.findIdx_getElem (w := hl)
    refine ⟨_, hl, by unfold IX; rw [if_pos hl], by rw [own_gE hl]; simpa using e, fun m hm => ?_⟩
    have := List.not_of_lt_findIdx hm
    rw [own_gE (by omega)]
    simpa using this
  · left
    have hn : ∀ m < cs.length, ¬ cs.getD m 0 = (46 : Int32) := fun m hm e => q ⟨m, hm, e⟩
    exact ⟨own_ix_no hn, hn⟩
theorem own_all {P : Nat → Prop} {j n : Nat} (h : ∀ m < j, P m) (hj : j ≤ n) (hn : n < 16) (q : ¬ Int32.ofNat j < Int32.ofNat n) : ∀ m < n, P m := fun m hm => h m (by
  have t : ¬ j < n := fun r => q ((own_lt (by omega) hn).mpr r)
  omega)
theorem own_step {P : Nat → Prop} {j : Nat} (h : ∀ m < j, P m) (q : P j) : ∀ m < j + 1, P m := fun m hm => by
  by_cases e : m = j
  · subst e; exact q
  · exact h m (by omega)
theorem own_lo46 {c : Int32} (h : C16 c) (q : ¬ (255 : Int32) < c) (e : lo8 c = ((46 : Int32).toInt8.toInt32)) : c = (46 : Int32) := by
  have h1 := own_gl h q
  have h2 := own_gl (c := (46 : Int32)) ⟨by decide, by decide⟩ (by decide)
  have e' : lo8 c = lo8 (46 : Int32) := e
  rw [← h1, e', h2]
theorem own_lo46n {c : Int32} (e : ¬ lo8 c = ((46 : Int32).toInt8.toInt32)) : ¬ c = (46 : Int32) := fun q => e (by rw [q]; rfl)
theorem own_ix_e {cs : List Int32} (hs : cs.length ≤ 6) (h : ¬ (0 : Int32) < Int32.ofNat cs.length) : IX cs = (-1 : Int32) := own_ix_no fun m hm => absurd ((own_lt (j := 0) (by omega) (by omega)).mpr (show 0 < cs.length by omega)) h
theorem own_frnil {n0 : Nat} {L : List Loc} (h : L = []) : Fr n0 L := h ▸ Fr.nil n0
theorem ef_rm22 (m : MethodId) (x0 : Addr) (x1 : Int32) (x2 : Int32) (x3 : Int32) : entryFrame m #[(.ref x0), (.int x1), (.int x2), (.int x3)] 6 = mkF m 0 #[.val (.ref x0), .val (.int x1), .val (.int x2), .val (.int x3), .unset, .unset] [] := by first | (simp [entryFrame, mkF, argsToLocals, Value.category]; done) | rfl
def Q_rm22 (Z : State) (t1 : Addr) (k1 : ClassId) (cs : List Int32) (h0 : Heap) (n0 : Nat) (v : Option Value) (h : Heap) (L : List Loc) : Prop := (v = some (.int (IX cs))) ∧ (Fr n0 L) ∧ (h = h0)
theorem d22_0 : decode jdk_43_method_23_code 0 = .ok (.iload_n 1, 1) := by decide +kernel
theorem d22_1 : decode jdk_43_method_23_code 1 = .ok (.i2b, 1) := by decide +kernel
theorem d22_2 : decode jdk_43_method_23_code 2 = .ok (.istore 4, 2) := by decide +kernel
theorem d22_4 : decode jdk_43_method_23_code 4 = .ok (.iload_n 2, 1) := by decide +kernel
theorem d22_5 : decode jdk_43_method_23_code 5 = .ok (.istore 5, 2) := by decide +kernel
theorem d22_7 : decode jdk_43_method_23_code 7 = .ok (.iload 5, 2) := by decide +kernel
theorem d22_9 : decode jdk_43_method_23_code 9 = .ok (.iload_n 3, 1) := by decide +kernel
theorem d22_10 : decode jdk_43_method_23_code 10 = .ok (.if_icmp .ge 21, 3) := by decide +kernel
theorem d22_13 : decode jdk_43_method_23_code 13 = .ok (.aload_n 0, 1) := by decide +kernel
theorem d22_14 : decode jdk_43_method_23_code 14 = .ok (.iload 5, 2) := by decide +kernel
theorem d22_16 : decode jdk_43_method_23_code 16 = .ok (.baload, 1) := by decide +kernel
theorem d22_17 : decode jdk_43_method_23_code 17 = .ok (.iload 4, 2) := by decide +kernel
theorem d22_19 : decode jdk_43_method_23_code 19 = .ok (.if_icmp .ne 6, 3) := by decide +kernel
theorem d22_22 : decode jdk_43_method_23_code 22 = .ok (.iload 5, 2) := by decide +kernel
theorem d22_24 : decode jdk_43_method_23_code 24 = .ok (.ireturn, 1) := by decide +kernel
theorem d22_25 : decode jdk_43_method_23_code 25 = .ok (.iinc 5 1, 3) := by decide +kernel
theorem d22_28 : decode jdk_43_method_23_code 28 = .ok (.goto (-21), 3) := by decide +kernel
theorem d22_31 : decode jdk_43_method_23_code 31 = .ok (.iconst (-1), 1) := by decide +kernel
theorem d22_32 : decode jdk_43_method_23_code 32 = .ok (.ireturn, 1) := by decide +kernel
set_option maxRecDepth 65536 in
set_option maxHeartbeats 40000000 in
theorem rm22 (l : Launch) (Z : State) (a0 : Array Value) (hw : ∀ d ∈ tables_1, d.before a0 Z = true) (ws : List Jvm.Cond) (t1 : Addr) (k1 : ClassId) (cs : List Int32) (h0 : Heap) (n0 : Nat) (O0 : Old Z n0 h0) (AL : Arv Z h0 t1 k1 .byte (Int32.ofNat cs.length) (cs.map fun c => Value.int (lo8 c)) (.int (0 : Int32))) (hs : cs.length ≤ 6) (hq : ∀ c ∈ cs, C16 c) (hl : ∀ c ∈ cs, ¬ (255 : Int32) < c) :
    MetFree l (⟨"java/lang/StringLatin1", "indexOfChar", "([BIII)I"⟩ : MethodName) (head1 (Jvm.Cond.code (⟨"java/lang/StringLatin1", "indexOfChar", "([BIII)I"⟩ : MethodName) jdk_43_method_23_code 6 (some .int) :: ws) ({ frames := 0, cells := 0, slots := 0, locals := 0 } : Room)) (fun a U => a = #[(.ref t1), (.int (46 : Int32)), (.int (0 : Int32)), (.int (Int32.ofNat cs.length))] ∧ Z.Warmed39 U.vm ∧ U.heap = h0) (fun _ _ _ _ _ => True) (fun _ U o U' => ∃ v L, o = .returned v ∧ Q_rm22 Z t1 k1 cs h0 n0 v U'.heap L ∧ FrameEnd U o U' L ({ frames := 0, cells := 0, slots := 0, locals := 0 } : Room).cells ({ frames := 0, cells := 0, slots := 0, locals := 0 } : Room).slots) := by
  refine MetFree.of_bodySF (plainFor_of_name pn_3) hisR ?_
  intro p e s m args below meth c s₁ Bd hml0 hP hK
  obtain ⟨rfl, hZ, hh⟩ := hP
  have hx := Bd.exec
  have hby := Bd.bytes
  have hml : c.maxLocals = 6 := hml0
  have hown : s.vm.findClass "java/lang/StringLatin1" = some m.cls := findClass_of_methodNamed Bd.named
  have hnm := (name_of_methodNamed Bd.named Bd.method).1
  have X0 : Stand p l e ({ frames := 0, cells := 0, slots := 0, locals := 0 } : Room) s m #[(.ref t1), (.int (46 : Int32)), (.int (0 : Int32)), (.int (Int32.ofNat cs.length))] below meth c s₁ [] 0 0 := Stand.of_body Bd
  have e0 : s₁.heap = h0 := by rw [← hh, Bd.state]; rfl
  have N0 := Fr.nil n0
  have Z0 : n0 ≤ h0.size := old_le O0
  have pre0 : ∀ t, Steps p.tables e below (s₁.setTop (mkF m 0 #[.val (.ref t1), .val (.int (46 : Int32)), .val (.int (0 : Int32)), .val (.int (Int32.ofNat cs.length)), .unset, .unset] [])) t → Steps p.tables e below (s₁.setTop (entryFrame m #[(.ref t1), (.int (46 : Int32)), (.int (0 : Int32)), (.int (Int32.ofNat cs.length))] 6)) t := fun t k => castTop (ef_rm22 m t1 (46 : Int32) (0 : Int32) (Int32.ofNat cs.length)) k
  have S101 : ∀ t, Steps p.tables e below (s₁.setTop (mkF m 7 #[.val (.ref t1), .val (.int (46 : Int32)), .val (.int (0 : Int32)), .val (.int (Int32.ofNat cs.length)), .val (.int ((46 : Int32).toInt8.toInt32)), .val (.int (0 : Int32))] [])) t → Steps p.tables e below (s₁.setTop (entryFrame m #[(.ref t1), (.int (46 : Int32)), (.int (0 : Int32)), (.int (Int32.ofNat cs.length))] 6)) t := fun t k => by
    refine pre0 t ?_
    show Steps p.tables e below (s₁.setTop (mkF m 0 #[.val (.ref t1), .val (.int (46 : Int32)), .val (.int (0 : Int32)), .val (.int (Int32.ofNat cs.length)), .unset, .unset] [])) _
    refine XS.iloadN X0.here hx rfl (hb hby d22_0) rfl ?_
    refine XS.i2b X0.here hx rfl (hb hby d22_1) rfl ?_
    show Steps p.tables e below (s₁.setTop (mkF m 2 #[.val (.ref t1), .val (.int (46 : Int32)), .val (.int (0 : Int32)), .val (.int (Int32.ofNat cs.length)), .unset, .unset] [(.int ((46 : Int32).toInt8.toInt32))])) _
    refine XS.istore X0.here hx rfl (hb hby d22_2) rfl (l' := #[.val (.ref t1), .val (.int (46 : Int32)), .val (.int (0 : Int32)), .val (.int (Int32.ofNat cs.length)), .val (.int ((46 : Int32).toInt8.toInt32)), .unset]) rfl ?_
    show Steps p.tables e below (s₁.setTop (mkF m 4 #[.val (.ref t1), .val (.int (46 : Int32)), .val (.int (0 : Int32)), .val (.int (Int32.ofNat cs.length)), .val (.int ((46 : Int32).toInt8.toInt32)), .unset] [])) _
    refine XS.iloadN X0.here hx rfl (hb hby d22_4) rfl ?_
    refine XS.istore X0.here hx rfl (hb hby d22_5) rfl (l' := #[.val (.ref t1), .val (.int (46 : Int32)), .val (.int (0 : Int32)), .val (.int (Int32.ofNat cs.length)), .val (.int ((46 : Int32).toInt8.toInt32)), .val (.int (0 : Int32))]) rfl ?_
    exact k
  refine (?lp102 : ∀ (k : Nat) (j : Nat) (T : State) (L : List Loc), Stand p l e ({ frames := 0, cells := 0, slots := 0, locals := 0 } : Room) s m #[(.ref t1), (.int (46 : Int32)), (.int (0 : Int32)), (.int (Int32.ofNat cs.length))] below meth c T L 0 0 → T.heap = h0 → Fr n0 L → (∀ t, Steps p.tables e below (T.setTop (mkF m 7 #[.val (.ref t1), .val (.int (46 : Int32)), .val (.int (0 : Int32)), .val (.int (Int32.ofNat cs.length)), .val (.int ((46 : Int32).toInt8.toInt32)), .val (.int (Int32.ofNat j))] [])) t → Steps p.tables e below (s₁.setTop (entryFrame m #[(.ref t1), (.int (46 : Int32)), (.int (0 : Int32)), (.int (Int32.ofNat cs.length))] 6)) t) → (j ≤ cs.length) → (∀ m < j, ¬ cs.getD m 0 = (46 : Int32)) → (cs.length - j) = k → _) _ (0) s₁ _ X0 e0 N0 S101 (Nat.zero_le _) (fun m h => absurd h (Nat.not_lt_zero m)) rfl
  intro k
  induction k using Nat.strongRecOn with
  | _ k ihlp102 =>
    intro j Tlp102 Llp102 Xlp102 elp102 Nlp102 Slp102 ij iv hklp102
    have S104 : ∀ t, Steps p.tables e below (Tlp102.setTop (mkF m 10 #[.val (.ref t1), .val (.int (46 : Int32)), .val (.int (0 : Int32)), .val (.int (Int32.ofNat cs.length)), .val (.int ((46 : Int32).toInt8.toInt32)), .val (.int (Int32.ofNat j))] [(.int (Int32.ofNat cs.length)), (.int (Int32.ofNat j))])) t → Steps p.tables e below (s₁.setTop (entryFrame m #[(.ref t1), (.int (46 : Int32)), (.int (0 : Int32)), (.int (Int32.ofNat cs.length))] 6)) t := fun t k => by
      refine Slp102 t ?_
      show Steps p.tables e below (Tlp102.setTop (mkF m 7 #[.val (.ref t1), .val (.int (46 : Int32)), .val (.int (0 : Int32)), .val (.int (Int32.ofNat cs.length)), .val (.int ((46 : Int32).toInt8.toInt32)), .val (.int (Int32.ofNat j))] [])) _
      refine XS.iload Xlp102.here hx rfl (hb hby d22_7) rfl ?_
      refine XS.iloadN Xlp102.here hx rfl (hb hby d22_9) rfl ?_
      exact k
    by_cases hc103 : (Int32.ofNat j) < (Int32.ofNat cs.length)
    · obtain ⟨clq105, Arq105, kqq105, Szq105, Nnq105, Hsq105, Gsq105⟩ := id AL
      have hinq105 : ¬ ((Int32.ofNat j) < 0 ∨ clq105.slots.size ≤ ((Int32.ofNat j)).toNatClampNeg) := inb_of Szq105 (own_inb ((own_lt (show j < 16 by omega) (show cs.length < 16 by omega)).mp hc103) (by omega))
      have S107 : ∀ t, Steps p.tables e below (Tlp102.setTop (mkF m 19 #[.val (.ref t1), .val (.int (46 : Int32)), .val (.int (0 : Int32)), .val (.int (Int32.ofNat cs.length)), .val (.int ((46 : Int32).toInt8.toInt32)), .val (.int (Int32.ofNat j))] [(.int ((46 : Int32).toInt8.toInt32)), (.int (lo8 (cs.getD j 0)))])) t → Steps p.tables e below (s₁.setTop (entryFrame m #[(.ref t1), (.int (46 : Int32)), (.int (0 : Int32)), (.int (Int32.ofNat cs.length))] 6)) t := fun t k => by
        refine S104 t ?_
        show Steps p.tables e below (Tlp102.setTop (mkF m 10 #[.val (.ref t1), .val (.int (46 : Int32)), .val (.int (0 : Int32)), .val (.int (Int32.ofNat cs.length)), .val (.int ((46 : Int32).toInt8.toInt32)), .val (.int (Int32.ofNat j))] [(.int (Int32.ofNat cs.length)), (.int (Int32.ofNat j))])) _
        refine XS.icmpNo Xlp102.here hx rfl (hb hby d22_10) rfl (tlt hc103).2.1 ?_
        show Steps p.tables e below (Tlp102.setTop (mkF m 13 #[.val (.ref t1), .val (.int (46 : Int32)), .val (.int (0 : Int32)), .val (.int (Int32.ofNat cs.length)), .val (.int ((46 : Int32).toInt8.toInt32)), .val (.int (Int32.ofNat j))] [])) _
        refine XS.aloadN Xlp102.here hx rfl (hb hby d22_13) rfl rfl ?_
        refine XS.iload Xlp102.here hx rfl (hb hby d22_14) rfl ?_
        show Steps p.tables e below (Tlp102.setTop (mkF m 16 #[.val (.ref t1), .val (.int (46 : Int32)), .val (.int (0 : Int32)), .val (.int (Int32.ofNat cs.length)), .val (.int ((46 : Int32).toInt8.toInt32)), .val (.int (Int32.ofNat j))] [(.int (Int32.ofNat j)), (.ref t1)])) _
        refine Xlp102.baloadBytes hx (j := (Int32.ofNat j)) (v := (.int (lo8 (cs.getD j 0)))) (by rw [elp102]; exact Arq105.1) (State.isArrayOf_alike hZ.alike Arq105.2.1) Arq105.2.2 hinq105 (Has.at Hsq105 hinq105 (own_low ((own_lt (show j < 16 by omega) (show cs.length < 16 by omega)).mp hc103) hs)) (g := (mkF m 16 #[.val (.ref t1), .val (.int (46 : Int32)), .val (.int (0 : Int32)), .val (.int (Int32.ofNat cs.length)), .val (.int ((46 : Int32).toInt8.toInt32)), .val (.int (Int32.ofNat j))] [(.int (Int32.ofNat j)), (.ref t1)])) rfl rfl (hb hby d22_16) _ ?_
        show Steps p.tables e below (Tlp102.setTop (mkF m 17 #[.val (.ref t1), .val (.int (46 : Int32)), .val (.int (0 : Int32)), .val (.int (Int32.ofNat cs.length)), .val (.int ((46 : Int32).toInt8.toInt32)), .val (.int (Int32.ofNat j))] [(.int (lo8 (cs.getD j 0)))])) _
        refine XS.iload Xlp102.here hx rfl (hb hby d22_17) rfl ?_
        exact k
      by_cases hc106 : (lo8 (cs.getD j 0)) = ((46 : Int32).toInt8.toInt32)
      · obtain ⟨fs, hr, hrun, hended, hW, hsame⟩ := Xlp102.leave (v := some (.int (Int32.ofNat j))) (fun h => by rw [Bd.returns] at h; cases h)
        refine ⟨_, _, S107 _ ?_, hrun, hended, _, _, rfl, ?_, ⟨_, rfl⟩, hW, hsame.mono (by decide) (by decide)⟩
        · show Steps p.tables e below (Tlp102.setTop (mkF m 19 #[.val (.ref t1), .val (.int (46 : Int32)), .val (.int (0 : Int32)), .val (.int (Int32.ofNat cs.length)), .val (.int ((46 : Int32).toInt8.toInt32)), .val (.int (Int32.ofNat j))] [(.int ((46 : Int32).toInt8.toInt32)), (.int (lo8 (cs.getD j 0)))])) _
          refine XS.icmpNo Xlp102.here hx rfl (hb hby d22_19) rfl (teq hc106).2 ?_
          show Steps p.tables e below (Tlp102.setTop (mkF m 22 #[.val (.ref t1), .val (.int (46 : Int32)), .val (.int (0 : Int32)), .val (.int (Int32.ofNat cs.length)), .val (.int ((46 : Int32).toInt8.toInt32)), .val (.int (Int32.ofNat j))] [])) _
          refine XS.iload Xlp102.here hx rfl (hb hby d22_22) rfl ?_
          show Steps p.tables e below (Tlp102.setTop (mkF m 24 #[.val (.ref t1), .val (.int (46 : Int32)), .val (.int (0 : Int32)), .val (.int (Int32.ofNat cs.length)), .val (.int ((46 : Int32).toInt8.toInt32)), .val (.int (Int32.ofNat j))] [(.int (Int32.ofNat j))])) _
          exact Jvm.RoadKit.retOut Xlp102 hx Bd.returns rfl (Or.inl ⟨rfl, by simp, _, rfl⟩) (hb hby d22_24) hr
        · show Q_rm22 Z t1 k1 cs h0 n0 _ Tlp102.heap _
          rw [elp102]
          unfold Q_rm22
          exact ⟨(by rw [own_ix_at ((own_lt (show j < 16 by omega) (show cs.length < 16 by omega)).mp hc103) (own_lo46 (own_getD16 hq j) (own_getl hl ((own_lt (show j < 16 by omega) (show cs.length < 16 by omega)).mp hc103)) hc106) iv]), Nlp102, rfl⟩
      · have S108 : ∀ t, Steps p.tables e below (Tlp102.setTop (mkF m 7 #[.val (.ref t1), .val (.int (46 : Int32)), .val (.int (0 : Int32)), .val (.int (Int32.ofNat cs.length)), .val (.int ((46 : Int32).toInt8.toInt32)), .val (.int (Int32.ofNat (j + 1)))] [])) t → Steps p.tables e below (s₁.setTop (entryFrame m #[(.ref t1), (.int (46 : Int32)), (.int (0 : Int32)), (.int (Int32.ofNat cs.length))] 6)) t := fun t k => by
          refine S107 t ?_
          show Steps p.tables e below (Tlp102.setTop (mkF m 19 #[.val (.ref t1), .val (.int (46 : Int32)), .val (.int (0 : Int32)), .val (.int (Int32.ofNat cs.length)), .val (.int ((46 : Int32).toInt8.toInt32)), .val (.int (Int32.ofNat j))] [(.int ((46 : Int32).toInt8.toInt32)), (.int (lo8 (cs.getD j 0)))])) _
          refine XS.icmpYes Xlp102.here hx rfl (pc0 := 19) (pc' := 25) rfl (hb hby d22_19) rfl (feq hc106).2 (by decide) (by decide) ?_
          show Steps p.tables e below (Tlp102.setTop (mkF m 25 #[.val (.ref t1), .val (.int (46 : Int32)), .val (.int (0 : Int32)), .val (.int (Int32.ofNat cs.length)), .val (.int ((46 : Int32).toInt8.toInt32)), .val (.int (Int32.ofNat j))] [])) _
          refine XS.iinc Xlp102.here hx rfl (hb hby d22_25) rfl (l' := #[.val (.ref t1), .val (.int (46 : Int32)), .val (.int (0 : Int32)), .val (.int (Int32.ofNat cs.length)), .val (.int ((46 : Int32).toInt8.toInt32)), .val (.int ((Int32.ofNat j) + (1 : Int32)))]) rfl ?_
          show Steps p.tables e below (Tlp102.setTop (mkF m 28 #[.val (.ref t1), .val (.int (46 : Int32)), .val (.int (0 : Int32)), .val (.int (Int32.ofNat cs.length)), .val (.int ((46 : Int32).toInt8.toInt32)), .val (.int ((Int32.ofNat j) + (1 : Int32)))] [])) _
          refine XS.goto Xlp102.here hx rfl (pc0 := 28) (pc' := 7) rfl (hb hby d22_28) (by decide) (by decide) ?_
          show Steps p.tables e below (Tlp102.setTop (mkF m 7 #[.val (.ref t1), .val (.int (46 : Int32)), .val (.int (0 : Int32)), .val (.int (Int32.ofNat cs.length)), .val (.int ((46 : Int32).toInt8.toInt32)), .val (.int ((Int32.ofNat j) + (1 : Int32)))] [])) _
          rw [own_succ]
          exact k
        exact ihlp102 _ (by have := ((own_lt (show j < 16 by omega) (show cs.length < 16 by omega)).mp hc103); omega) (j + 1) Tlp102 _ Xlp102 elp102 Nlp102  S108 ((own_lt (show j < 16 by omega) (show cs.length < 16 by omega)).mp hc103) (own_step iv (own_lo46n hc106)) rfl
    · obtain ⟨fs, hr, hrun, hended, hW, hsame⟩ := Xlp102.leave (v := some (.int (-1 : Int32))) (fun h => by rw [Bd.returns] at h; cases h)
      refine ⟨_, _, S104 _ ?_, hrun, hended, _, _, rfl, ?_, ⟨_, rfl⟩, hW, hsame.mono (by decide) (by decide)⟩
      · show Steps p.tables e below (Tlp102.setTop (mkF m 10 #[.val (.ref t1), .val (.int (46 : Int32)), .val (.int (0 : Int32)), .val (.int (Int32.ofNat cs.length)), .val (.int ((46 : Int32).toInt8.toInt32)), .val (.int (Int32.ofNat j))] [(.int (Int32.ofNat cs.length)), (.int (Int32.ofNat j))])) _
        refine XS.icmpYes Xlp102.here hx rfl (pc0 := 10) (pc' := 31) rfl (hb hby d22_10) rfl (flt hc103).2.1 (by decide) (by decide) ?_
        show Steps p.tables e below (Tlp102.setTop (mkF m 31 #[.val (.ref t1), .val (.int (46 : Int32)), .val (.int (0 : Int32)), .val (.int (Int32.ofNat cs.length)), .val (.int ((46 : Int32).toInt8.toInt32)), .val (.int (Int32.ofNat j))] [])) _
        refine XS.iconst Xlp102.here hx rfl (hb hby d22_31) ?_
        show Steps p.tables e below (Tlp102.setTop (mkF m 32 #[.val (.ref t1), .val (.int (46 : Int32)), .val (.int (0 : Int32)), .val (.int (Int32.ofNat cs.length)), .val (.int ((46 : Int32).toInt8.toInt32)), .val (.int (Int32.ofNat j))] [(.int (-1 : Int32))])) _
        exact Jvm.RoadKit.retOut Xlp102 hx Bd.returns rfl (Or.inl ⟨rfl, by simp, _, rfl⟩) (hb hby d22_32) hr
      · show Q_rm22 Z t1 k1 cs h0 n0 _ Tlp102.heap _
        rw [elp102]
        unfold Q_rm22
        exact ⟨(by rw [own_ix_no (own_all iv ij (by omega) hc103)]), Nlp102, rfl⟩
theorem ef_rm38 (m : MethodId) (x0 : Addr) (x1 : Int32) (x2 : Int32) (x3 : Int32) : entryFrame m #[(.ref x0), (.int x1), (.int x2), (.int x3)] 5 = mkF m 0 #[.val (.ref x0), .val (.int x1), .val (.int x2), .val (.int x3), .unset] [] := by first | (simp [entryFrame, mkF, argsToLocals, Value.category]; done) | rfl
def Q_rm38 (Z : State) (t1 : Addr) (k1 : ClassId) (cs : List Int32) (h0 : Heap) (n0 : Nat) (v : Option Value) (h : Heap) (L : List Loc) : Prop := (v = some (.int (IX cs))) ∧ (Fr n0 L) ∧ (h = h0)
theorem d38_0 : decode jdk_52_method_48_code 0 = .ok (.iload_n 2, 1) := by decide +kernel
theorem d38_1 : decode jdk_52_method_48_code 1 = .ok (.istore 4, 2) := by decide +kernel
theorem d38_3 : decode jdk_52_method_48_code 3 = .ok (.iload 4, 2) := by decide +kernel
theorem d38_5 : decode jdk_52_method_48_code 5 = .ok (.iload_n 3, 1) := by decide +kernel
theorem d38_6 : decode jdk_52_method_48_code 6 = .ok (.if_icmp .ge 22, 3) := by decide +kernel
theorem d38_9 : decode jdk_52_method_48_code 9 = .ok (.aload_n 0, 1) := by decide +kernel
theorem d38_10 : decode jdk_52_method_48_code 10 = .ok (.iload 4, 2) := by decide +kernel
theorem d38_12 : decode jdk_52_method_48_code 12 = .ok (.invokestatic 71, 3) := by decide +kernel
theorem d38_15 : decode jdk_52_method_48_code 15 = .ok (.iload_n 1, 1) := by decide +kernel
theorem d38_16 : decode jdk_52_method_48_code 16 = .ok (.if_icmp .ne 6, 3) := by decide +kernel
theorem d38_19 : decode jdk_52_method_48_code 19 = .ok (.iload 4, 2) := by decide +kernel
theorem d38_21 : decode jdk_52_method_48_code 21 = .ok (.ireturn, 1) := by decide +kernel
theorem d38_22 : decode jdk_52_method_48_code 22 = .ok (.iinc 4 1, 3) := by decide +kernel
theorem d38_25 : decode jdk_52_method_48_code 25 = .ok (.goto (-22), 3) := by decide +kernel
theorem d38_28 : decode jdk_52_method_48_code 28 = .ok (.iconst (-1), 1) := by decide +kernel
theorem d38_29 : decode jdk_52_method_48_code 29 = .ok (.ireturn, 1) := by decide +kernel
set_option maxRecDepth 65536 in
set_option maxHeartbeats 40000000 in
theorem rm38 (l : Launch) (Z : State) (a0 : Array Value) (hw : ∀ d ∈ tables_1, d.before a0 Z = true) (ws : List Jvm.Cond) (t1 : Addr) (k1 : ClassId) (cs : List Int32) (h0 : Heap) (n0 : Nat) (O0 : Old Z n0 h0) (AW : Arv Z h0 t1 k1 .byte (Int32.ofNat (2 * cs.length)) (wideBytes cs) (.int (0 : Int32))) (hs : cs.length ≤ 6) (hq : ∀ c ∈ cs, C16 c) (SA : Sta Z Z.heap "java/lang/StringUTF16" "$assertionsDisabled" "Z" (.int (1 : Int32))) (SH : Sta Z Z.heap "java/lang/StringUTF16" "HI_BYTE_SHIFT" "I" (.int (0 : Int32))) (SL : Sta Z Z.heap "java/lang/StringUTF16" "LO_BYTE_SHIFT" "I" (.int (8 : Int32))) :
    MetFree l (⟨"java/lang/StringUTF16", "indexOfCharUnsafe", "([BIII)I"⟩ : MethodName) (head1 (Jvm.Cond.code (⟨"java/lang/StringUTF16", "indexOfCharUnsafe", "([BIII)I"⟩ : MethodName) jdk_52_method_48_code 5 (some .int) :: ws) ({ frames := 1, cells := 0, slots := 0, locals := 13 } : Room)) (fun a U => a = #[(.ref t1), (.int (46 : Int32)), (.int (0 : Int32)), (.int (Int32.ofNat cs.length))] ∧ Z.Warmed39 U.vm ∧ U.heap = h0) (fun _ _ _ _ _ => True) (fun _ U o U' => ∃ v L, o = .returned v ∧ Q_rm38 Z t1 k1 cs h0 n0 v U'.heap L ∧ FrameEnd U o U' L ({ frames := 1, cells := 0, slots := 0, locals := 13 } : Room).cells ({ frames := 1, cells := 0, slots := 0, locals := 13 } : Room).slots) := by
  refine MetFree.of_bodySF (plainFor_of_name pn_0) hisR ?_
  intro p e s m args below meth c s₁ Bd hml0 hP hK
  obtain ⟨rfl, hZ, hh⟩ := hP
  have hx := Bd.exec
  have hby := Bd.bytes
  have hml : c.maxLocals = 5 := hml0
  have hown : s.vm.findClass "java/lang/StringUTF16" = some m.cls := findClass_of_methodNamed Bd.named
  have hnm := (name_of_methodNamed Bd.named Bd.method).1
  have X0 : Stand p l e ({ frames := 1, cells := 0, slots := 0, locals := 13 } : Room) s m #[(.ref t1), (.int (46 : Int32)), (.int (0 : Int32)), (.int (Int32.ofNat cs.length))] below meth c s₁ [] 0 0 := Stand.of_body Bd
  have e0 : s₁.heap = h0 := by rw [← hh, Bd.state]; rfl
  have N0 := Fr.nil n0
  have Z0 : n0 ≤ h0.size := old_le O0
  have pre0 : ∀ t, Steps p.tables e below (s₁.setTop (mkF m 0 #[.val (.ref t1), .val (.int (46 : Int32)), .val (.int (0 : Int32)), .val (.int (Int32.ofNat cs.length)), .unset] [])) t → Steps p.tables e below (s₁.setTop (entryFrame m #[(.ref t1), (.int (46 : Int32)), (.int (0 : Int32)), (.int (Int32.ofNat cs.length))] 5)) t := fun t k => castTop (ef_rm38 m t1 (46 : Int32) (0 : Int32) (Int32.ofNat cs.length)) k
  have S101 : ∀ t, Steps p.tables e below (s₁.setTop (mkF m 3 #[.val (.ref t1), .val (.int (46 : Int32)), .val (.int (0 : Int32)), .val (.int (Int32.ofNat cs.length)), .val (.int (0 : Int32))] [])) t → Steps p.tables e below (s₁.setTop (entryFrame m #[(.ref t1), (.int (46 : Int32)), (.int (0 : Int32)), (.int (Int32.ofNat cs.length))] 5)) t := fun t k => by
    refine pre0 t ?_
    show Steps p.tables e below (s₁.setTop (mkF m 0 #[.val (.ref t1), .val (.int (46 : Int32)), .val (.int (0 : Int32)), .val (.int (Int32.ofNat cs.length)), .unset] [])) _
    refine XS.iloadN X0.here hx rfl (hb hby d38_0) rfl ?_
    refine XS.istore X0.here hx rfl (hb hby d38_1) rfl (l' := #[.val (.ref t1), .val (.int (46 : Int32)), .val (.int (0 : Int32)), .val (.int (Int32.ofNat cs.length)), .val (.int (0 : Int32))]) rfl ?_
    exact k
  refine (?lp102 : ∀ (k : Nat) (j : Nat) (T : State) (L : List Loc), Stand p l e ({ frames := 1, cells := 0, slots := 0, locals := 13 } : Room) s m #[(.ref t1), (.int (46 : Int32)), (.int (0 : Int32)), (.int (Int32.ofNat cs.length))] below meth c T L 0 0 → T.heap = h0 → Fr n0 L → (∀ t, Steps p.tables e below (T.setTop (mkF m 3 #[.val (.ref t1), .val (.int (46 : Int32)), .val (.int (0 : Int32)), .val (.int (Int32.ofNat cs.length)), .val (.int (Int32.ofNat j))] [])) t → Steps p.tables e below (s₁.setTop (entryFrame m #[(.ref t1), (.int (46 : Int32)), (.int (0 : Int32)), (.int (Int32.ofNat cs.length))] 5)) t) → (j ≤ cs.length) → (∀ m < j, ¬ cs.getD m 0 = (46 : Int32)) → (cs.length - j) = k → _) _ (0) s₁ _ X0 e0 N0 S101 (Nat.zero_le _) (fun m h => absurd h (Nat.not_lt_zero m)) rfl
  intro k
  induction k using Nat.strongRecOn with
  | _ k ihlp102 =>
    intro j Tlp102 Llp102 Xlp102 elp102 Nlp102 Slp102 ij iv hklp102
    have S104 : ∀ t, Steps p.tables e below (Tlp102.setTop (mkF m 6 #[.val (.ref t1), .val (.int (46 : Int32)), .val (.int (0 : Int32)), .val (.int (Int32.ofNat cs.length)), .val (.int (Int32.ofNat j))] [(.int (Int32.ofNat cs.length)), (.int (Int32.ofNat j))])) t → Steps p.tables e below (s₁.setTop (entryFrame m #[(.ref t1), (.int (46 : Int32)), (.int (0 : Int32)), (.int (Int32.ofNat cs.length))] 5)) t := fun t k => by
      refine Slp102 t ?_
      show Steps p.tables e below (Tlp102.setTop (mkF m 3 #[.val (.ref t1), .val (.int (46 : Int32)), .val (.int (0 : Int32)), .val (.int (Int32.ofNat cs.length)), .val (.int (Int32.ofNat j))] [])) _
      refine XS.iload Xlp102.here hx rfl (hb hby d38_3) rfl ?_
      refine XS.iloadN Xlp102.here hx rfl (hb hby d38_5) rfl ?_
      exact k
    by_cases hc103 : (Int32.ofNat j) < (Int32.ofNat cs.length)
    · obtain ⟨_, _, ⟨T105, L105, k105, n105⟩, -, X105, ⟨Lc105, hQ105, l105, y105, z105⟩, st105⟩ := Jvm.LawKit.callS Xlp102 hx (y := (⟨"java/lang/StringUTF16", "getChar", "([BI)C"⟩ : MethodName)) hown (mvT hZ (hwk hw 130 rfl)) (mvT hZ (hwk hw 131 rfl)) (mvT hZ (hwk hw 84 rfl)) (mvT hZ (hwk hw 132 rfl)) (by decide) (backOf (W := 0) (rm31 l Z a0 hw [] j t1 k1 cs h0 n0 O0 AW hs hq ((own_lt (show j < 16 by omega) (show cs.length < 16 by omega)).mp hc103) SA SH SL) hZ (hwk hw 132 rfl) (hwk hw 84 rfl) (by decide) (by decide)) (g := (mkF m 12 #[.val (.ref t1), .val (.int (46 : Int32)), .val (.int (0 : Int32)), .val (.int (Int32.ofNat cs.length)), .val (.int (Int32.ofNat j))] [(.int (Int32.ofNat j)), (.ref t1)])) rfl (by rw [hml]; rfl) (argsL := [(.ref t1), (.int (Int32.ofNat j))]) (rest := []) (lenOf pd_4 rfl) rfl (by show 2 * 0 + _ ≤ _; exact Nat.le_of_eq rfl) (hb hby d38_12) (fun _ _ => ⟨rfl, elp102, (by decide : 0 + 0 ≤ _), (by decide : 0 + 0 ≤ _)⟩)
      dsimp only [Pt.U, Pt.locs, Pt.cells, Pt.slots] at X105 l105 y105 z105 st105 hQ105
      subst l105 y105 z105
      unfold Q_rm31 at hQ105
      obtain ⟨rfl, N105q, e105⟩ := hQ105
      have N105 := Fr.app Nlp102 N105q
      have S107 : ∀ t, Steps p.tables e below (T105.setTop (mkF m 16 #[.val (.ref t1), .val (.int (46 : Int32)), .val (.int (0 : Int32)), .val (.int (Int32.ofNat cs.length)), .val (.int (Int32.ofNat j))] [(.int (46 : Int32)), (.int (cs.getD j 0))])) t → Steps p.tables e below (s₁.setTop (entryFrame m #[(.ref t1), (.int (46 : Int32)), (.int (0 : Int32)), (.int (Int32.ofNat cs.length))] 5)) t := fun t k => by
        refine S104 t ?_
        show Steps p.tables e below (Tlp102.setTop (mkF m 6 #[.val (.ref t1), .val (.int (46 : Int32)), .val (.int (0 : Int32)), .val (.int (Int32.ofNat cs.length)), .val (.int (Int32.ofNat j))] [(.int (Int32.ofNat cs.length)), (.int (Int32.ofNat j))])) _
        refine XS.icmpNo Xlp102.here hx rfl (hb hby d38_6) rfl (tlt hc103).2.1 ?_
        show Steps p.tables e below (Tlp102.setTop (mkF m 9 #[.val (.ref t1), .val (.int (46 : Int32)), .val (.int (0 : Int32)), .val (.int (Int32.ofNat cs.length)), .val (.int (Int32.ofNat j))] [])) _
        refine XS.aloadN Xlp102.here hx rfl (hb hby d38_9) rfl rfl ?_
        refine XS.iload Xlp102.here hx rfl (hb hby d38_10) rfl ?_
        show Steps p.tables e below (Tlp102.setTop (mkF m 12 #[.val (.ref t1), .val (.int (46 : Int32)), .val (.int (0 : Int32)), .val (.int (Int32.ofNat cs.length)), .val (.int (Int32.ofNat j))] [(.int (Int32.ofNat j)), (.ref t1)])) _
        refine st105 _ ?_
        show Steps p.tables e below (T105.setTop (mkF m 15 #[.val (.ref t1), .val (.int (46 : Int32)), .val (.int (0 : Int32)), .val (.int (Int32.ofNat cs.length)), .val (.int (Int32.ofNat j))] [(.int (cs.getD j 0))])) _
        refine XS.iloadN X105.here hx rfl (hb hby d38_15) rfl ?_
        exact k
      by_cases hc106 : (cs.getD j 0) = (46 : Int32)
      · obtain ⟨fs, hr, hrun, hended, hW, hsame⟩ := X105.leave (v := some (.int (Int32.ofNat j))) (fun h => by rw [Bd.returns] at h; cases h)
        refine ⟨_, _, S107 _ ?_, hrun, hended, _, _, rfl, ?_, ⟨_, rfl⟩, hW, hsame.mono (by decide) (by decide)⟩
        · show Steps p.tables e below (T105.setTop (mkF m 16 #[.val (.ref t1), .val (.int (46 : Int32)), .val (.int (0 : Int32)), .val (.int (Int32.ofNat cs.length)), .val (.int (Int32.ofNat j))] [(.int (46 : Int32)), (.int (cs.getD j 0))])) _
          refine XS.icmpNo X105.here hx rfl (hb hby d38_16) rfl (teq hc106).2 ?_
          show Steps p.tables e below (T105.setTop (mkF m 19 #[.val (.ref t1), .val (.int (46 : Int32)), .val (.int (0 : Int32)), .val (.int (Int32.ofNat cs.length)), .val (.int (Int32.ofNat j))] [])) _
          refine XS.iload X105.here hx rfl (hb hby d38_19) rfl ?_
          show Steps p.tables e below (T105.setTop (mkF m 21 #[.val (.ref t1), .val (.int (46 : Int32)), .val (.int (0 : Int32)), .val (.int (Int32.ofNat cs.length)), .val (.int (Int32.ofNat j))] [(.int (Int32.ofNat j))])) _
          exact Jvm.RoadKit.retOut X105 hx Bd.returns rfl (Or.inl ⟨rfl, by simp, _, rfl⟩) (hb hby d38_21) hr
        · show Q_rm38 Z t1 k1 cs h0 n0 _ T105.heap _
          rw [e105]
          unfold Q_rm38
          exact ⟨(by rw [own_ix_at ((own_lt (show j < 16 by omega) (show cs.length < 16 by omega)).mp hc103) hc106 iv]), N105, rfl⟩
      · have S108 : ∀ t, Steps p.tables e below (T105.setTop (mkF m 3 #[.val (.ref t1), .val (.int (46 : Int32)), .val (.int (0 : Int32)), .val (.int (Int32.ofNat cs.length)), .val (.int (Int32.ofNat (j + 1)))] [])) t → Steps p.tables e below (s₁.setTop (entryFrame m #[(.ref t1), (.int (46 : Int32)), (.int (0 : Int32)), (.int (Int32.ofNat cs.length))] 5)) t := fun t k => by
          refine S107 t ?_
          show Steps p.tables e below (T105.setTop (mkF m 16 #[.val (.ref t1), .val (.int (46 : Int32)), .val (.int (0 : Int32)), .val (.int (Int32.ofNat cs.length)), .val (.int (Int32.ofNat j))] [(.int (46 : Int32)), (.int (cs.getD j 0))])) _
          refine XS.icmpYes X105.here hx rfl (pc0 := 16) (pc' := 22) rfl (hb hby d38_16) rfl (feq hc106).2 (by decide) (by decide) ?_
          show Steps p.tables e below (T105.setTop (mkF m 22 #[.val (.ref t1), .val (.int (46 : Int32)), .val (.int (0 : Int32)), .val (.int (Int32.ofNat cs.length)), .val (.int (Int32.ofNat j))] [])) _
          refine XS.iinc X105.here hx rfl (hb hby d38_22) rfl (l' := #[.val (.ref t1), .val (.int (46 : Int32)), .val (.int (0 : Int32)), .val (.int (Int32.ofNat cs.length)), .val (.int ((Int32.ofNat j) + (1 : Int32)))]) rfl ?_
          show Steps p.tables e below (T105.setTop (mkF m 25 #[.val (.ref t1), .val (.int (46 : Int32)), .val (.int (0 : Int32)), .val (.int (Int32.ofNat cs.length)), .val (.int ((Int32.ofNat j) + (1 : Int32)))] [])) _
          refine XS.goto X105.here hx rfl (pc0 := 25) (pc' := 3) rfl (hb hby d38_25) (by decide) (by decide) ?_
          show Steps p.tables e below (T105.setTop (mkF m 3 #[.val (.ref t1), .val (.int (46 : Int32)), .val (.int (0 : Int32)), .val (.int (Int32.ofNat cs.length)), .val (.int ((Int32.ofNat j) + (1 : Int32)))] [])) _
          rw [own_succ]
          exact k
        exact ihlp102 _ (by have := ((own_lt (show j < 16 by omega) (show cs.length < 16 by omega)).mp hc103); omega) (j + 1) T105 _ X105 e105 N105  S108 ((own_lt (show j < 16 by omega) (show cs.length < 16 by omega)).mp hc103) (own_step iv hc106) rfl
    · obtain ⟨fs, hr, hrun, hended, hW, hsame⟩ := Xlp102.leave (v := some (.int (-1 : Int32))) (fun h => by rw [Bd.returns] at h; cases h)
      refine ⟨_, _, S104 _ ?_, hrun, hended, _, _, rfl, ?_, ⟨_, rfl⟩, hW, hsame.mono (by decide) (by decide)⟩
      · show Steps p.tables e below (Tlp102.setTop (mkF m 6 #[.val (.ref t1), .val (.int (46 : Int32)), .val (.int (0 : Int32)), .val (.int (Int32.ofNat cs.length)), .val (.int (Int32.ofNat j))] [(.int (Int32.ofNat cs.length)), (.int (Int32.ofNat j))])) _
        refine XS.icmpYes Xlp102.here hx rfl (pc0 := 6) (pc' := 28) rfl (hb hby d38_6) rfl (flt hc103).2.1 (by decide) (by decide) ?_
        show Steps p.tables e below (Tlp102.setTop (mkF m 28 #[.val (.ref t1), .val (.int (46 : Int32)), .val (.int (0 : Int32)), .val (.int (Int32.ofNat cs.length)), .val (.int (Int32.ofNat j))] [])) _
        refine XS.iconst Xlp102.here hx rfl (hb hby d38_28) ?_
        show Steps p.tables e below (Tlp102.setTop (mkF m 29 #[.val (.ref t1), .val (.int (46 : Int32)), .val (.int (0 : Int32)), .val (.int (Int32.ofNat cs.length)), .val (.int (Int32.ofNat j))] [(.int (-1 : Int32))])) _
        exact Jvm.RoadKit.retOut Xlp102 hx Bd.returns rfl (Or.inl ⟨rfl, by simp, _, rfl⟩) (hb hby d38_29) hr
      · show Q_rm38 Z t1 k1 cs h0 n0 _ Tlp102.heap _
        rw [elp102]
        unfold Q_rm38
        exact ⟨(by rw [own_ix_no (own_all iv ij (by omega) hc103)]), Nlp102, rfl⟩
theorem ef_rm14 (m : MethodId) (x0 : Int32) : entryFrame m #[(.int x0)] 1 = mkF m 0 #[.val (.int x0)] [] := by first | (simp [entryFrame, mkF, argsToLocals, Value.category]; done) | rfl
def Q_rm14 (Z : State)  (h0 : Heap) (n0 : Nat) (v : Option Value) (h : Heap) (L : List Loc) : Prop := (v = some (.int (1 : Int32))) ∧ (Fr n0 L) ∧ (h = h0)
theorem d14_0 : decode jdk_43_method_4_code 0 = .ok (.iload_n 0, 1) := by decide +kernel
theorem d14_1 : decode jdk_43_method_4_code 1 = .ok (.ifCond .lt 14, 3) := by decide +kernel
theorem d14_4 : decode jdk_43_method_4_code 4 = .ok (.iload_n 0, 1) := by decide +kernel
theorem d14_5 : decode jdk_43_method_4_code 5 = .ok (.sipush 255, 3) := by decide +kernel
theorem d14_8 : decode jdk_43_method_4_code 8 = .ok (.if_icmp .gt 7, 3) := by decide +kernel
theorem d14_11 : decode jdk_43_method_4_code 11 = .ok (.iconst 1, 1) := by decide +kernel
theorem d14_12 : decode jdk_43_method_4_code 12 = .ok (.goto 4, 3) := by decide +kernel
theorem d14_16 : decode jdk_43_method_4_code 16 = .ok (.ireturn, 1) := by decide +kernel
set_option maxRecDepth 65536 in
set_option maxHeartbeats 40000000 in
theorem rm14 (l : Launch) (Z : State) (a0 : Array Value) (hw : ∀ d ∈ tables_1, d.before a0 Z = true) (ws : List Jvm.Cond)  (h0 : Heap) (n0 : Nat) (O0 : Old Z n0 h0)  :
    MetFree l (⟨"java/lang/StringLatin1", "canEncode", "(I)Z"⟩ : MethodName) (head1 (Jvm.Cond.code (⟨"java/lang/StringLatin1", "canEncode", "(I)Z"⟩ : MethodName) jdk_43_method_4_code 1 (some .boolean) :: ws) ({ frames := 0, cells := 0, slots := 0, locals := 0 } : Room)) (fun a U => a = #[(.int (46 : Int32))] ∧ Z.Warmed39 U.vm ∧ U.heap = h0) (fun _ _ _ _ _ => True) (fun _ U o U' => ∃ v L, o = .returned v ∧ Q_rm14 Z  h0 n0 v U'.heap L ∧ FrameEnd U o U' L ({ frames := 0, cells := 0, slots := 0, locals := 0 } : Room).cells ({ frames := 0, cells := 0, slots := 0, locals := 0 } : Room).slots) := by
  refine MetFree.of_bodySF (plainFor_of_name pn_3) hisR ?_
  intro p e s m args below meth c s₁ Bd hml0 hP hK
  obtain ⟨rfl, hZ, hh⟩ := hP
  have hx := Bd.exec
  have hby := Bd.bytes
  have hml : c.maxLocals = 1 := hml0
  have hown : s.vm.findClass "java/lang/StringLatin1" = some m.cls := findClass_of_methodNamed Bd.named
  have hnm := (name_of_methodNamed Bd.named Bd.method).1
  have X0 : Stand p l e ({ frames := 0, cells := 0, slots := 0, locals := 0 } : Room) s m #[(.int (46 : Int32))] below meth c s₁ [] 0 0 := Stand.of_body Bd
  have e0 : s₁.heap = h0 := by rw [← hh, Bd.state]; rfl
  have N0 := Fr.nil n0
  have Z0 : n0 ≤ h0.size := old_le O0
  have pre0 : ∀ t, Steps p.tables e below (s₁.setTop (mkF m 0 #[.val (.int (46 : Int32))] [])) t → Steps p.tables e below (s₁.setTop (entryFrame m #[(.int (46 : Int32))] 1)) t := fun t k => castTop (ef_rm14 m (46 : Int32)) k
  obtain ⟨fs, hr, hrun, hended, hW, hsame⟩ := X0.leave (v := some (.int (1 : Int32))) (fun h => by rw [Bd.returns] at h; cases h)
  refine ⟨_, _, pre0 _ ?_, hrun, hended, _, _, rfl, ?_, ⟨_, rfl⟩, hW, hsame.mono (by decide) (by decide)⟩
  · show Steps p.tables e below (s₁.setTop (mkF m 0 #[.val (.int (46 : Int32))] [])) _
    refine XS.iloadN X0.here hx rfl (hb hby d14_0) rfl ?_
    refine XS.ifNo X0.here hx rfl (hb hby d14_1) rfl ((if0 _ _).trans (flt (by decide : ¬ ((46 : Int32) < (0 : Int32)))).1) ?_
    show Steps p.tables e below (s₁.setTop (mkF m 4 #[.val (.int (46 : Int32))] [])) _
    refine XS.iloadN X0.here hx rfl (hb hby d14_4) rfl ?_
    refine XS.sipush X0.here hx rfl (hb hby d14_5) ?_
    refine XS.icmpNo X0.here hx rfl (hb hby d14_8) rfl (flt (by decide : ¬ ((255 : Int32) < (46 : Int32)))).2.2.1 ?_
    show Steps p.tables e below (s₁.setTop (mkF m 11 #[.val (.int (46 : Int32))] [])) _
    refine XS.iconst X0.here hx rfl (hb hby d14_11) ?_
    refine XS.goto X0.here hx rfl (pc0 := 12) (pc' := 16) rfl (hb hby d14_12) (by decide) (by decide) ?_
    show Steps p.tables e below (s₁.setTop (mkF m 16 #[.val (.int (46 : Int32))] [(.int (1 : Int32))])) _
    exact Jvm.RoadKit.retOut X0 hx Bd.returns rfl (Or.inl ⟨rfl, by simp, _, rfl⟩) (hb hby d14_16) hr
  · show Q_rm14 Z  h0 n0 _ s₁.heap _
    rw [e0]
    unfold Q_rm14
    exact ⟨rfl, N0, rfl⟩
theorem ef_rm15 (m : MethodId) (x0 : Int32) (x1 : Int32) : entryFrame m #[(.int x0), (.int x1)] 2 = mkF m 0 #[.val (.int x0), .val (.int x1)] [] := by first | (simp [entryFrame, mkF, argsToLocals, Value.category]; done) | rfl
def Q_rm15 (Z : State)  (h0 : Heap) (n0 : Nat) (v : Option Value) (h : Heap) (L : List Loc) : Prop := (v = some (.int (0 : Int32))) ∧ (Fr n0 L) ∧ (h = h0)
theorem d15_0 : decode jdk_29_method_65_code 0 = .ok (.iload_n 0, 1) := by decide +kernel
theorem d15_1 : decode jdk_29_method_65_code 1 = .ok (.iload_n 1, 1) := by decide +kernel
theorem d15_2 : decode jdk_29_method_65_code 2 = .ok (.if_icmp .lt 7, 3) := by decide +kernel
theorem d15_5 : decode jdk_29_method_65_code 5 = .ok (.iload_n 0, 1) := by decide +kernel
theorem d15_6 : decode jdk_29_method_65_code 6 = .ok (.goto 4, 3) := by decide +kernel
theorem d15_10 : decode jdk_29_method_65_code 10 = .ok (.ireturn, 1) := by decide +kernel
set_option maxRecDepth 65536 in
set_option maxHeartbeats 40000000 in
theorem rm15 (l : Launch) (Z : State) (a0 : Array Value) (hw : ∀ d ∈ tables_1, d.before a0 Z = true) (ws : List Jvm.Cond)  (h0 : Heap) (n0 : Nat) (O0 : Old Z n0 h0)  :
    MetFree l (⟨"java/lang/Math", "max", "(II)I"⟩ : MethodName) (head1 (Jvm.Cond.code (⟨"java/lang/Math", "max", "(II)I"⟩ : MethodName) jdk_29_method_65_code 2 (some .int) :: ws) ({ frames := 0, cells := 0, slots := 0, locals := 0 } : Room)) (fun a U => a = #[(.int (0 : Int32)), (.int (0 : Int32))] ∧ Z.Warmed39 U.vm ∧ U.heap = h0) (fun _ _ _ _ _ => True) (fun _ U o U' => ∃ v L, o = .returned v ∧ Q_rm15 Z  h0 n0 v U'.heap L ∧ FrameEnd U o U' L ({ frames := 0, cells := 0, slots := 0, locals := 0 } : Room).cells ({ frames := 0, cells := 0, slots := 0, locals := 0 } : Room).slots) := by
  refine MetFree.of_bodySF (Jvm.Free.JP.mathPlain rfl (by decide +kernel)) hisR ?_
  intro p e s m args below meth c s₁ Bd hml0 hP hK
  obtain ⟨rfl, hZ, hh⟩ := hP
  have hx := Bd.exec
  have hby := Bd.bytes
  have hml : c.maxLocals = 2 := hml0
  have hown : s.vm.findClass "java/lang/Math" = some m.cls := findClass_of_methodNamed Bd.named
  have hnm := (name_of_methodNamed Bd.named Bd.method).1
  have X0 : Stand p l e ({ frames := 0, cells := 0, slots := 0, locals := 0 } : Room) s m #[(.int (0 : Int32)), (.int (0 : Int32))] below meth c s₁ [] 0 0 := Stand.of_body Bd
  have e0 : s₁.heap = h0 := by rw [← hh, Bd.state]; rfl
  have N0 := Fr.nil n0
  have Z0 : n0 ≤ h0.size := old_le O0
  have pre0 : ∀ t, Steps p.tables e below (s₁.setTop (mkF m 0 #[.val (.int (0 : Int32)), .val (.int (0 : Int32))] [])) t → Steps p.tables e below (s₁.setTop (entryFrame m #[(.int (0 : Int32)), (.int (0 : Int32))] 2)) t := fun t k => castTop (ef_rm15 m (0 : Int32) (0 : Int32)) k
  obtain ⟨fs, hr, hrun, hended, hW, hsame⟩ := X0.leave (v := some (.int (0 : Int32))) (fun h => by rw [Bd.returns] at h; cases h)
  refine ⟨_, _, pre0 _ ?_, hrun, hended, _, _, rfl, ?_, ⟨_, rfl⟩, hW, hsame.mono (by decide) (by decide)⟩
  · show Steps p.tables e below (s₁.setTop (mkF m 0 #[.val (.int (0 : Int32)), .val (.int (0 : Int32))] [])) _
    refine XS.iloadN X0.here hx rfl (hb hby d15_0) rfl ?_
    refine XS.iloadN X0.here hx rfl (hb hby d15_1) rfl ?_
    refine XS.icmpNo X0.here hx rfl (hb hby d15_2) rfl (flt (by decide : ¬ ((0 : Int32) < (0 : Int32)))).1 ?_
    show Steps p.tables e below (s₁.setTop (mkF m 5 #[.val (.int (0 : Int32)), .val (.int (0 : Int32))] [])) _
    refine XS.iloadN X0.here hx rfl (hb hby d15_5) rfl ?_
    refine XS.goto X0.here hx rfl (pc0 := 6) (pc' := 10) rfl (hb hby d15_6) (by decide) (by decide) ?_
    show Steps p.tables e below (s₁.setTop (mkF m 10 #[.val (.int (0 : Int32)), .val (.int (0 : Int32))] [(.int (0 : Int32))])) _
    exact Jvm.RoadKit.retOut X0 hx Bd.returns rfl (Or.inl ⟨rfl, by simp, _, rfl⟩) (hb hby d15_10) hr
  · show Q_rm15 Z  h0 n0 _ s₁.heap _
    rw [e0]
    unfold Q_rm15
    exact ⟨rfl, N0, rfl⟩
theorem ef_rm16 (m : MethodId) (x0 : Int32) (x1 : Int32) : entryFrame m #[(.int x0), (.int x1)] 2 = mkF m 0 #[.val (.int x0), .val (.int x1)] [] := by first | (simp [entryFrame, mkF, argsToLocals, Value.category]; done) | rfl
def Q_rm16 (Z : State) (n1 : Int32) (h0 : Heap) (n0 : Nat) (v : Option Value) (h : Heap) (L : List Loc) : Prop := (v = some (.int n1)) ∧ (Fr n0 L) ∧ (h = h0)
theorem d16_0 : decode jdk_29_method_69_code 0 = .ok (.iload_n 0, 1) := by decide +kernel
theorem d16_1 : decode jdk_29_method_69_code 1 = .ok (.iload_n 1, 1) := by decide +kernel
theorem d16_2 : decode jdk_29_method_69_code 2 = .ok (.if_icmp .gt 7, 3) := by decide +kernel
theorem d16_9 : decode jdk_29_method_69_code 9 = .ok (.iload_n 1, 1) := by decide +kernel
theorem d16_10 : decode jdk_29_method_69_code 10 = .ok (.ireturn, 1) := by decide +kernel
theorem d16_5 : decode jdk_29_method_69_code 5 = .ok (.iload_n 0, 1) := by decide +kernel
theorem d16_6 : decode jdk_29_method_69_code 6 = .ok (.goto 4, 3) := by decide +kernel
set_option maxRecDepth 65536 in
set_option maxHeartbeats 40000000 in
theorem rm16 (l : Launch) (Z : State) (a0 : Array Value) (hw : ∀ d ∈ tables_1, d.before a0 Z = true) (ws : List Jvm.Cond) (n1 : Int32) (h0 : Heap) (n0 : Nat) (O0 : Old Z n0 h0)  :
    MetFree l (⟨"java/lang/Math", "min", "(II)I"⟩ : MethodName) (head1 (Jvm.Cond.code (⟨"java/lang/Math", "min", "(II)I"⟩ : MethodName) jdk_29_method_69_code 2 (some .int) :: ws) ({ frames := 0, cells := 0, slots := 0, locals := 0 } : Room)) (fun a U => a = #[(.int n1), (.int n1)] ∧ Z.Warmed39 U.vm ∧ U.heap = h0) (fun _ _ _ _ _ => True) (fun _ U o U' => ∃ v L, o = .returned v ∧ Q_rm16 Z n1 h0 n0 v U'.heap L ∧ FrameEnd U o U' L ({ frames := 0, cells := 0, slots := 0, locals := 0 } : Room).cells ({ frames := 0, cells := 0, slots := 0, locals := 0 } : Room).slots) := by
  refine MetFree.of_bodySF (Jvm.Free.JP.mathPlain rfl (by decide +kernel)) hisR ?_
  intro p e s m args below meth c s₁ Bd hml0 hP hK
  obtain ⟨rfl, hZ, hh⟩ := hP
  have hx := Bd.exec
  have hby := Bd.bytes
  have hml : c.maxLocals = 2 := hml0
  have hown : s.vm.findClass "java/lang/Math" = some m.cls := findClass_of_methodNamed Bd.named
  have hnm := (name_of_methodNamed Bd.named Bd.method).1
  have X0 : Stand p l e ({ frames := 0, cells := 0, slots := 0, locals := 0 } : Room) s m #[(.int n1), (.int n1)] below meth c s₁ [] 0 0 := Stand.of_body Bd
  have e0 : s₁.heap = h0 := by rw [← hh, Bd.state]; rfl
  have N0 := Fr.nil n0
  have Z0 : n0 ≤ h0.size := old_le O0
  have pre0 : ∀ t, Steps p.tables e below (s₁.setTop (mkF m 0 #[.val (.int n1), .val (.int n1)] [])) t → Steps p.tables e below (s₁.setTop (entryFrame m #[(.int n1), (.int n1)] 2)) t := fun t k => castTop (ef_rm16 m n1 n1) k
  have S102 : ∀ t, Steps p.tables e below (s₁.setTop (mkF m 2 #[.val (.int n1), .val (.int n1)] [(.int n1), (.int n1)])) t → Steps p.tables e below (s₁.setTop (entryFrame m #[(.int n1), (.int n1)] 2)) t := fun t k => by
    refine pre0 t ?_
    show Steps p.tables e below (s₁.setTop (mkF m 0 #[.val (.int n1), .val (.int n1)] [])) _
    refine XS.iloadN X0.here hx rfl (hb hby d16_0) rfl ?_
    refine XS.iloadN X0.here hx rfl (hb hby d16_1) rfl ?_
    exact k
  by_cases hc101 : n1 < n1
  · obtain ⟨fs, hr, hrun, hended, hW, hsame⟩ := X0.leave (v := some (.int n1)) (fun h => by rw [Bd.returns] at h; cases h)
    refine ⟨_, _, S102 _ ?_, hrun, hended, _, _, rfl, ?_, ⟨_, rfl⟩, hW, hsame.mono (by decide) (by decide)⟩
    · show Steps p.tables e below (s₁.setTop (mkF m 2 #[.val (.int n1), .val (.int n1)] [(.int n1), (.int n1)])) _
      refine XS.icmpYes X0.here hx rfl (pc0 := 2) (pc' := 9) rfl (hb hby d16_2) rfl (tlt hc101).2.2.1 (by decide) (by decide) ?_
      show Steps p.tables e below (s₁.setTop (mkF m 9 #[.val (.int n1), .val (.int n1)] [])) _
      refine XS.iloadN X0.here hx rfl (hb hby d16_9) rfl ?_
      show Steps p.tables e below (s₁.setTop (mkF m 10 #[.val (.int n1), .val (.int n1)] [(.int n1)])) _
      exact Jvm.RoadKit.retOut X0 hx Bd.returns rfl (Or.inl ⟨rfl, by simp, _, rfl⟩) (hb hby d16_10) hr
    · show Q_rm16 Z n1 h0 n0 _ s₁.heap _
      rw [e0]
      unfold Q_rm16
      exact ⟨rfl, N0, rfl⟩
  · obtain ⟨fs, hr, hrun, hended, hW, hsame⟩ := X0.leave (v := some (.int n1)) (fun h => by rw [Bd.returns] at h; cases h)
    refine ⟨_, _, S102 _ ?_, hrun, hended, _, _, rfl, ?_, ⟨_, rfl⟩, hW, hsame.mono (by decide) (by decide)⟩
    · show Steps p.tables e below (s₁.setTop (mkF m 2 #[.val (.int n1), .val (.int n1)] [(.int n1), (.int n1)])) _
      refine XS.icmpNo X0.here hx rfl (hb hby d16_2) rfl (flt hc101).2.2.1 ?_
      show Steps p.tables e below (s₁.setTop (mkF m 5 #[.val (.int n1), .val (.int n1)] [])) _
      refine XS.iloadN X0.here hx rfl (hb hby d16_5) rfl ?_
      refine XS.goto X0.here hx rfl (pc0 := 6) (pc' := 10) rfl (hb hby d16_6) (by decide) (by decide) ?_
      show Steps p.tables e below (s₁.setTop (mkF m 10 #[.val (.int n1), .val (.int n1)] [(.int n1)])) _
      exact Jvm.RoadKit.retOut X0 hx Bd.returns rfl (Or.inl ⟨rfl, by simp, _, rfl⟩) (hb hby d16_10) hr
    · show Q_rm16 Z n1 h0 n0 _ s₁.heap _
      rw [e0]
      unfold Q_rm16
      exact ⟨rfl, N0, rfl⟩
theorem ef_rm13 (m : MethodId) (x0 : Addr) (x1 : Int32) (x2 : Int32) (x3 : Int32) : entryFrame m #[(.ref x0), (.int x1), (.int x2), (.int x3)] 4 = mkF m 0 #[.val (.ref x0), .val (.int x1), .val (.int x2), .val (.int x3)] [] := by first | (simp [entryFrame, mkF, argsToLocals, Value.category]; done) | rfl
def Q_rm13 (Z : State) (t1 : Addr) (k1 : ClassId) (cs : List Int32) (h0 : Heap) (n0 : Nat) (v : Option Value) (h : Heap) (L : List Loc) : Prop := (v = some (.int (IX cs))) ∧ (Fr n0 L) ∧ (h = h0)
theorem d13_0 : decode jdk_43_method_22_code 0 = .ok (.iload_n 1, 1) := by decide +kernel
theorem d13_1 : decode jdk_43_method_22_code 1 = .ok (.invokestatic 88, 3) := by decide +kernel
theorem pd_6 : parseMethodDescriptor "(I)Z" = some ⟨[.int], some .boolean⟩ := by decide +kernel
theorem d13_4 : decode jdk_43_method_22_code 4 = .ok (.ifCond .ne 5, 3) := by decide +kernel
theorem d13_9 : decode jdk_43_method_22_code 9 = .ok (.iload_n 2, 1) := by decide +kernel
theorem d13_10 : decode jdk_43_method_22_code 10 = .ok (.iconst 0, 1) := by decide +kernel
theorem d13_11 : decode jdk_43_method_22_code 11 = .ok (.invokestatic 92, 3) := by decide +kernel
theorem pd_7 : parseMethodDescriptor "(II)I" = some ⟨[.int, .int], some .int⟩ := by decide +kernel
theorem d13_14 : decode jdk_43_method_22_code 14 = .ok (.istore_n 2, 1) := by decide +kernel
theorem d13_15 : decode jdk_43_method_22_code 15 = .ok (.iload_n 3, 1) := by decide +kernel
theorem d13_16 : decode jdk_43_method_22_code 16 = .ok (.aload_n 0, 1) := by decide +kernel
theorem d13_17 : decode jdk_43_method_22_code 17 = .ok (.arraylength, 1) := by decide +kernel
theorem d13_18 : decode jdk_43_method_22_code 18 = .ok (.invokestatic 38, 3) := by decide +kernel
theorem d13_21 : decode jdk_43_method_22_code 21 = .ok (.istore_n 3, 1) := by decide +kernel
theorem d13_22 : decode jdk_43_method_22_code 22 = .ok (.iload_n 2, 1) := by decide +kernel
theorem d13_23 : decode jdk_43_method_22_code 23 = .ok (.iload_n 3, 1) := by decide +kernel
theorem d13_24 : decode jdk_43_method_22_code 24 = .ok (.if_icmp .lt 5, 3) := by decide +kernel
theorem d13_29 : decode jdk_43_method_22_code 29 = .ok (.aload_n 0, 1) := by decide +kernel
theorem d13_30 : decode jdk_43_method_22_code 30 = .ok (.iload_n 1, 1) := by decide +kernel
theorem d13_31 : decode jdk_43_method_22_code 31 = .ok (.iload_n 2, 1) := by decide +kernel
theorem d13_32 : decode jdk_43_method_22_code 32 = .ok (.iload_n 3, 1) := by decide +kernel
theorem d13_33 : decode jdk_43_method_22_code 33 = .ok (.invokestatic 95, 3) := by decide +kernel
theorem pd_8 : parseMethodDescriptor "([BIII)I" = some ⟨[(.array .byte), .int, .int, .int], some .int⟩ := by decide +kernel
theorem d13_36 : decode jdk_43_method_22_code 36 = .ok (.ireturn, 1) := by decide +kernel
theorem d13_27 : decode jdk_43_method_22_code 27 = .ok (.iconst (-1), 1) := by decide +kernel
theorem d13_28 : decode jdk_43_method_22_code 28 = .ok (.ireturn, 1) := by decide +kernel
set_option maxRecDepth 65536 in
set_option maxHeartbeats 40000000 in
theorem rm13 (l : Launch) (Z : State) (a0 : Array Value) (hw : ∀ d ∈ tables_1, d.before a0 Z = true) (ws : List Jvm.Cond) (t1 : Addr) (k1 : ClassId) (cs : List Int32) (h0 : Heap) (n0 : Nat) (O0 : Old Z n0 h0) (AL : Arv Z h0 t1 k1 .byte (Int32.ofNat cs.length) (cs.map fun c => Value.int (lo8 c)) (.int (0 : Int32))) (hs : cs.length ≤ 6) (hq : ∀ c ∈ cs, C16 c) (hl : ∀ c ∈ cs, ¬ (255 : Int32) < c) :
    MetFree l (⟨"java/lang/StringLatin1", "indexOf", "([BIII)I"⟩ : MethodName) (head1 (Jvm.Cond.code (⟨"java/lang/StringLatin1", "indexOf", "([BIII)I"⟩ : MethodName) jdk_43_method_22_code 4 (some .int) :: ws) ({ frames := 1, cells := 0, slots := 0, locals := 17 } : Room)) (fun a U => a = #[(.ref t1), (.int (46 : Int32)), (.int (0 : Int32)), (.int (Int32.ofNat cs.length))] ∧ Z.Warmed39 U.vm ∧ U.heap = h0) (fun _ _ _ _ _ => True) (fun _ U o U' => ∃ v L, o = .returned v ∧ Q_rm13 Z t1 k1 cs h0 n0 v U'.heap L ∧ FrameEnd U o U' L ({ frames := 1, cells := 0, slots := 0, locals := 17 } : Room).cells ({ frames := 1, cells := 0, slots := 0, locals := 17 } : Room).slots) := by
  refine MetFree.of_bodySF (plainFor_of_name pn_3) hisR ?_
  intro p e s m args below meth c s₁ Bd hml0 hP hK
  obtain ⟨rfl, hZ, hh⟩ := hP
  have hx := Bd.exec
  have hby := Bd.bytes
  have hml : c.maxLocals = 4 := hml0
  have hown : s.vm.findClass "java/lang/StringLatin1" = some m.cls := findClass_of_methodNamed Bd.named
  have hnm := (name_of_methodNamed Bd.named Bd.method).1
  have X0 : Stand p l e ({ frames := 1, cells := 0, slots := 0, locals := 17 } : Room) s m #[(.ref t1), (.int (46 : Int32)), (.int (0 : Int32)), (.int (Int32.ofNat cs.length))] below meth c s₁ [] 0 0 := Stand.of_body Bd
  have e0 : s₁.heap = h0 := by rw [← hh, Bd.state]; rfl
  have N0 := Fr.nil n0
  have Z0 : n0 ≤ h0.size := old_le O0
  have pre0 : ∀ t, Steps p.tables e below (s₁.setTop (mkF m 0 #[.val (.ref t1), .val (.int (46 : Int32)), .val (.int (0 : Int32)), .val (.int (Int32.ofNat cs.length))] [])) t → Steps p.tables e below (s₁.setTop (entryFrame m #[(.ref t1), (.int (46 : Int32)), (.int (0 : Int32)), (.int (Int32.ofNat cs.length))] 4)) t := fun t k => castTop (ef_rm13 m t1 (46 : Int32) (0 : Int32) (Int32.ofNat cs.length)) k
  obtain ⟨_, _, ⟨T101, L101, k101, n101⟩, -, X101, ⟨Lc101, hQ101, l101, y101, z101⟩, st101⟩ := Jvm.LawKit.callS X0 hx (y := (⟨"java/lang/StringLatin1", "canEncode", "(I)Z"⟩ : MethodName)) hown (mvT hZ (hwk hw 68 rfl)) (mvT hZ (hwk hw 69 rfl)) (mvT hZ (hwk hw 66 rfl)) (mvT hZ (hwk hw 70 rfl)) (by decide) (backOf (W := 0) (rm14 l Z a0 hw []  h0 n0 O0 ) hZ (hwk hw 70 rfl) (hwk hw 66 rfl) (by decide) (by decide)) (g := (mkF m 1 #[.val (.ref t1), .val (.int (46 : Int32)), .val (.int (0 : Int32)), .val (.int (Int32.ofNat cs.length))] [(.int (46 : Int32))])) rfl (by rw [hml]; rfl) (argsL := [(.int (46 : Int32))]) (rest := []) (lenOf pd_6 rfl) rfl (by show 2 * 0 + _ ≤ _; exact Nat.le_of_eq rfl) (hb hby d13_1) (fun _ _ => ⟨rfl, e0, (by decide : 0 + 0 ≤ _), (by decide : 0 + 0 ≤ _)⟩)
  dsimp only [Pt.U, Pt.locs, Pt.cells, Pt.slots] at X101 l101 y101 z101 st101 hQ101
  subst l101 y101 z101
  unfold Q_rm14 at hQ101
  obtain ⟨rfl, N101q, e101⟩ := hQ101
  have N101 := Fr.app N0 N101q
  obtain ⟨_, _, ⟨T102, L102, k102, n102⟩, -, X102, ⟨Lc102, hQ102, l102, y102, z102⟩, st102⟩ := Jvm.LawKit.callS X101 hx (y := (⟨"java/lang/Math", "max", "(II)I"⟩ : MethodName)) hown (mvT hZ (hwk hw 71 rfl)) (mvT hZ (hwk hw 72 rfl)) (mvT hZ (hwk hw 73 rfl)) (mvT hZ (hwk hw 74 rfl)) (by decide) (backOf (W := 0) (rm15 l Z a0 hw []  h0 n0 O0 ) hZ (hwk hw 74 rfl) (hwk hw 73 rfl) (by decide) (by decide)) (g := (mkF m 11 #[.val (.ref t1), .val (.int (46 : Int32)), .val (.int (0 : Int32)), .val (.int (Int32.ofNat cs.length))] [(.int (0 : Int32)), (.int (0 : Int32))])) rfl (by rw [hml]; rfl) (argsL := [(.int (0 : Int32)), (.int (0 : Int32))]) (rest := []) (lenOf pd_7 rfl) rfl (by show 2 * 0 + _ ≤ _; exact Nat.le_of_eq rfl) (hb hby d13_11) (fun _ _ => ⟨rfl, e101, (by decide : 0 + 0 ≤ _), (by decide : 0 + 0 ≤ _)⟩)
  dsimp only [Pt.U, Pt.locs, Pt.cells, Pt.slots] at X102 l102 y102 z102 st102 hQ102
  subst l102 y102 z102
  unfold Q_rm15 at hQ102
  obtain ⟨rfl, N102q, e102⟩ := hQ102
  have N102 := Fr.app N101 N102q
  obtain ⟨cl103, Ar103, -, Sz103, Nn103, -, -⟩ := id AL
  obtain ⟨_, _, ⟨T104, L104, k104, n104⟩, -, X104, ⟨Lc104, hQ104, l104, y104, z104⟩, st104⟩ := Jvm.LawKit.callS X102 hx (y := (⟨"java/lang/Math", "min", "(II)I"⟩ : MethodName)) hown (mvT hZ (hwk hw 75 rfl)) (mvT hZ (hwk hw 76 rfl)) (mvT hZ (hwk hw 73 rfl)) (mvT hZ (hwk hw 77 rfl)) (by decide) (backOf (W := 0) (rm16 l Z a0 hw [] (Int32.ofNat cs.length) h0 n0 O0 ) hZ (hwk hw 77 rfl) (hwk hw 73 rfl) (by decide) (by decide)) (g := (mkF m 18 #[.val (.ref t1), .val (.int (46 : Int32)), .val (.int (0 : Int32)), .val (.int (Int32.ofNat cs.length))] [(.int (Int32.ofNat cs.length)), (.int (Int32.ofNat cs.length))])) rfl (by rw [hml]; rfl) (argsL := [(.int (Int32.ofNat cs.length)), (.int (Int32.ofNat cs.length))]) (rest := []) (lenOf pd_7 rfl) rfl (by show 2 * 0 + _ ≤ _; exact Nat.le_of_eq rfl) (hb hby d13_18) (fun _ _ => ⟨rfl, e102, (by decide : 0 + 0 ≤ _), (by decide : 0 + 0 ≤ _)⟩)
  dsimp only [Pt.U, Pt.locs, Pt.cells, Pt.slots] at X104 l104 y104 z104 st104 hQ104
  subst l104 y104 z104
  unfold Q_rm16 at hQ104
  obtain ⟨rfl, N104q, e104⟩ := hQ104
  have N104 := Fr.app N102 N104q
  have S106 : ∀ t, Steps p.tables e below (T104.setTop (mkF m 24 #[.val (.ref t1), .val (.int (46 : Int32)), .val (.int (0 : Int32)), .val (.int (Int32.ofNat cs.length))] [(.int (Int32.ofNat cs.length)), (.int (0 : Int32))])) t → Steps p.tables e below (s₁.setTop (entryFrame m #[(.ref t1), (.int (46 : Int32)), (.int (0 : Int32)), (.int (Int32.ofNat cs.length))] 4)) t := fun t k => by
    refine pre0 t ?_
    show Steps p.tables e below (s₁.setTop (mkF m 0 #[.val (.ref t1), .val (.int (46 : Int32)), .val (.int (0 : Int32)), .val (.int (Int32.ofNat cs.length))] [])) _
    refine XS.iloadN X0.here hx rfl (hb hby d13_0) rfl ?_
    show Steps p.tables e below (s₁.setTop (mkF m 1 #[.val (.ref t1), .val (.int (46 : Int32)), .val (.int (0 : Int32)), .val (.int (Int32.ofNat cs.length))] [(.int (46 : Int32))])) _
    refine st101 _ ?_
    show Steps p.tables e below (T101.setTop (mkF m 4 #[.val (.ref t1), .val (.int (46 : Int32)), .val (.int (0 : Int32)), .val (.int (Int32.ofNat cs.length))] [(.int (1 : Int32))])) _
    refine XS.ifYes X101.here hx rfl (pc0 := 4) (pc' := 9) rfl (hb hby d13_4) rfl ((if0 _ _).trans (feq (by decide : ¬ ((1 : Int32) = (0 : Int32)))).2) (by decide) (by decide) ?_
    show Steps p.tables e below (T101.setTop (mkF m 9 #[.val (.ref t1), .val (.int (46 : Int32)), .val (.int (0 : Int32)), .val (.int (Int32.ofNat cs.length))] [])) _
    refine XS.iloadN X101.here hx rfl (hb hby d13_9) rfl ?_
    refine XS.iconst X101.here hx rfl (hb hby d13_10) ?_
    show Steps p.tables e below (T101.setTop (mkF m 11 #[.val (.ref t1), .val (.int (46 : Int32)), .val (.int (0 : Int32)), .val (.int (Int32.ofNat cs.length))] [(.int (0 : Int32)), (.int (0 : Int32))])) _
    refine st102 _ ?_
    show Steps p.tables e below (T102.setTop (mkF m 14 #[.val (.ref t1), .val (.int (46 : Int32)), .val (.int (0 : Int32)), .val (.int (Int32.ofNat cs.length))] [(.int (0 : Int32))])) _
    refine XS.istoreN X102.here hx rfl (hb hby d13_14) rfl (l' := #[.val (.ref t1), .val (.int (46 : Int32)), .val (.int (0 : Int32)), .val (.int (Int32.ofNat cs.length))]) rfl ?_
    show Steps p.tables e below (T102.setTop (mkF m 15 #[.val (.ref t1), .val (.int (46 : Int32)), .val (.int (0 : Int32)), .val (.int (Int32.ofNat cs.length))] [])) _
    refine XS.iloadN X102.here hx rfl (hb hby d13_15) rfl ?_
    refine XS.aloadN X102.here hx rfl (hb hby d13_16) rfl rfl ?_
    show Steps p.tables e below (T102.setTop (mkF m 17 #[.val (.ref t1), .val (.int (46 : Int32)), .val (.int (0 : Int32)), .val (.int (Int32.ofNat cs.length))] [(.ref t1), (.int (Int32.ofNat cs.length))])) _
    refine X102.arraylength hx (by rw [e102]; exact Ar103.1) (State.isArrayOf_alike hZ.alike Ar103.2.1) (g := (mkF m 17 #[.val (.ref t1), .val (.int (46 : Int32)), .val (.int (0 : Int32)), .val (.int (Int32.ofNat cs.length))] [(.ref t1), (.int (Int32.ofNat cs.length))])) rfl rfl (hb hby d13_17) _ ?_
    rw [len_of Sz103 Nn103]
    show Steps p.tables e below (T102.setTop (mkF m 18 #[.val (.ref t1), .val (.int (46 : Int32)), .val (.int (0 : Int32)), .val (.int (Int32.ofNat cs.length))] [(.int (Int32.ofNat cs.length)), (.int (Int32.ofNat cs.length))])) _
    refine st104 _ ?_
    show Steps p.tables e below (T104.setTop (mkF m 21 #[.val (.ref t1), .val (.int (46 : Int32)), .val (.int (0 : Int32)), .val (.int (Int32.ofNat cs.length))] [(.int (Int32.ofNat cs.length))])) _
    refine XS.istoreN X104.here hx rfl (hb hby d13_21) rfl (l' := #[.val (.ref t1), .val (.int (46 : Int32)), .val (.int (0 : Int32)), .val (.int (Int32.ofNat cs.length))]) rfl ?_
    show Steps p.tables e below (T104.setTop (mkF m 22 #[.val (.ref t1), .val (.int (46 : Int32)), .val (.int (0 : Int32)), .val (.int (Int32.ofNat cs.length))] [])) _
    refine XS.iloadN X104.here hx rfl (hb hby d13_22) rfl ?_
    refine XS.iloadN X104.here hx rfl (hb hby d13_23) rfl ?_
    exact k
  by_cases hc105 : (0 : Int32) < (Int32.ofNat cs.length)
  · obtain ⟨_, _, ⟨T107, L107, k107, n107⟩, -, X107, ⟨Lc107, hQ107, l107, y107, z107⟩, st107⟩ := Jvm.LawKit.callS X104 hx (y := (⟨"java/lang/StringLatin1", "indexOfChar", "([BIII)I"⟩ : MethodName)) hown (mvT hZ (hwk hw 95 rfl)) (mvT hZ (hwk hw 96 rfl)) (mvT hZ (hwk hw 66 rfl)) (mvT hZ (hwk hw 97 rfl)) (by decide) (backOf (W := 0) (rm22 l Z a0 hw [] t1 k1 cs h0 n0 O0 AL hs hq hl) hZ (hwk hw 97 rfl) (hwk hw 66 rfl) (by decide) (by decide)) (g := (mkF m 33 #[.val (.ref t1), .val (.int (46 : Int32)), .val (.int (0 : Int32)), .val (.int (Int32.ofNat cs.length))] [(.int (Int32.ofNat cs.length)), (.int (0 : Int32)), (.int (46 : Int32)), (.ref t1)])) rfl (by rw [hml]; rfl) (argsL := [(.ref t1), (.int (46 : Int32)), (.int (0 : Int32)), (.int (Int32.ofNat cs.length))]) (rest := []) (lenOf pd_8 rfl) rfl (by show 2 * 0 + _ ≤ _; exact Nat.le_of_eq rfl) (hb hby d13_33) (fun _ _ => ⟨rfl, e104, (by decide : 0 + 0 ≤ _), (by decide : 0 + 0 ≤ _)⟩)
    dsimp only [Pt.U, Pt.locs, Pt.cells, Pt.slots] at X107 l107 y107 z107 st107 hQ107
    subst l107 y107 z107
    unfold Q_rm22 at hQ107
    obtain ⟨rfl, N107q, e107⟩ := hQ107
    have N107 := Fr.app N104 N107q
    obtain ⟨fs, hr, hrun, hended, hW, hsame⟩ := X107.leave (v := some (.int (IX cs))) (fun h => by rw [Bd.returns] at h; cases h)
    refine ⟨_, _, S106 _ ?_, hrun, hended, _, _, rfl, ?_, ⟨_, rfl⟩, hW, hsame.mono (by decide) (by decide)⟩
    · show Steps p.tables e below (T104.setTop (mkF m 24 #[.val (.ref t1), .val (.int (46 : Int32)), .val (.int (0 : Int32)), .val (.int (Int32.ofNat cs.length))] [(.int (Int32.ofNat cs.length)), (.int (0 : Int32))])) _
      refine XS.icmpYes X104.here hx rfl (pc0 := 24) (pc' := 29) rfl (hb hby d13_24) rfl (tlt hc105).1 (by decide) (by decide) ?_
      show Steps p.tables e below (T104.setTop (mkF m 29 #[.val (.ref t1), .val (.int (46 : Int32)), .val (.int (0 : Int32)), .val (.int (Int32.ofNat cs.length))] [])) _
      refine XS.aloadN X104.here hx rfl (hb hby d13_29) rfl rfl ?_
      refine XS.iloadN X104.here hx rfl (hb hby d13_30) rfl ?_
      refine XS.iloadN X104.here hx rfl (hb hby d13_31) rfl ?_
      refine XS.iloadN X104.here hx rfl (hb hby d13_32) rfl ?_
      show Steps p.tables e below (T104.setTop (mkF m 33 #[.val (.ref t1), .val (.int (46 : Int32)), .val (.int (0 : Int32)), .val (.int (Int32.ofNat cs.length))] [(.int (Int32.ofNat cs.length)), (.int (0 : Int32)), (.int (46 : Int32)), (.ref t1)])) _
      refine st107 _ ?_
      show Steps p.tables e below (T107.setTop (mkF m 36 #[.val (.ref t1), .val (.int (46 : Int32)), .val (.int (0 : Int32)), .val (.int (Int32.ofNat cs.length))] [(.int (IX cs))])) _
      exact Jvm.RoadKit.retOut X107 hx Bd.returns rfl (Or.inl ⟨rfl, by simp, _, rfl⟩) (hb hby d13_36) hr
    · show Q_rm13 Z t1 k1 cs h0 n0 _ T107.heap _
      rw [e107]
      unfold Q_rm13
      exact ⟨rfl, N107, rfl⟩
  · obtain ⟨fs, hr, hrun, hended, hW, hsame⟩ := X104.leave (v := some (.int (-1 : Int32))) (fun h => by rw [Bd.returns] at h; cases h)
    refine ⟨_, _, S106 _ ?_, hrun, hended, _, _, rfl, ?_, ⟨_, rfl⟩, hW, hsame.mono (by decide) (by decide)⟩
    · show Steps p.tables e below (T104.setTop (mkF m 24 #[.val (.ref t1), .val (.int (46 : Int32)), .val (.int (0 : Int32)), .val (.int (Int32.ofNat cs.length))] [(.int (Int32.ofNat cs.length)), (.int (0 : Int32))])) _
      refine XS.icmpNo X104.here hx rfl (hb hby d13_24) rfl (flt hc105).1 ?_
      show Steps p.tables e below (T104.setTop (mkF m 27 #[.val (.ref t1), .val (.int (46 : Int32)), .val (.int (0 : Int32)), .val (.int (Int32.ofNat cs.length))] [])) _
      refine XS.iconst X104.here hx rfl (hb hby d13_27) ?_
      show Steps p.tables e below (T104.setTop (mkF m 28 #[.val (.ref t1), .val (.int (46 : Int32)), .val (.int (0 : Int32)), .val (.int (Int32.ofNat cs.length))] [(.int (-1 : Int32))])) _
      exact Jvm.RoadKit.retOut X104 hx Bd.returns rfl (Or.inl ⟨rfl, by simp, _, rfl⟩) (hb hby d13_28) hr
    · show Q_rm13 Z t1 k1 cs h0 n0 _ T104.heap _
      rw [e104]
      unfold Q_rm13
      exact ⟨(by rw [own_ix_e hs hc105]), N104, rfl⟩
theorem ef_rm37 (m : MethodId) (x0 : Int32) (x1 : Int32) (x2 : Int32) (x3 : Value) (hr3 : x3.isRef = true) : entryFrame m #[(.int x0), (.int x1), (.int x2), x3] 4 = mkF m 0 #[.val (.int x0), .val (.int x1), .val (.int x2), .val x3] [] := by rcases ref_cases hr3 with rfl | ⟨y3, rfl⟩ <;> first | (simp [entryFrame, mkF, argsToLocals, Value.category]; done) | rfl
def Q_rm37 (Z : State) (n1 : Int32) (fm : Value) (h0 : Heap) (n0 : Nat) (v : Option Value) (h : Heap) (L : List Loc) : Prop := (v = some (.int (0 : Int32))) ∧ (Fr n0 L) ∧ (h = h0)
theorem d37_0 : decode jdk_41_method_12_code 0 = .ok (.iload_n 0, 1) := by decide +kernel
theorem d37_1 : decode jdk_41_method_12_code 1 = .ok (.ifCond .lt 13, 3) := by decide +kernel
theorem d37_4 : decode jdk_41_method_12_code 4 = .ok (.iload_n 0, 1) := by decide +kernel
theorem d37_5 : decode jdk_41_method_12_code 5 = .ok (.iload_n 1, 1) := by decide +kernel
theorem d37_6 : decode jdk_41_method_12_code 6 = .ok (.if_icmp .gt 8, 3) := by decide +kernel
theorem d37_9 : decode jdk_41_method_12_code 9 = .ok (.iload_n 1, 1) := by decide +kernel
theorem d37_10 : decode jdk_41_method_12_code 10 = .ok (.iload_n 2, 1) := by decide +kernel
theorem d37_11 : decode jdk_41_method_12_code 11 = .ok (.if_icmp .le 11, 3) := by decide +kernel
theorem d37_22 : decode jdk_41_method_12_code 22 = .ok (.iload_n 0, 1) := by decide +kernel
theorem d37_23 : decode jdk_41_method_12_code 23 = .ok (.ireturn, 1) := by decide +kernel
set_option maxRecDepth 65536 in
set_option maxHeartbeats 40000000 in
theorem rm37 (l : Launch) (Z : State) (a0 : Array Value) (hw : ∀ d ∈ tables_1, d.before a0 Z = true) (ws : List Jvm.Cond) (n1 : Int32) (fm : Value) (h0 : Heap) (n0 : Nat) (O0 : Old Z n0 h0) (RF : fm.isRef = true) (h0i : ¬ n1 < (0 : Int32)) :
    MetFree l (⟨"jdk/internal/util/Preconditions", "checkFromToIndex", "(IIILjava/util/function/BiFunction;)I"⟩ : MethodName) (head1 (Jvm.Cond.code (⟨"jdk/internal/util/Preconditions", "checkFromToIndex", "(IIILjava/util/function/BiFunction;)I"⟩ : MethodName) jdk_41_method_12_code 4 (some .int) :: ws) ({ frames := 0, cells := 0, slots := 0, locals := 0 } : Room)) (fun a U => a = #[(.int (0 : Int32)), (.int n1), (.int n1), fm] ∧ Z.Warmed39 U.vm ∧ U.heap = h0) (fun _ _ _ _ _ => True) (fun _ U o U' => ∃ v L, o = .returned v ∧ Q_rm37 Z n1 fm h0 n0 v U'.heap L ∧ FrameEnd U o U' L ({ frames := 0, cells := 0, slots := 0, locals := 0 } : Room).cells ({ frames := 0, cells := 0, slots := 0, locals := 0 } : Room).slots) := by
  refine MetFree.of_bodySF (plainFor_of_name pn_1) hisR ?_
  intro p e s m args below meth c s₁ Bd hml0 hP hK
  obtain ⟨rfl, hZ, hh⟩ := hP
  have hx := Bd.exec
  have hby := Bd.bytes
  have hml : c.maxLocals = 4 := hml0
  have hown : s.vm.findClass "jdk/internal/util/Preconditions" = some m.cls := findClass_of_methodNamed Bd.named
  have hnm := (name_of_methodNamed Bd.named Bd.method).1
  have X0 : Stand p l e ({ frames := 0, cells := 0, slots := 0, locals := 0 } : Room) s m #[(.int (0 : Int32)), (.int n1), (.int n1), fm] below meth c s₁ [] 0 0 := Stand.of_body Bd
  have e0 : s₁.heap = h0 := by rw [← hh, Bd.state]; rfl
  have N0 := Fr.nil n0
  have Z0 : n0 ≤ h0.size := old_le O0
  have pre0 : ∀ t, Steps p.tables e below (s₁.setTop (mkF m 0 #[.val (.int (0 : Int32)), .val (.int n1), .val (.int n1), .val fm] [])) t → Steps p.tables e below (s₁.setTop (entryFrame m #[(.int (0 : Int32)), (.int n1), (.int n1), fm] 4)) t := fun t k => castTop (ef_rm37 m (0 : Int32) n1 n1 fm RF) k
  obtain ⟨fs, hr, hrun, hended, hW, hsame⟩ := X0.leave (v := some (.int (0 : Int32))) (fun h => by rw [Bd.returns] at h; cases h)
  refine ⟨_, _, pre0 _ ?_, hrun, hended, _, _, rfl, ?_, ⟨_, rfl⟩, hW, hsame.mono (by decide) (by decide)⟩
  · show Steps p.tables e below (s₁.setTop (mkF m 0 #[.val (.int (0 : Int32)), .val (.int n1), .val (.int n1), .val fm] [])) _
    refine XS.iloadN X0.here hx rfl (hb hby d37_0) rfl ?_
    refine XS.ifNo X0.here hx rfl (hb hby d37_1) rfl ((if0 _ _).trans (flt (by decide : ¬ ((0 : Int32) < (0 : Int32)))).1) ?_
    show Steps p.tables e below (s₁.setTop (mkF m 4 #[.val (.int (0 : Int32)), .val (.int n1), .val (.int n1), .val fm] [])) _
    refine XS.iloadN X0.here hx rfl (hb hby d37_4) rfl ?_
    refine XS.iloadN X0.here hx rfl (hb hby d37_5) rfl ?_
    refine XS.icmpNo X0.here hx rfl (hb hby d37_6) rfl (flt (h0i : ¬ (n1 < (0 : Int32)))).2.2.1 ?_
    show Steps p.tables e below (s₁.setTop (mkF m 9 #[.val (.int (0 : Int32)), .val (.int n1), .val (.int n1), .val fm] [])) _
    refine XS.iloadN X0.here hx rfl (hb hby d37_9) rfl ?_
    refine XS.iloadN X0.here hx rfl (hb hby d37_10) rfl ?_
    refine XS.icmpYes X0.here hx rfl (pc0 := 11) (pc' := 22) rfl (hb hby d37_11) rfl (flt (Int32.lt_irrefl : ¬ (n1 < n1))).2.2.2 (by decide) (by decide) ?_
    show Steps p.tables e below (s₁.setTop (mkF m 22 #[.val (.int (0 : Int32)), .val (.int n1), .val (.int n1), .val fm] [])) _
    refine XS.iloadN X0.here hx rfl (hb hby d37_22) rfl ?_
    show Steps p.tables e below (s₁.setTop (mkF m 23 #[.val (.int (0 : Int32)), .val (.int n1), .val (.int n1), .val fm] [(.int (0 : Int32))])) _
    exact Jvm.RoadKit.retOut X0 hx Bd.returns rfl (Or.inl ⟨rfl, by simp, _, rfl⟩) (hb hby d37_23) hr
  · show Q_rm37 Z n1 fm h0 n0 _ s₁.heap _
    rw [e0]
    unfold Q_rm37
    exact ⟨rfl, N0, rfl⟩
theorem ef_rm36 (m : MethodId) (x0 : Int32) (x1 : Int32) (x2 : Int32) : entryFrame m #[(.int x0), (.int x1), (.int x2)] 3 = mkF m 0 #[.val (.int x0), .val (.int x1), .val (.int x2)] [] := by first | (simp [entryFrame, mkF, argsToLocals, Value.category]; done) | rfl
def Q_rm36 (Z : State) (n1 : Int32) (fm : Value) (h0 : Heap) (n0 : Nat) (v : Option Value) (h : Heap) (L : List Loc) : Prop := (v = none) ∧ (Fr n0 L) ∧ (h = h0)
theorem d36_0 : decode jdk_42_method_158_code 0 = .ok (.iload_n 0, 1) := by decide +kernel
theorem d36_1 : decode jdk_42_method_158_code 1 = .ok (.iload_n 1, 1) := by decide +kernel
theorem d36_2 : decode jdk_42_method_158_code 2 = .ok (.iload_n 2, 1) := by decide +kernel
theorem d36_3 : decode jdk_42_method_158_code 3 = .ok (.getstatic 1053, 3) := by decide +kernel
theorem d36_6 : decode jdk_42_method_158_code 6 = .ok (.invokestatic 1062, 3) := by decide +kernel
theorem pd_9 : parseMethodDescriptor "(IIILjava/util/function/BiFunction;)I" = some ⟨[.int, .int, .int, (.object "java/util/function/BiFunction")], some .int⟩ := by decide +kernel
theorem d36_9 : decode jdk_42_method_158_code 9 = .ok (.pop, 1) := by decide +kernel
theorem d36_10 : decode jdk_42_method_158_code 10 = .ok (.return_, 1) := by decide +kernel
set_option maxRecDepth 65536 in
set_option maxHeartbeats 40000000 in
theorem rm36 (l : Launch) (Z : State) (a0 : Array Value) (hw : ∀ d ∈ tables_1, d.before a0 Z = true) (ws : List Jvm.Cond) (n1 : Int32) (fm : Value) (h0 : Heap) (n0 : Nat) (O0 : Old Z n0 h0) (h0i : ¬ n1 < (0 : Int32)) (SF : Sta Z Z.heap "jdk/internal/util/Preconditions" "SIOOBE_FORMATTER" "Ljava/util/function/BiFunction;" fm) (RF : fm.isRef = true) :
    MetFree l (⟨"java/lang/String", "checkBoundsBeginEnd", "(III)V"⟩ : MethodName) (head1 (Jvm.Cond.code (⟨"java/lang/String", "checkBoundsBeginEnd", "(III)V"⟩ : MethodName) jdk_42_method_158_code 3 none :: ws) ({ frames := 1, cells := 0, slots := 0, locals := 15 } : Room)) (fun a U => a = #[(.int (0 : Int32)), (.int n1), (.int n1)] ∧ Z.Warmed39 U.vm ∧ U.heap = h0) (fun _ _ _ _ _ => True) (fun _ U o U' => ∃ v L, o = .returned v ∧ Q_rm36 Z n1 fm h0 n0 v U'.heap L ∧ FrameEnd U o U' L ({ frames := 1, cells := 0, slots := 0, locals := 15 } : Room).cells ({ frames := 1, cells := 0, slots := 0, locals := 15 } : Room).slots) := by
  refine MetFree.of_bodySF (plainFor_of_name pn_2) hisR ?_
  intro p e s m args below meth c s₁ Bd hml0 hP hK
  obtain ⟨rfl, hZ, hh⟩ := hP
  have hx := Bd.exec
  have hby := Bd.bytes
  have hml : c.maxLocals = 3 := hml0
  have hown : s.vm.findClass "java/lang/String" = some m.cls := findClass_of_methodNamed Bd.named
  have hnm := (name_of_methodNamed Bd.named Bd.method).1
  have X0 : Stand p l e ({ frames := 1, cells := 0, slots := 0, locals := 15 } : Room) s m #[(.int (0 : Int32)), (.int n1), (.int n1)] below meth c s₁ [] 0 0 := Stand.of_body Bd
  have e0 : s₁.heap = h0 := by rw [← hh, Bd.state]; rfl
  have N0 := Fr.nil n0
  have Z0 : n0 ≤ h0.size := old_le O0
  have pre0 : ∀ t, Steps p.tables e below (s₁.setTop (mkF m 0 #[.val (.int (0 : Int32)), .val (.int n1), .val (.int n1)] [])) t → Steps p.tables e below (s₁.setTop (entryFrame m #[(.int (0 : Int32)), (.int n1), (.int n1)] 3)) t := fun t k => castTop (ef_rm36 m (0 : Int32) n1 n1) k
  have c101 : Sta Z h0 "jdk/internal/util/Preconditions" "SIOOBE_FORMATTER" "Ljava/util/function/BiFunction;" fm := Sta.ext (O0).2 SF
  obtain ⟨T102, X102, e102, st102⟩ := getS2 X0 hx hZ hown (host := "") (Or.inl (hwk hw 109 rfl)) Via.refl e0 c101 (g := (mkF m 3 #[.val (.int (0 : Int32)), .val (.int n1), .val (.int n1)] [(.int n1), (.int n1), (.int (0 : Int32))])) rfl (hb hby d36_3)
  obtain ⟨_, _, ⟨T103, L103, k103, n103⟩, -, X103, ⟨Lc103, hQ103, l103, y103, z103⟩, st103⟩ := Jvm.LawKit.callS X102 hx (y := (⟨"jdk/internal/util/Preconditions", "checkFromToIndex", "(IIILjava/util/function/BiFunction;)I"⟩ : MethodName)) hown (mvT hZ (hwk hw 151 rfl)) (mvT hZ (hwk hw 152 rfl)) (mvT hZ (hwk hw 110 rfl)) (mvT hZ (hwk hw 153 rfl)) (by decide) (backOf (W := 0) (rm37 l Z a0 hw [] n1 fm h0 n0 O0 RF h0i) hZ (hwk hw 153 rfl) (hwk hw 110 rfl) (by decide) (by decide)) (g := (mkF m 6 #[.val (.int (0 : Int32)), .val (.int n1), .val (.int n1)] [fm, (.int n1), (.int n1), (.int (0 : Int32))])) rfl (by rw [hml]; rfl) (argsL := [(.int (0 : Int32)), (.int n1), (.int n1), fm]) (rest := []) (lenOf pd_9 rfl) rfl (by show 2 * 0 + _ ≤ _; exact Nat.le_of_eq rfl) (hb hby d36_6) (fun _ _ => ⟨rfl, e102, (by decide : 0 + 0 ≤ _), (by decide : 0 + 0 ≤ _)⟩)
  dsimp only [Pt.U, Pt.locs, Pt.cells, Pt.slots] at X103 l103 y103 z103 st103 hQ103
  subst l103 y103 z103
  unfold Q_rm37 at hQ103
  obtain ⟨rfl, N103q, e103⟩ := hQ103
  have N103 := Fr.app N0 N103q
  obtain ⟨fs, hr, hrun, hended, hW, hsame⟩ := X103.leave (v := none) (fun _ => rfl)
  refine ⟨_, _, pre0 _ ?_, hrun, hended, _, _, rfl, ?_, ⟨_, rfl⟩, hW, hsame.mono (by decide) (by decide)⟩
  · show Steps p.tables e below (s₁.setTop (mkF m 0 #[.val (.int (0 : Int32)), .val (.int n1), .val (.int n1)] [])) _
    refine XS.iloadN X0.here hx rfl (hb hby d36_0) rfl ?_
    refine XS.iloadN X0.here hx rfl (hb hby d36_1) rfl ?_
    refine XS.iloadN X0.here hx rfl (hb hby d36_2) rfl ?_
    show Steps p.tables e below (s₁.setTop (mkF m 3 #[.val (.int (0 : Int32)), .val (.int n1), .val (.int n1)] [(.int n1), (.int n1), (.int (0 : Int32))])) _
    refine st102 _ ?_
    show Steps p.tables e below (T102.setTop (mkF m 6 #[.val (.int (0 : Int32)), .val (.int n1), .val (.int n1)] [fm, (.int n1), (.int n1), (.int (0 : Int32))])) _
    refine st103 _ ?_
    show Steps p.tables e below (T103.setTop (mkF m 9 #[.val (.int (0 : Int32)), .val (.int n1), .val (.int n1)] [(.int (0 : Int32))])) _
    refine XS.pop X103.here hx rfl (hb hby d36_9) rfl rfl ?_
    show Steps p.tables e below (T103.setTop (mkF m 10 #[.val (.int (0 : Int32)), .val (.int n1), .val (.int n1)] [])) _
    exact X103.returnOut hx Bd.returns (hb hby d36_10) hr
  · show Q_rm36 Z n1 fm h0 n0 _ T103.heap _
    rw [e103]
    unfold Q_rm36
    exact ⟨rfl, N103, rfl⟩
theorem ef_rm34 (m : MethodId) (x0 : Int32) (x1 : Int32) (x2 : Addr) : entryFrame m #[(.int x0), (.int x1), (.ref x2)] 3 = mkF m 0 #[.val (.int x0), .val (.int x1), .val (.ref x2)] [] := by first | (simp [entryFrame, mkF, argsToLocals, Value.category]; done) | rfl
def Q_rm34 (Z : State) (t1 : Addr) (k1 : ClassId) (cs : List Int32) (fm : Value) (h0 : Heap) (n0 : Nat) (v : Option Value) (h : Heap) (L : List Loc) : Prop := (v = none) ∧ (Fr n0 L) ∧ (h = h0)
theorem d34_0 : decode jdk_52_method_93_code 0 = .ok (.iload_n 0, 1) := by decide +kernel
theorem d34_1 : decode jdk_52_method_93_code 1 = .ok (.iload_n 1, 1) := by decide +kernel
theorem d34_2 : decode jdk_52_method_93_code 2 = .ok (.aload_n 2, 1) := by decide +kernel
theorem d34_3 : decode jdk_52_method_93_code 3 = .ok (.invokestatic 48, 3) := by decide +kernel
theorem d34_6 : decode jdk_52_method_93_code 6 = .ok (.invokestatic 241, 3) := by decide +kernel
theorem pd_10 : parseMethodDescriptor "(III)V" = some ⟨[.int, .int, .int], none⟩ := by decide +kernel
theorem d34_9 : decode jdk_52_method_93_code 9 = .ok (.return_, 1) := by decide +kernel
set_option maxRecDepth 65536 in
set_option maxHeartbeats 40000000 in
theorem rm34 (l : Launch) (Z : State) (a0 : Array Value) (hw : ∀ d ∈ tables_1, d.before a0 Z = true) (ws : List Jvm.Cond) (t1 : Addr) (k1 : ClassId) (cs : List Int32) (fm : Value) (h0 : Heap) (n0 : Nat) (O0 : Old Z n0 h0) (AW : Arv Z h0 t1 k1 .byte (Int32.ofNat (2 * cs.length)) (wideBytes cs) (.int (0 : Int32))) (hs : cs.length ≤ 6) (SF : Sta Z Z.heap "jdk/internal/util/Preconditions" "SIOOBE_FORMATTER" "Ljava/util/function/BiFunction;" fm) (RF : fm.isRef = true) :
    MetFree l (⟨"java/lang/StringUTF16", "checkBoundsBeginEnd", "(II[B)V"⟩ : MethodName) (head1 (Jvm.Cond.code (⟨"java/lang/StringUTF16", "checkBoundsBeginEnd", "(II[B)V"⟩ : MethodName) jdk_52_method_93_code 3 none :: ws) ({ frames := 2, cells := 0, slots := 0, locals := 29 } : Room)) (fun a U => a = #[(.int (0 : Int32)), (.int (Int32.ofNat cs.length)), (.ref t1)] ∧ Z.Warmed39 U.vm ∧ U.heap = h0) (fun _ _ _ _ _ => True) (fun _ U o U' => ∃ v L, o = .returned v ∧ Q_rm34 Z t1 k1 cs fm h0 n0 v U'.heap L ∧ FrameEnd U o U' L ({ frames := 2, cells := 0, slots := 0, locals := 29 } : Room).cells ({ frames := 2, cells := 0, slots := 0, locals := 29 } : Room).slots) := by
  refine MetFree.of_bodySF (plainFor_of_name pn_0) hisR ?_
  intro p e s m args below meth c s₁ Bd hml0 hP hK
  obtain ⟨rfl, hZ, hh⟩ := hP
  have hx := Bd.exec
  have hby := Bd.bytes
  have hml : c.maxLocals = 3 := hml0
  have hown : s.vm.findClass "java/lang/StringUTF16" = some m.cls := findClass_of_methodNamed Bd.named
  have hnm := (name_of_methodNamed Bd.named Bd.method).1
  have X0 : Stand p l e ({ frames := 2, cells := 0, slots := 0, locals := 29 } : Room) s m #[(.int (0 : Int32)), (.int (Int32.ofNat cs.length)), (.ref t1)] below meth c s₁ [] 0 0 := Stand.of_body Bd
  have e0 : s₁.heap = h0 := by rw [← hh, Bd.state]; rfl
  have N0 := Fr.nil n0
  have Z0 : n0 ≤ h0.size := old_le O0
  have pre0 : ∀ t, Steps p.tables e below (s₁.setTop (mkF m 0 #[.val (.int (0 : Int32)), .val (.int (Int32.ofNat cs.length)), .val (.ref t1)] [])) t → Steps p.tables e below (s₁.setTop (entryFrame m #[(.int (0 : Int32)), (.int (Int32.ofNat cs.length)), (.ref t1)] 3)) t := fun t k => castTop (ef_rm34 m (0 : Int32) (Int32.ofNat cs.length) t1) k
  obtain ⟨_, _, ⟨T101, L101, k101, n101⟩, -, X101, ⟨Lc101, hQ101, l101, y101, z101⟩, st101⟩ := Jvm.LawKit.callS X0 hx (y := (⟨"java/lang/StringUTF16", "length", "([B)I"⟩ : MethodName)) hown (mvT hZ (hwk hw 145 rfl)) (mvT hZ (hwk hw 146 rfl)) (mvT hZ (hwk hw 84 rfl)) (mvT hZ (hwk hw 147 rfl)) (by decide) (backOf (W := 2) (rm35 l Z a0 hw [] t1 k1 cs h0 n0 O0 AW hs) hZ (hwk hw 147 rfl) (hwk hw 84 rfl) (by decide) (by decide)) (g := (mkF m 3 #[.val (.int (0 : Int32)), .val (.int (Int32.ofNat cs.length)), .val (.ref t1)] [(.ref t1), (.int (Int32.ofNat cs.length)), (.int (0 : Int32))])) rfl (by rw [hml]; rfl) (argsL := [(.ref t1)]) (rest := [(.int (Int32.ofNat cs.length)), (.int (0 : Int32))]) (lenOf pd_1 rfl) rfl (by show 2 * 0 + _ ≤ _; exact Nat.le_of_eq rfl) (hb hby d34_3) (fun _ _ => ⟨rfl, e0, (by decide : 0 + 0 ≤ _), (by decide : 0 + 0 ≤ _)⟩)
  dsimp only [Pt.U, Pt.locs, Pt.cells, Pt.slots] at X101 l101 y101 z101 st101 hQ101
  subst l101 y101 z101
  unfold Q_rm35 at hQ101
  obtain ⟨rfl, N101q, e101⟩ := hQ101
  have N101 := Fr.app N0 N101q
  obtain ⟨_, _, ⟨T102, L102, k102, n102⟩, -, X102, ⟨Lc102, hQ102, l102, y102, z102⟩, st102⟩ := Jvm.LawKit.callS X101 hx (y := (⟨"java/lang/String", "checkBoundsBeginEnd", "(III)V"⟩ : MethodName)) hown (mvT hZ (hwk hw 148 rfl)) (mvT hZ (hwk hw 149 rfl)) (mvT hZ (hwk hw 8 rfl)) (mvT hZ (hwk hw 150 rfl)) (by decide) (backOf (W := 0) (rm36 l Z a0 hw [] (Int32.ofNat cs.length) fm h0 n0 O0 (own_ge0 (by omega)) SF RF) hZ (hwk hw 150 rfl) (hwk hw 8 rfl) (by decide) (by decide)) (g := (mkF m 6 #[.val (.int (0 : Int32)), .val (.int (Int32.ofNat cs.length)), .val (.ref t1)] [(.int (Int32.ofNat cs.length)), (.int (Int32.ofNat cs.length)), (.int (0 : Int32))])) rfl (by rw [hml]; rfl) (argsL := [(.int (0 : Int32)), (.int (Int32.ofNat cs.length)), (.int (Int32.ofNat cs.length))]) (rest := []) (lenOf pd_10 rfl) rfl (by show 2 * 0 + _ ≤ _; exact Nat.le_of_eq rfl) (hb hby d34_6) (fun _ _ => ⟨rfl, e101, (by decide : 0 + 0 ≤ _), (by decide : 0 + 0 ≤ _)⟩)
  dsimp only [Pt.U, Pt.locs, Pt.cells, Pt.slots] at X102 l102 y102 z102 st102 hQ102
  subst l102 y102 z102
  unfold Q_rm36 at hQ102
  obtain ⟨rfl, N102q, e102⟩ := hQ102
  have N102 := Fr.app N101 N102q
  obtain ⟨fs, hr, hrun, hended, hW, hsame⟩ := X102.leave (v := none) (fun _ => rfl)
  refine ⟨_, _, pre0 _ ?_, hrun, hended, _, _, rfl, ?_, ⟨_, rfl⟩, hW, hsame.mono (by decide) (by decide)⟩
  · show Steps p.tables e below (s₁.setTop (mkF m 0 #[.val (.int (0 : Int32)), .val (.int (Int32.ofNat cs.length)), .val (.ref t1)] [])) _
    refine XS.iloadN X0.here hx rfl (hb hby d34_0) rfl ?_
    refine XS.iloadN X0.here hx rfl (hb hby d34_1) rfl ?_
    refine XS.aloadN X0.here hx rfl (hb hby d34_2) rfl rfl ?_
    show Steps p.tables e below (s₁.setTop (mkF m 3 #[.val (.int (0 : Int32)), .val (.int (Int32.ofNat cs.length)), .val (.ref t1)] [(.ref t1), (.int (Int32.ofNat cs.length)), (.int (0 : Int32))])) _
    refine st101 _ ?_
    show Steps p.tables e below (T101.setTop (mkF m 6 #[.val (.int (0 : Int32)), .val (.int (Int32.ofNat cs.length)), .val (.ref t1)] [(.int (Int32.ofNat cs.length)), (.int (Int32.ofNat cs.length)), (.int (0 : Int32))])) _
    refine st102 _ ?_
    show Steps p.tables e below (T102.setTop (mkF m 9 #[.val (.int (0 : Int32)), .val (.int (Int32.ofNat cs.length)), .val (.ref t1)] [])) _
    exact X102.returnOut hx Bd.returns (hb hby d34_9) hr
  · show Q_rm34 Z t1 k1 cs fm h0 n0 _ T102.heap _
    rw [e102]
    unfold Q_rm34
    exact ⟨rfl, N102, rfl⟩
theorem ef_rm33 (m : MethodId) (x0 : Addr) (x1 : Int32) (x2 : Int32) (x3 : Int32) : entryFrame m #[(.ref x0), (.int x1), (.int x2), (.int x3)] 4 = mkF m 0 #[.val (.ref x0), .val (.int x1), .val (.int x2), .val (.int x3)] [] := by first | (simp [entryFrame, mkF, argsToLocals, Value.category]; done) | rfl
def Q_rm33 (Z : State) (t1 : Addr) (k1 : ClassId) (cs : List Int32) (fm : Value) (h0 : Heap) (n0 : Nat) (v : Option Value) (h : Heap) (L : List Loc) : Prop := (v = some (.int (IX cs))) ∧ (Fr n0 L) ∧ (h = h0)
theorem d33_0 : decode jdk_52_method_47_code 0 = .ok (.iload_n 2, 1) := by decide +kernel
theorem d33_1 : decode jdk_52_method_47_code 1 = .ok (.iload_n 3, 1) := by decide +kernel
theorem d33_2 : decode jdk_52_method_47_code 2 = .ok (.aload_n 0, 1) := by decide +kernel
theorem d33_3 : decode jdk_52_method_47_code 3 = .ok (.invokestatic 96, 3) := by decide +kernel
theorem pd_11 : parseMethodDescriptor "(II[B)V" = some ⟨[.int, .int, (.array .byte)], none⟩ := by decide +kernel
theorem d33_6 : decode jdk_52_method_47_code 6 = .ok (.aload_n 0, 1) := by decide +kernel
theorem d33_7 : decode jdk_52_method_47_code 7 = .ok (.iload_n 1, 1) := by decide +kernel
theorem d33_8 : decode jdk_52_method_47_code 8 = .ok (.iload_n 2, 1) := by decide +kernel
theorem d33_9 : decode jdk_52_method_47_code 9 = .ok (.iload_n 3, 1) := by decide +kernel
theorem d33_10 : decode jdk_52_method_47_code 10 = .ok (.invokestatic 244, 3) := by decide +kernel
theorem d33_13 : decode jdk_52_method_47_code 13 = .ok (.ireturn, 1) := by decide +kernel
set_option maxRecDepth 65536 in
set_option maxHeartbeats 40000000 in
theorem rm33 (l : Launch) (Z : State) (a0 : Array Value) (hw : ∀ d ∈ tables_1, d.before a0 Z = true) (ws : List Jvm.Cond) (t1 : Addr) (k1 : ClassId) (cs : List Int32) (fm : Value) (h0 : Heap) (n0 : Nat) (O0 : Old Z n0 h0) (AW : Arv Z h0 t1 k1 .byte (Int32.ofNat (2 * cs.length)) (wideBytes cs) (.int (0 : Int32))) (hs : cs.length ≤ 6) (hq : ∀ c ∈ cs, C16 c) (SF : Sta Z Z.heap "jdk/internal/util/Preconditions" "SIOOBE_FORMATTER" "Ljava/util/function/BiFunction;" fm) (RF : fm.isRef = true) (SA : Sta Z Z.heap "java/lang/StringUTF16" "$assertionsDisabled" "Z" (.int (1 : Int32))) (SH : Sta Z Z.heap "java/lang/StringUTF16" "HI_BYTE_SHIFT" "I" (.int (0 : Int32))) (SL : Sta Z Z.heap "java/lang/StringUTF16" "LO_BYTE_SHIFT" "I" (.int (8 : Int32))) :
    MetFree l (⟨"java/lang/StringUTF16", "indexOfChar", "([BIII)I"⟩ : MethodName) (head1 (Jvm.Cond.code (⟨"java/lang/StringUTF16", "indexOfChar", "([BIII)I"⟩ : MethodName) jdk_52_method_47_code 4 (some .int) :: ws) ({ frames := 3, cells := 0, slots := 0, locals := 43 } : Room)) (fun a U => a = #[(.ref t1), (.int (46 : Int32)), (.int (0 : Int32)), (.int (Int32.ofNat cs.length))] ∧ Z.Warmed39 U.vm ∧ U.heap = h0) (fun _ _ _ _ _ => True) (fun _ U o U' => ∃ v L, o = .returned v ∧ Q_rm33 Z t1 k1 cs fm h0 n0 v U'.heap L ∧ FrameEnd U o U' L ({ frames := 3, cells := 0, slots := 0, locals := 43 } : Room).cells ({ frames := 3, cells := 0, slots := 0, locals := 43 } : Room).slots) := by
  refine MetFree.of_bodySF (plainFor_of_name pn_0) hisR ?_
  intro p e s m args below meth c s₁ Bd hml0 hP hK
  obtain ⟨rfl, hZ, hh⟩ := hP
  have hx := Bd.exec
  have hby := Bd.bytes
  have hml : c.maxLocals = 4 := hml0
  have hown : s.vm.findClass "java/lang/StringUTF16" = some m.cls := findClass_of_methodNamed Bd.named
  have hnm := (name_of_methodNamed Bd.named Bd.method).1
  have X0 : Stand p l e ({ frames := 3, cells := 0, slots := 0, locals := 43 } : Room) s m #[(.ref t1), (.int (46 : Int32)), (.int (0 : Int32)), (.int (Int32.ofNat cs.length))] below meth c s₁ [] 0 0 := Stand.of_body Bd
  have e0 : s₁.heap = h0 := by rw [← hh, Bd.state]; rfl
  have N0 := Fr.nil n0
  have Z0 : n0 ≤ h0.size := old_le O0
  have pre0 : ∀ t, Steps p.tables e below (s₁.setTop (mkF m 0 #[.val (.ref t1), .val (.int (46 : Int32)), .val (.int (0 : Int32)), .val (.int (Int32.ofNat cs.length))] [])) t → Steps p.tables e below (s₁.setTop (entryFrame m #[(.ref t1), (.int (46 : Int32)), (.int (0 : Int32)), (.int (Int32.ofNat cs.length))] 4)) t := fun t k => castTop (ef_rm33 m t1 (46 : Int32) (0 : Int32) (Int32.ofNat cs.length)) k
  obtain ⟨_, _, ⟨T101, L101, k101, n101⟩, -, X101, ⟨Lc101, hQ101, l101, y101, z101⟩, st101⟩ := Jvm.LawKit.callS X0 hx (y := (⟨"java/lang/StringUTF16", "checkBoundsBeginEnd", "(II[B)V"⟩ : MethodName)) hown (mvT hZ (hwk hw 142 rfl)) (mvT hZ (hwk hw 143 rfl)) (mvT hZ (hwk hw 84 rfl)) (mvT hZ (hwk hw 144 rfl)) (by decide) (backOf (W := 0) (rm34 l Z a0 hw [] t1 k1 cs fm h0 n0 O0 AW hs SF RF) hZ (hwk hw 144 rfl) (hwk hw 84 rfl) (by decide) (by decide)) (g := (mkF m 3 #[.val (.ref t1), .val (.int (46 : Int32)), .val (.int (0 : Int32)), .val (.int (Int32.ofNat cs.length))] [(.ref t1), (.int (Int32.ofNat cs.length)), (.int (0 : Int32))])) rfl (by rw [hml]; rfl) (argsL := [(.int (0 : Int32)), (.int (Int32.ofNat cs.length)), (.ref t1)]) (rest := []) (lenOf pd_11 rfl) rfl (by show 2 * 0 + _ ≤ _; exact Nat.le_of_eq rfl) (hb hby d33_3) (fun _ _ => ⟨rfl, e0, (by decide : 0 + 0 ≤ _), (by decide : 0 + 0 ≤ _)⟩)
  dsimp only [Pt.U, Pt.locs, Pt.cells, Pt.slots] at X101 l101 y101 z101 st101 hQ101
  subst l101 y101 z101
  unfold Q_rm34 at hQ101
  obtain ⟨rfl, N101q, e101⟩ := hQ101
  have N101 := Fr.app N0 N101q
  obtain ⟨_, _, ⟨T102, L102, k102, n102⟩, -, X102, ⟨Lc102, hQ102, l102, y102, z102⟩, st102⟩ := Jvm.LawKit.callS X101 hx (y := (⟨"java/lang/StringUTF16", "indexOfCharUnsafe", "([BIII)I"⟩ : MethodName)) hown (mvT hZ (hwk hw 154 rfl)) (mvT hZ (hwk hw 155 rfl)) (mvT hZ (hwk hw 84 rfl)) (mvT hZ (hwk hw 156 rfl)) (by decide) (backOf (W := 0) (rm38 l Z a0 hw [] t1 k1 cs h0 n0 O0 AW hs hq SA SH SL) hZ (hwk hw 156 rfl) (hwk hw 84 rfl) (by decide) (by decide)) (g := (mkF m 10 #[.val (.ref t1), .val (.int (46 : Int32)), .val (.int (0 : Int32)), .val (.int (Int32.ofNat cs.length))] [(.int (Int32.ofNat cs.length)), (.int (0 : Int32)), (.int (46 : Int32)), (.ref t1)])) rfl (by rw [hml]; rfl) (argsL := [(.ref t1), (.int (46 : Int32)), (.int (0 : Int32)), (.int (Int32.ofNat cs.length))]) (rest := []) (lenOf pd_8 rfl) rfl (by show 2 * 0 + _ ≤ _; exact Nat.le_of_eq rfl) (hb hby d33_10) (fun _ _ => ⟨rfl, e101, (by decide : 0 + 0 ≤ _), (by decide : 0 + 0 ≤ _)⟩)
  dsimp only [Pt.U, Pt.locs, Pt.cells, Pt.slots] at X102 l102 y102 z102 st102 hQ102
  subst l102 y102 z102
  unfold Q_rm38 at hQ102
  obtain ⟨rfl, N102q, e102⟩ := hQ102
  have N102 := Fr.app N101 N102q
  obtain ⟨fs, hr, hrun, hended, hW, hsame⟩ := X102.leave (v := some (.int (IX cs))) (fun h => by rw [Bd.returns] at h; cases h)
  refine ⟨_, _, pre0 _ ?_, hrun, hended, _, _, rfl, ?_, ⟨_, rfl⟩, hW, hsame.mono (by decide) (by decide)⟩
  · show Steps p.tables e below (s₁.setTop (mkF m 0 #[.val (.ref t1), .val (.int (46 : Int32)), .val (.int (0 : Int32)), .val (.int (Int32.ofNat cs.length))] [])) _
    refine XS.iloadN X0.here hx rfl (hb hby d33_0) rfl ?_
    refine XS.iloadN X0.here hx rfl (hb hby d33_1) rfl ?_
    refine XS.aloadN X0.here hx rfl (hb hby d33_2) rfl rfl ?_
    show Steps p.tables e below (s₁.setTop (mkF m 3 #[.val (.ref t1), .val (.int (46 : Int32)), .val (.int (0 : Int32)), .val (.int (Int32.ofNat cs.length))] [(.ref t1), (.int (Int32.ofNat cs.length)), (.int (0 : Int32))])) _
    refine st101 _ ?_
    show Steps p.tables e below (T101.setTop (mkF m 6 #[.val (.ref t1), .val (.int (46 : Int32)), .val (.int (0 : Int32)), .val (.int (Int32.ofNat cs.length))] [])) _
    refine XS.aloadN X101.here hx rfl (hb hby d33_6) rfl rfl ?_
    refine XS.iloadN X101.here hx rfl (hb hby d33_7) rfl ?_
    refine XS.iloadN X101.here hx rfl (hb hby d33_8) rfl ?_
    refine XS.iloadN X101.here hx rfl (hb hby d33_9) rfl ?_
    show Steps p.tables e below (T101.setTop (mkF m 10 #[.val (.ref t1), .val (.int (46 : Int32)), .val (.int (0 : Int32)), .val (.int (Int32.ofNat cs.length))] [(.int (Int32.ofNat cs.length)), (.int (0 : Int32)), (.int (46 : Int32)), (.ref t1)])) _
    refine st102 _ ?_
    show Steps p.tables e below (T102.setTop (mkF m 13 #[.val (.ref t1), .val (.int (46 : Int32)), .val (.int (0 : Int32)), .val (.int (Int32.ofNat cs.length))] [(.int (IX cs))])) _
    exact Jvm.RoadKit.retOut X102 hx Bd.returns rfl (Or.inl ⟨rfl, by simp, _, rfl⟩) (hb hby d33_13) hr
  · show Q_rm33 Z t1 k1 cs fm h0 n0 _ T102.heap _
    rw [e102]
    unfold Q_rm33
    exact ⟨rfl, N102, rfl⟩
theorem ef_rm32 (m : MethodId) (x0 : Addr) (x1 : Int32) (x2 : Int32) (x3 : Int32) : entryFrame m #[(.ref x0), (.int x1), (.int x2), (.int x3)] 4 = mkF m 0 #[.val (.ref x0), .val (.int x1), .val (.int x2), .val (.int x3)] [] := by first | (simp [entryFrame, mkF, argsToLocals, Value.category]; done) | rfl
def Q_rm32 (Z : State) (t1 : Addr) (k1 : ClassId) (cs : List Int32) (fm : Value) (h0 : Heap) (n0 : Nat) (v : Option Value) (h : Heap) (L : List Loc) : Prop := (v = some (.int (IX cs))) ∧ (Fr n0 L) ∧ (h = h0)
theorem d32_0 : decode jdk_52_method_40_code 0 = .ok (.iload_n 2, 1) := by decide +kernel
theorem d32_1 : decode jdk_52_method_40_code 1 = .ok (.iconst 0, 1) := by decide +kernel
theorem d32_2 : decode jdk_52_method_40_code 2 = .ok (.invokestatic 224, 3) := by decide +kernel
theorem d32_5 : decode jdk_52_method_40_code 5 = .ok (.istore_n 2, 1) := by decide +kernel
theorem d32_6 : decode jdk_52_method_40_code 6 = .ok (.iload_n 3, 1) := by decide +kernel
theorem d32_7 : decode jdk_52_method_40_code 7 = .ok (.aload_n 0, 1) := by decide +kernel
theorem d32_8 : decode jdk_52_method_40_code 8 = .ok (.arraylength, 1) := by decide +kernel
theorem d32_9 : decode jdk_52_method_40_code 9 = .ok (.iconst 1, 1) := by decide +kernel
theorem d32_10 : decode jdk_52_method_40_code 10 = .ok (.ishr, 1) := by decide +kernel
theorem d32_11 : decode jdk_52_method_40_code 11 = .ok (.invokestatic 183, 3) := by decide +kernel
theorem d32_14 : decode jdk_52_method_40_code 14 = .ok (.istore_n 3, 1) := by decide +kernel
theorem d32_15 : decode jdk_52_method_40_code 15 = .ok (.iload_n 2, 1) := by decide +kernel
theorem d32_16 : decode jdk_52_method_40_code 16 = .ok (.iload_n 3, 1) := by decide +kernel
theorem d32_17 : decode jdk_52_method_40_code 17 = .ok (.if_icmp .lt 5, 3) := by decide +kernel
theorem d32_22 : decode jdk_52_method_40_code 22 = .ok (.iload_n 1, 1) := by decide +kernel
theorem d32_23 : decode jdk_52_method_40_code 23 = .ok (.ldc 227, 2) := by decide +kernel
theorem d32_25 : decode jdk_52_method_40_code 25 = .ok (.if_icmp .ge 11, 3) := by decide +kernel
theorem d32_28 : decode jdk_52_method_40_code 28 = .ok (.aload_n 0, 1) := by decide +kernel
theorem d32_29 : decode jdk_52_method_40_code 29 = .ok (.iload_n 1, 1) := by decide +kernel
theorem d32_30 : decode jdk_52_method_40_code 30 = .ok (.iload_n 2, 1) := by decide +kernel
theorem d32_31 : decode jdk_52_method_40_code 31 = .ok (.iload_n 3, 1) := by decide +kernel
theorem d32_32 : decode jdk_52_method_40_code 32 = .ok (.invokestatic 228, 3) := by decide +kernel
theorem d32_35 : decode jdk_52_method_40_code 35 = .ok (.ireturn, 1) := by decide +kernel
theorem d32_20 : decode jdk_52_method_40_code 20 = .ok (.iconst (-1), 1) := by decide +kernel
theorem d32_21 : decode jdk_52_method_40_code 21 = .ok (.ireturn, 1) := by decide +kernel
set_option maxRecDepth 65536 in
set_option maxHeartbeats 40000000 in
theorem rm32 (l : Launch) (Z : State) (a0 : Array Value) (hw : ∀ d ∈ tables_1, d.before a0 Z = true) (ws : List Jvm.Cond) (t1 : Addr) (k1 : ClassId) (cs : List Int32) (fm : Value) (h0 : Heap) (n0 : Nat) (O0 : Old Z n0 h0) (AW : Arv Z h0 t1 k1 .byte (Int32.ofNat (2 * cs.length)) (wideBytes cs) (.int (0 : Int32))) (hs : cs.length ≤ 6) (hq : ∀ c ∈ cs, C16 c) (SF : Sta Z Z.heap "jdk/internal/util/Preconditions" "SIOOBE_FORMATTER" "Ljava/util/function/BiFunction;" fm) (RF : fm.isRef = true) (SA : Sta Z Z.heap "java/lang/StringUTF16" "$assertionsDisabled" "Z" (.int (1 : Int32))) (SH : Sta Z Z.heap "java/lang/StringUTF16" "HI_BYTE_SHIFT" "I" (.int (0 : Int32))) (SL : Sta Z Z.heap "java/lang/StringUTF16" "LO_BYTE_SHIFT" "I" (.int (8 : Int32))) :
    MetFree l (⟨"java/lang/StringUTF16", "indexOf", "([BIII)I"⟩ : MethodName) (head1 (Jvm.Cond.code (⟨"java/lang/StringUTF16", "indexOf", "([BIII)I"⟩ : MethodName) jdk_52_method_40_code 4 (some .int) :: ws) ({ frames := 4, cells := 0, slots := 0, locals := 58 } : Room)) (fun a U => a = #[(.ref t1), (.int (46 : Int32)), (.int (0 : Int32)), (.int (Int32.ofNat cs.length))] ∧ Z.Warmed39 U.vm ∧ U.heap = h0) (fun _ _ _ _ _ => True) (fun _ U o U' => ∃ v L, o = .returned v ∧ Q_rm32 Z t1 k1 cs fm h0 n0 v U'.heap L ∧ FrameEnd U o U' L ({ frames := 4, cells := 0, slots := 0, locals := 58 } : Room).cells ({ frames := 4, cells := 0, slots := 0, locals := 58 } : Room).slots) := by
  refine MetFree.of_bodySF (plainFor_of_name pn_0) hisR ?_
  intro p e s m args below meth c s₁ Bd hml0 hP hK
  obtain ⟨rfl, hZ, hh⟩ := hP
  have hx := Bd.exec
  have hby := Bd.bytes
  have hml : c.maxLocals = 4 := hml0
  have hown : s.vm.findClass "java/lang/StringUTF16" = some m.cls := findClass_of_methodNamed Bd.named
  have hnm := (name_of_methodNamed Bd.named Bd.method).1
  have X0 : Stand p l e ({ frames := 4, cells := 0, slots := 0, locals := 58 } : Room) s m #[(.ref t1), (.int (46 : Int32)), (.int (0 : Int32)), (.int (Int32.ofNat cs.length))] below meth c s₁ [] 0 0 := Stand.of_body Bd
  have e0 : s₁.heap = h0 := by rw [← hh, Bd.state]; rfl
  have N0 := Fr.nil n0
  have Z0 : n0 ≤ h0.size := old_le O0
  have pre0 : ∀ t, Steps p.tables e below (s₁.setTop (mkF m 0 #[.val (.ref t1), .val (.int (46 : Int32)), .val (.int (0 : Int32)), .val (.int (Int32.ofNat cs.length))] [])) t → Steps p.tables e below (s₁.setTop (entryFrame m #[(.ref t1), (.int (46 : Int32)), (.int (0 : Int32)), (.int (Int32.ofNat cs.length))] 4)) t := fun t k => castTop (ef_rm32 m t1 (46 : Int32) (0 : Int32) (Int32.ofNat cs.length)) k
  obtain ⟨_, _, ⟨T101, L101, k101, n101⟩, -, X101, ⟨Lc101, hQ101, l101, y101, z101⟩, st101⟩ := Jvm.LawKit.callS X0 hx (y := (⟨"java/lang/Math", "max", "(II)I"⟩ : MethodName)) hown (mvT hZ (hwk hw 136 rfl)) (mvT hZ (hwk hw 72 rfl)) (mvT hZ (hwk hw 73 rfl)) (mvT hZ (hwk hw 74 rfl)) (by decide) (backOf (W := 0) (rm15 l Z a0 hw []  h0 n0 O0 ) hZ (hwk hw 74 rfl) (hwk hw 73 rfl) (by decide) (by decide)) (g := (mkF m 2 #[.val (.ref t1), .val (.int (46 : Int32)), .val (.int (0 : Int32)), .val (.int (Int32.ofNat cs.length))] [(.int (0 : Int32)), (.int (0 : Int32))])) rfl (by rw [hml]; rfl) (argsL := [(.int (0 : Int32)), (.int (0 : Int32))]) (rest := []) (lenOf pd_7 rfl) rfl (by show 2 * 0 + _ ≤ _; exact Nat.le_of_eq rfl) (hb hby d32_2) (fun _ _ => ⟨rfl, e0, (by decide : 0 + 0 ≤ _), (by decide : 0 + 0 ≤ _)⟩)
  dsimp only [Pt.U, Pt.locs, Pt.cells, Pt.slots] at X101 l101 y101 z101 st101 hQ101
  subst l101 y101 z101
  unfold Q_rm15 at hQ101
  obtain ⟨rfl, N101q, e101⟩ := hQ101
  have N101 := Fr.app N0 N101q
  obtain ⟨cl102, Ar102, -, Sz102, Nn102, -, -⟩ := id AW
  obtain ⟨_, _, ⟨T103, L103, k103, n103⟩, -, X103, ⟨Lc103, hQ103, l103, y103, z103⟩, st103⟩ := Jvm.LawKit.callS X101 hx (y := (⟨"java/lang/Math", "min", "(II)I"⟩ : MethodName)) hown (mvT hZ (hwk hw 137 rfl)) (mvT hZ (hwk hw 76 rfl)) (mvT hZ (hwk hw 73 rfl)) (mvT hZ (hwk hw 77 rfl)) (by decide) (backOf (W := 0) (rm16 l Z a0 hw [] (Int32.ofNat cs.length) h0 n0 O0 ) hZ (hwk hw 77 rfl) (hwk hw 73 rfl) (by decide) (by decide)) (g := (mkF m 11 #[.val (.ref t1), .val (.int (46 : Int32)), .val (.int (0 : Int32)), .val (.int (Int32.ofNat cs.length))] [(.int (Int32.ofNat cs.length)), (.int (Int32.ofNat cs.length))])) rfl (by rw [hml]; rfl) (argsL := [(.int (Int32.ofNat cs.length)), (.int (Int32.ofNat cs.length))]) (rest := []) (lenOf pd_7 rfl) rfl (by show 2 * 0 + _ ≤ _; exact Nat.le_of_eq rfl) (hb hby d32_11) (fun _ _ => ⟨rfl, e101, (by decide : 0 + 0 ≤ _), (by decide : 0 + 0 ≤ _)⟩)
  dsimp only [Pt.U, Pt.locs, Pt.cells, Pt.slots] at X103 l103 y103 z103 st103 hQ103
  subst l103 y103 z103
  unfold Q_rm16 at hQ103
  obtain ⟨rfl, N103q, e103⟩ := hQ103
  have N103 := Fr.app N101 N103q
  have S105 : ∀ t, Steps p.tables e below (T103.setTop (mkF m 17 #[.val (.ref t1), .val (.int (46 : Int32)), .val (.int (0 : Int32)), .val (.int (Int32.ofNat cs.length))] [(.int (Int32.ofNat cs.length)), (.int (0 : Int32))])) t → Steps p.tables e below (s₁.setTop (entryFrame m #[(.ref t1), (.int (46 : Int32)), (.int (0 : Int32)), (.int (Int32.ofNat cs.length))] 4)) t := fun t k => by
    refine pre0 t ?_
    show Steps p.tables e below (s₁.setTop (mkF m 0 #[.val (.ref t1), .val (.int (46 : Int32)), .val (.int (0 : Int32)), .val (.int (Int32.ofNat cs.length))] [])) _
    refine XS.iloadN X0.here hx rfl (hb hby d32_0) rfl ?_
    refine XS.iconst X0.here hx rfl (hb hby d32_1) ?_
    show Steps p.tables e below (s₁.setTop (mkF m 2 #[.val (.ref t1), .val (.int (46 : Int32)), .val (.int (0 : Int32)), .val (.int (Int32.ofNat cs.length))] [(.int (0 : Int32)), (.int (0 : Int32))])) _
    refine st101 _ ?_
    show Steps p.tables e below (T101.setTop (mkF m 5 #[.val (.ref t1), .val (.int (46 : Int32)), .val (.int (0 : Int32)), .val (.int (Int32.ofNat cs.length))] [(.int (0 : Int32))])) _
    refine XS.istoreN X101.here hx rfl (hb hby d32_5) rfl (l' := #[.val (.ref t1), .val (.int (46 : Int32)), .val (.int (0 : Int32)), .val (.int (Int32.ofNat cs.length))]) rfl ?_
    show Steps p.tables e below (T101.setTop (mkF m 6 #[.val (.ref t1), .val (.int (46 : Int32)), .val (.int (0 : Int32)), .val (.int (Int32.ofNat cs.length))] [])) _
    refine XS.iloadN X101.here hx rfl (hb hby d32_6) rfl ?_
    refine XS.aloadN X101.here hx rfl (hb hby d32_7) rfl rfl ?_
    show Steps p.tables e below (T101.setTop (mkF m 8 #[.val (.ref t1), .val (.int (46 : Int32)), .val (.int (0 : Int32)), .val (.int (Int32.ofNat cs.length))] [(.ref t1), (.int (Int32.ofNat cs.length))])) _
    refine X101.arraylength hx (by rw [e101]; exact Ar102.1) (State.isArrayOf_alike hZ.alike Ar102.2.1) (g := (mkF m 8 #[.val (.ref t1), .val (.int (46 : Int32)), .val (.int (0 : Int32)), .val (.int (Int32.ofNat cs.length))] [(.ref t1), (.int (Int32.ofNat cs.length))])) rfl rfl (hb hby d32_8) _ ?_
    rw [len_of Sz102 Nn102]
    show Steps p.tables e below (T101.setTop (mkF m 9 #[.val (.ref t1), .val (.int (46 : Int32)), .val (.int (0 : Int32)), .val (.int (Int32.ofNat cs.length))] [(.int (Int32.ofNat (2 * cs.length))), (.int (Int32.ofNat cs.length))])) _
    refine XS.iconst X101.here hx rfl (hb hby d32_9) ?_
    refine XS.ishr X101.here hx rfl (hb hby d32_10) rfl ?_
    show Steps p.tables e below (T101.setTop (mkF m 11 #[.val (.ref t1), .val (.int (46 : Int32)), .val (.int (0 : Int32)), .val (.int (Int32.ofNat cs.length))] [(.int ((Int32.ofNat (2 * cs.length)) >>> ((1 : Int32) &&& 31))), (.int (Int32.ofNat cs.length))])) _
    rw [own_half (show cs.length < 16 by omega)]
    show Steps p.tables e below (T101.setTop (mkF m 11 #[.val (.ref t1), .val (.int (46 : Int32)), .val (.int (0 : Int32)), .val (.int (Int32.ofNat cs.length))] [(.int (Int32.ofNat cs.length)), (.int (Int32.ofNat cs.length))])) _
    refine st103 _ ?_
    show Steps p.tables e below (T103.setTop (mkF m 14 #[.val (.ref t1), .val (.int (46 : Int32)), .val (.int (0 : Int32)), .val (.int (Int32.ofNat cs.length))] [(.int (Int32.ofNat cs.length))])) _
    refine XS.istoreN X103.here hx rfl (hb hby d32_14) rfl (l' := #[.val (.ref t1), .val (.int (46 : Int32)), .val (.int (0 : Int32)), .val (.int (Int32.ofNat cs.length))]) rfl ?_
    show Steps p.tables e below (T103.setTop (mkF m 15 #[.val (.ref t1), .val (.int (46 : Int32)), .val (.int (0 : Int32)), .val (.int (Int32.ofNat cs.length))] [])) _
    refine XS.iloadN X103.here hx rfl (hb hby d32_15) rfl ?_
    refine XS.iloadN X103.here hx rfl (hb hby d32_16) rfl ?_
    exact k
  by_cases hc104 : (0 : Int32) < (Int32.ofNat cs.length)
  · obtain ⟨_, _, ⟨T106, L106, k106, n106⟩, -, X106, ⟨Lc106, hQ106, l106, y106, z106⟩, st106⟩ := Jvm.LawKit.callS X103 hx (y := (⟨"java/lang/StringUTF16", "indexOfChar", "([BIII)I"⟩ : MethodName)) hown (mvT hZ (hwk hw 139 rfl)) (mvT hZ (hwk hw 140 rfl)) (mvT hZ (hwk hw 84 rfl)) (mvT hZ (hwk hw 141 rfl)) (by decide) (backOf (W := 0) (rm33 l Z a0 hw [] t1 k1 cs fm h0 n0 O0 AW hs hq SF RF SA SH SL) hZ (hwk hw 141 rfl) (hwk hw 84 rfl) (by decide) (by decide)) (g := (mkF m 32 #[.val (.ref t1), .val (.int (46 : Int32)), .val (.int (0 : Int32)), .val (.int (Int32.ofNat cs.length))] [(.int (Int32.ofNat cs.length)), (.int (0 : Int32)), (.int (46 : Int32)), (.ref t1)])) rfl (by rw [hml]; rfl) (argsL := [(.ref t1), (.int (46 : Int32)), (.int (0 : Int32)), (.int (Int32.ofNat cs.length))]) (rest := []) (lenOf pd_8 rfl) rfl (by show 2 * 0 + _ ≤ _; exact Nat.le_of_eq rfl) (hb hby d32_32) (fun _ _ => ⟨rfl, e103, (by decide : 0 + 0 ≤ _), (by decide : 0 + 0 ≤ _)⟩)
    dsimp only [Pt.U, Pt.locs, Pt.cells, Pt.slots] at X106 l106 y106 z106 st106 hQ106
    subst l106 y106 z106
    unfold Q_rm33 at hQ106
    obtain ⟨rfl, N106q, e106⟩ := hQ106
    have N106 := Fr.app N103 N106q
    obtain ⟨fs, hr, hrun, hended, hW, hsame⟩ := X106.leave (v := some (.int (IX cs))) (fun h => by rw [Bd.returns] at h; cases h)
    refine ⟨_, _, S105 _ ?_, hrun, hended, _, _, rfl, ?_, ⟨_, rfl⟩, hW, hsame.mono (by decide) (by decide)⟩
    · show Steps p.tables e below (T103.setTop (mkF m 17 #[.val (.ref t1), .val (.int (46 : Int32)), .val (.int (0 : Int32)), .val (.int (Int32.ofNat cs.length))] [(.int (Int32.ofNat cs.length)), (.int (0 : Int32))])) _
      refine XS.icmpYes X103.here hx rfl (pc0 := 17) (pc' := 22) rfl (hb hby d32_17) rfl (tlt hc104).1 (by decide) (by decide) ?_
      show Steps p.tables e below (T103.setTop (mkF m 22 #[.val (.ref t1), .val (.int (46 : Int32)), .val (.int (0 : Int32)), .val (.int (Int32.ofNat cs.length))] [])) _
      refine XS.iloadN X103.here hx rfl (hb hby d32_22) rfl ?_
      show Steps p.tables e below (T103.setTop (mkF m 23 #[.val (.ref t1), .val (.int (46 : Int32)), .val (.int (0 : Int32)), .val (.int (Int32.ofNat cs.length))] [(.int (46 : Int32))])) _
      refine X103.ldcInt hx hown (mvT hZ (hwk hw 138 rfl)) (g := (mkF m 23 #[.val (.ref t1), .val (.int (46 : Int32)), .val (.int (0 : Int32)), .val (.int (Int32.ofNat cs.length))] [(.int (46 : Int32))])) rfl (hb hby d32_23) _ ?_
      show Steps p.tables e below (T103.setTop (mkF m 25 #[.val (.ref t1), .val (.int (46 : Int32)), .val (.int (0 : Int32)), .val (.int (Int32.ofNat cs.length))] [(.int (65536 : Int32)), (.int (46 : Int32))])) _
      refine XS.icmpNo X103.here hx rfl (hb hby d32_25) rfl (tlt (by decide : (46 : Int32) < (65536 : Int32))).2.1 ?_
      show Steps p.tables e below (T103.setTop (mkF m 28 #[.val (.ref t1), .val (.int (46 : Int32)), .val (.int (0 : Int32)), .val (.int (Int32.ofNat cs.length))] [])) _
      refine XS.aloadN X103.here hx rfl (hb hby d32_28) rfl rfl ?_
      refine XS.iloadN X103.here hx rfl (hb hby d32_29) rfl ?_
      refine XS.iloadN X103.here hx rfl (hb hby d32_30) rfl ?_
      refine XS.iloadN X103.here hx rfl (hb hby d32_31) rfl ?_
      show Steps p.tables e below (T103.setTop (mkF m 32 #[.val (.ref t1), .val (.int (46 : Int32)), .val (.int (0 : Int32)), .val (.int (Int32.ofNat cs.length))] [(.int (Int32.ofNat cs.length)), (.int (0 : Int32)), (.int (46 : Int32)), (.ref t1)])) _
      refine st106 _ ?_
      show Steps p.tables e below (T106.setTop (mkF m 35 #[.val (.ref t1), .val (.int (46 : Int32)), .val (.int (0 : Int32)), .val (.int (Int32.ofNat cs.length))] [(.int (IX cs))])) _
      exact Jvm.RoadKit.retOut X106 hx Bd.returns rfl (Or.inl ⟨rfl, by simp, _, rfl⟩) (hb hby d32_35) hr
    · show Q_rm32 Z t1 k1 cs fm h0 n0 _ T106.heap _
      rw [e106]
      unfold Q_rm32
      exact ⟨rfl, N106, rfl⟩
  · obtain ⟨fs, hr, hrun, hended, hW, hsame⟩ := X103.leave (v := some (.int (-1 : Int32))) (fun h => by rw [Bd.returns] at h; cases h)
    refine ⟨_, _, S105 _ ?_, hrun, hended, _, _, rfl, ?_, ⟨_, rfl⟩, hW, hsame.mono (by decide) (by decide)⟩
    · show Steps p.tables e below (T103.setTop (mkF m 17 #[.val (.ref t1), .val (.int (46 : Int32)), .val (.int (0 : Int32)), .val (.int (Int32.ofNat cs.length))] [(.int (Int32.ofNat cs.length)), (.int (0 : Int32))])) _
      refine XS.icmpNo X103.here hx rfl (hb hby d32_17) rfl (flt hc104).1 ?_
      show Steps p.tables e below (T103.setTop (mkF m 20 #[.val (.ref t1), .val (.int (46 : Int32)), .val (.int (0 : Int32)), .val (.int (Int32.ofNat cs.length))] [])) _
      refine XS.iconst X103.here hx rfl (hb hby d32_20) ?_
      show Steps p.tables e below (T103.setTop (mkF m 21 #[.val (.ref t1), .val (.int (46 : Int32)), .val (.int (0 : Int32)), .val (.int (Int32.ofNat cs.length))] [(.int (-1 : Int32))])) _
      exact Jvm.RoadKit.retOut X103 hx Bd.returns rfl (Or.inl ⟨rfl, by simp, _, rfl⟩) (hb hby d32_21) hr
    · show Q_rm32 Z t1 k1 cs fm h0 n0 _ T103.heap _
      rw [e103]
      unfold Q_rm32
      exact ⟨(by rw [own_ix_e hs hc104]), N103, rfl⟩
theorem ef_ix0 (m : MethodId) (x0 : Addr) (x1 : Int32) (x2 : Int32) : entryFrame m #[(.ref x0), (.int x1), (.int x2)] 3 = mkF m 0 #[.val (.ref x0), .val (.int x1), .val (.int x2)] [] := by first | (simp [entryFrame, mkF, argsToLocals, Value.category]; done) | rfl
def Q_ix0 (Z : State) (s1 : Addr) (t1 : Addr) (k1 : ClassId) (cs : List Int32) (zc : Int32) (fm : Value) (h0 : Heap) (n0 : Nat) (v : Option Value) (h : Heap) (L : List Loc) : Prop := (v = some (.int (IX cs))) ∧ (Fr n0 L) ∧ (h = h0)
theorem d9_0 : decode jdk_42_method_80_code 0 = .ok (.aload_n 0, 1) := by decide +kernel
theorem d9_1 : decode jdk_42_method_80_code 1 = .ok (.invokevirtual 492, 3) := by decide +kernel
theorem d9_4 : decode jdk_42_method_80_code 4 = .ok (.ifCond .eq 19, 3) := by decide +kernel
theorem d9_7 : decode jdk_42_method_80_code 7 = .ok (.aload_n 0, 1) := by decide +kernel
theorem d9_8 : decode jdk_42_method_80_code 8 = .ok (.getfield 9, 3) := by decide +kernel
theorem d9_11 : decode jdk_42_method_80_code 11 = .ok (.iload_n 1, 1) := by decide +kernel
theorem d9_12 : decode jdk_42_method_80_code 12 = .ok (.iload_n 2, 1) := by decide +kernel
theorem d9_13 : decode jdk_42_method_80_code 13 = .ok (.aload_n 0, 1) := by decide +kernel
theorem d9_14 : decode jdk_42_method_80_code 14 = .ok (.invokevirtual 505, 3) := by decide +kernel
theorem pd_12 : parseMethodDescriptor "()I" = some ⟨[], some .int⟩ := by decide +kernel
theorem d9_17 : decode jdk_42_method_80_code 17 = .ok (.invokestatic 637, 3) := by decide +kernel
theorem d9_20 : decode jdk_42_method_80_code 20 = .ok (.goto 16, 3) := by decide +kernel
theorem d9_36 : decode jdk_42_method_80_code 36 = .ok (.ireturn, 1) := by decide +kernel
set_option maxRecDepth 65536 in
set_option maxHeartbeats 40000000 in
theorem ix0 (l : Launch) (Z : State) (a0 : Array Value) (hw : ∀ d ∈ tables_1, d.before a0 Z = true) (ws : List Jvm.Cond) (s1 : Addr) (t1 : Addr) (k1 : ClassId) (cs : List Int32) (zc : Int32) (fm : Value) (h0 : Heap) (n0 : Nat) (O0 : Old Z n0 h0) (E1 : Exa Z h0 s1 "java/lang/String") (V1 : Fld Z h0 s1 "java/lang/String" "value" "[B" (.ref t1)) (C1 : Fld Z h0 s1 "java/lang/String" "coder" "B" (.int (0 : Int32))) (AL : Arv Z h0 t1 k1 .byte (Int32.ofNat cs.length) (cs.map fun c => Value.int (lo8 c)) (.int (0 : Int32))) (hc : CodA cs (0 : Int32) (Int32.ofNat cs.length) (cs.map fun c => Value.int (lo8 c))) (hs : cs.length ≤ 6) (hq : ∀ c ∈ cs, C16 c) (hl : ∀ c ∈ cs, ¬ (255 : Int32) < c) (SZ : Sta Z Z.heap "java/lang/String" "COMPACT_STRINGS" "Z" (.int zc)) (PZ : ¬ (zc = (0 : Int32))) (SF : Sta Z Z.heap "jdk/internal/util/Preconditions" "SIOOBE_FORMATTER" "Ljava/util/function/BiFunction;" fm) (RF : fm.isRef = true) (SA : Sta Z Z.heap "java/lang/StringUTF16" "$assertionsDisabled" "Z" (.int (1 : Int32))) (SH : Sta Z Z.heap "java/lang/StringUTF16" "HI_BYTE_SHIFT" "I" (.int (0 : Int32))) (SL : Sta Z Z.heap "java/lang/StringUTF16" "LO_BYTE_SHIFT" "I" (.int (8 : Int32))) :
    MetFree l (⟨"java/lang/String", "indexOf", "(II)I"⟩ : MethodName) (head1 (Jvm.Cond.code (⟨"java/lang/String", "indexOf", "(II)I"⟩ : MethodName) jdk_42_method_80_code 3 (some .int) :: ws) ({ frames := 5, cells := 0, slots := 0, locals := 73 } : Room)) (fun a U => a = #[(.ref s1), (.int (46 : Int32)), (.int (0 : Int32))] ∧ Z.Warmed39 U.vm ∧ U.heap = h0) (fun _ _ _ _ _ => True) (fun _ U o U' => ∃ v L, o = .returned v ∧ Q_ix0 Z s1 t1 k1 cs zc fm h0 n0 v U'.heap L ∧ FrameEnd U o U' L ({ frames := 5, cells := 0, slots := 0, locals := 73 } : Room).cells ({ frames := 5, cells := 0, slots := 0, locals := 73 } : Room).slots) := by
  refine MetFree.of_bodySF (plainFor_of_name pn_2) hisR ?_
  intro p e s m args below meth c s₁ Bd hml0 hP hK
  obtain ⟨rfl, hZ, hh⟩ := hP
  have hx := Bd.exec
  have hby := Bd.bytes
  have hml : c.maxLocals = 3 := hml0
  have hown : s.vm.findClass "java/lang/String" = some m.cls := findClass_of_methodNamed Bd.named
  have hnm := (name_of_methodNamed Bd.named Bd.method).1
  have X0 : Stand p l e ({ frames := 5, cells := 0, slots := 0, locals := 73 } : Room) s m #[(.ref s1), (.int (46 : Int32)), (.int (0 : Int32))] below meth c s₁ [] 0 0 := Stand.of_body Bd
  have e0 : s₁.heap = h0 := by rw [← hh, Bd.state]; rfl
  have N0 := Fr.nil n0
  have Z0 : n0 ≤ h0.size := old_le O0
  have pre0 : ∀ t, Steps p.tables e below (s₁.setTop (mkF m 0 #[.val (.ref s1), .val (.int (46 : Int32)), .val (.int (0 : Int32))] [])) t → Steps p.tables e below (s₁.setTop (entryFrame m #[(.ref s1), (.int (46 : Int32)), (.int (0 : Int32))] 3)) t := fun t k => castTop (ef_ix0 m s1 (46 : Int32) (0 : Int32)) k
  obtain ⟨cq101, kq101, q101a, q101b, q101c⟩ := isOf hZ e0 E1
  obtain ⟨_, _, ⟨T101, L101, k101, n101⟩, -, X101, ⟨Lc101, hQ101, l101, y101, z101⟩, st101⟩ := X0.virtualBack hx (y := (⟨"java/lang/String", "isLatin1", "()Z"⟩ : MethodName)) (z := (⟨"java/lang/String", "isLatin1", "()Z"⟩ : MethodName)) hown (mvT hZ (hwk hw 48 rfl)) (mvT hZ (hwk hw 49 rfl)) (notFace_of_selects (args := #[]) (mvT hZ (hwk hw 51 rfl))) (mvT hZ (hwk hw 51 rfl)) (mvT hZ (hwk hw 50 rfl)) (by decide) (backOf (W := 0) (il0 l Z a0 hw [] s1 zc h0 n0 O0 C1 SZ PZ) hZ (hwk hw 52 rfl) (hwk hw 8 rfl) (by decide) (by decide)) q101a q101c (g := (mkF m 1 #[.val (.ref s1), .val (.int (46 : Int32)), .val (.int (0 : Int32))] [(.ref s1)])) rfl (by rw [hml]; rfl) (Steps.refl _) (argsL := []) (rest := []) (lenOf pd_5 rfl) rfl (by show 2 * 0 + _ ≤ _; exact Nat.le_of_eq rfl) (hb hby d9_1) (fun _ _ => ⟨rfl, e0, (by decide : 0 + 0 ≤ _), (by decide : 0 + 0 ≤ _)⟩)
  dsimp only [Pt.U, Pt.locs, Pt.cells, Pt.slots] at X101 l101 y101 z101 st101 hQ101
  subst l101 y101 z101
  unfold Q_il0 at hQ101
  obtain ⟨rfl, N101q, e101⟩ := hQ101
  have N101 := Fr.app N0 N101q
  obtain ⟨T102, X102, e102, st102⟩ := getF X101 hx hZ hown (host := "") (Or.inl (hwk hw 26 rfl)) Via.refl e101 V1 (g := (mkF m 8 #[.val (.ref s1), .val (.int (46 : Int32)), .val (.int (0 : Int32))] [(.ref s1)])) rfl rfl (hb hby d9_8)
  have hws103 : ∀ d ∈ StrChars.Road.wordsLen, d.before a0 Z = true := fun d hd => hw d ((by decide +kernel : ∀ d ∈ StrChars.Road.wordsLen, d ∈ tables_1) d hd)
  have c104 : Sta Z h0 "java/lang/String" "COMPACT_STRINGS" "Z" (.int zc) := Sta.ext (O0).2 SZ
  obtain ⟨cq105, kq105, q105a, q105b, q105c⟩ := isOf hZ e102 E1
  obtain ⟨_, _, ⟨T105, L105, k105, n105⟩, -, X105, ⟨Lc105, hQ105, l105, y105, z105⟩, st105⟩ := X102.virtualBack hx (y := (⟨"java/lang/String", "length", "()I"⟩ : MethodName)) (z := (⟨"java/lang/String", "length", "()I"⟩ : MethodName)) hown (mvT hZ (hwk hw 54 rfl)) (mvT hZ (hwk hw 55 rfl)) (notFace_of_selects (args := #[]) (mvT hZ (hwk hw 57 rfl))) (mvT hZ (hwk hw 57 rfl)) (mvT hZ (hwk hw 56 rfl)) (by decide) (StrChars.Road.lenW (W := 3) hZ hws103 (kI := 4) (hwk hw 7 rfl) E1 V1 C1 AL hc hq c104 PZ (by omega) (by decide) (by decide)) q105a q105c (g := (mkF m 14 #[.val (.ref s1), .val (.int (46 : Int32)), .val (.int (0 : Int32))] [(.ref s1), (.int (0 : Int32)), (.int (46 : Int32)), (.ref t1)])) rfl (by rw [hml]; rfl) (Steps.refl _) (argsL := []) (rest := [(.int (0 : Int32)), (.int (46 : Int32)), (.ref t1)]) (lenOf pd_12 rfl) rfl (by show 2 * 0 + _ ≤ _; exact Nat.le_of_eq rfl) (hb hby d9_14) (fun _ _ => ⟨rfl, e102, (by decide : 0 + 0 ≤ _), (by decide : 0 + 0 ≤ _)⟩)
  dsimp only [Pt.U, Pt.locs, Pt.cells, Pt.slots] at X105 l105 y105 z105 st105 hQ105
  subst l105 y105 z105
  obtain ⟨hv105, hl105, e105⟩ := hQ105
  cases hv105
  have N105 := Fr.app N101 (own_frnil hl105)
  obtain ⟨_, _, ⟨T106, L106, k106, n106⟩, -, X106, ⟨Lc106, hQ106, l106, y106, z106⟩, st106⟩ := Jvm.LawKit.callS X105 hx (y := (⟨"java/lang/StringLatin1", "indexOf", "([BIII)I"⟩ : MethodName)) hown (mvT hZ (hwk hw 64 rfl)) (mvT hZ (hwk hw 65 rfl)) (mvT hZ (hwk hw 66 rfl)) (mvT hZ (hwk hw 67 rfl)) (by decide) (backOf (W := 0) (rm13 l Z a0 hw [] t1 k1 cs h0 n0 O0 AL hs hq hl) hZ (hwk hw 67 rfl) (hwk hw 66 rfl) (by decide) (by decide)) (g := (mkF m 17 #[.val (.ref s1), .val (.int (46 : Int32)), .val (.int (0 : Int32))] [(.int (Int32.ofNat cs.length)), (.int (0 : Int32)), (.int (46 : Int32)), (.ref t1)])) rfl (by rw [hml]; rfl) (argsL := [(.ref t1), (.int (46 : Int32)), (.int (0 : Int32)), (.int (Int32.ofNat cs.length))]) (rest := []) (lenOf pd_8 rfl) rfl (by show 2 * 0 + _ ≤ _; exact Nat.le_of_eq rfl) (hb hby d9_17) (fun _ _ => ⟨rfl, e105, (by decide : 0 + 0 ≤ _), (by decide : 0 + 0 ≤ _)⟩)
  dsimp only [Pt.U, Pt.locs, Pt.cells, Pt.slots] at X106 l106 y106 z106 st106 hQ106
  subst l106 y106 z106
  unfold Q_rm13 at hQ106
  obtain ⟨rfl, N106q, e106⟩ := hQ106
  have N106 := Fr.app N105 N106q
  obtain ⟨fs, hr, hrun, hended, hW, hsame⟩ := X106.leave (v := some (.int (IX cs))) (fun h => by rw [Bd.returns] at h; cases h)
  refine ⟨_, _, pre0 _ ?_, hrun, hended, _, _, rfl, ?_, ⟨_, rfl⟩, hW, hsame.mono (by decide) (by decide)⟩
  · show Steps p.tables e below (s₁.setTop (mkF m 0 #[.val (.ref s1), .val (.int (46 : Int32)), .val (.int (0 : Int32))] [])) _
    refine XS.aloadN X0.here hx rfl (hb hby d9_0) rfl rfl ?_
    show Steps p.tables e below (s₁.setTop (mkF m 1 #[.val (.ref s1), .val (.int (46 : Int32)), .val (.int (0 : Int32))] [(.ref s1)])) _
    refine st101.trans ?_
    show Steps p.tables e below (T101.setTop (mkF m 4 #[.val (.ref s1), .val (.int (46 : Int32)), .val (.int (0 : Int32))] [(.int (1 : Int32))])) _
    refine XS.ifNo X101.here hx rfl (hb hby d9_4) rfl ((if0 _ _).trans (feq (by decide : ¬ ((1 : Int32) = (0 : Int32)))).1) ?_
    show Steps p.tables e below (T101.setTop (mkF m 7 #[.val (.ref s1), .val (.int (46 : Int32)), .val (.int (0 : Int32))] [])) _
    refine XS.aloadN X101.here hx rfl (hb hby d9_7) rfl rfl ?_
    show Steps p.tables e below (T101.setTop (mkF m 8 #[.val (.ref s1), .val (.int (46 : Int32)), .val (.int (0 : Int32))] [(.ref s1)])) _
    refine st102 _ ?_
    show Steps p.tables e below (T102.setTop (mkF m 11 #[.val (.ref s1), .val (.int (46 : Int32)), .val (.int (0 : Int32))] [(.ref t1)])) _
    refine XS.iloadN X102.here hx rfl (hb hby d9_11) rfl ?_
    refine XS.iloadN X102.here hx rfl (hb hby d9_12) rfl ?_
    refine XS.aloadN X102.here hx rfl (hb hby d9_13) rfl rfl ?_
    show Steps p.tables e below (T102.setTop (mkF m 14 #[.val (.ref s1), .val (.int (46 : Int32)), .val (.int (0 : Int32))] [(.ref s1), (.int (0 : Int32)), (.int (46 : Int32)), (.ref t1)])) _
    refine st105.trans ?_
    show Steps p.tables e below (T105.setTop (mkF m 17 #[.val (.ref s1), .val (.int (46 : Int32)), .val (.int (0 : Int32))] [(.int (Int32.ofNat cs.length)), (.int (0 : Int32)), (.int (46 : Int32)), (.ref t1)])) _
    refine st106 _ ?_
    show Steps p.tables e below (T106.setTop (mkF m 20 #[.val (.ref s1), .val (.int (46 : Int32)), .val (.int (0 : Int32))] [(.int (IX cs))])) _
    refine XS.goto X106.here hx rfl (pc0 := 20) (pc' := 36) rfl (hb hby d9_20) (by decide) (by decide) ?_
    show Steps p.tables e below (T106.setTop (mkF m 36 #[.val (.ref s1), .val (.int (46 : Int32)), .val (.int (0 : Int32))] [(.int (IX cs))])) _
    exact Jvm.RoadKit.retOut X106 hx Bd.returns rfl (Or.inl ⟨rfl, by simp, _, rfl⟩) (hb hby d9_36) hr
  · show Q_ix0 Z s1 t1 k1 cs zc fm h0 n0 _ T106.heap _
    rw [e106]
    unfold Q_ix0
    exact ⟨rfl, N106, rfl⟩
theorem ef_ix1 (m : MethodId) (x0 : Addr) (x1 : Int32) (x2 : Int32) : entryFrame m #[(.ref x0), (.int x1), (.int x2)] 3 = mkF m 0 #[.val (.ref x0), .val (.int x1), .val (.int x2)] [] := by first | (simp [entryFrame, mkF, argsToLocals, Value.category]; done) | rfl
def Q_ix1 (Z : State) (s1 : Addr) (t1 : Addr) (k1 : ClassId) (cs : List Int32) (zc : Int32) (fm : Value) (h0 : Heap) (n0 : Nat) (v : Option Value) (h : Heap) (L : List Loc) : Prop := (v = some (.int (IX cs))) ∧ (Fr n0 L) ∧ (h = h0)
theorem d9_23 : decode jdk_42_method_80_code 23 = .ok (.aload_n 0, 1) := by decide +kernel
theorem d9_24 : decode jdk_42_method_80_code 24 = .ok (.getfield 9, 3) := by decide +kernel
theorem d9_27 : decode jdk_42_method_80_code 27 = .ok (.iload_n 1, 1) := by decide +kernel
theorem d9_28 : decode jdk_42_method_80_code 28 = .ok (.iload_n 2, 1) := by decide +kernel
theorem d9_29 : decode jdk_42_method_80_code 29 = .ok (.aload_n 0, 1) := by decide +kernel
theorem d9_30 : decode jdk_42_method_80_code 30 = .ok (.invokevirtual 505, 3) := by decide +kernel
theorem d9_33 : decode jdk_42_method_80_code 33 = .ok (.invokestatic 640, 3) := by decide +kernel
set_option maxRecDepth 65536 in
set_option maxHeartbeats 40000000 in
theorem ix1 (l : Launch) (Z : State) (a0 : Array Value) (hw : ∀ d ∈ tables_1, d.before a0 Z = true) (ws : List Jvm.Cond) (s1 : Addr) (t1 : Addr) (k1 : ClassId) (cs : List Int32) (zc : Int32) (fm : Value) (h0 : Heap) (n0 : Nat) (O0 : Old Z n0 h0) (E1 : Exa Z h0 s1 "java/lang/String") (V1 : Fld Z h0 s1 "java/lang/String" "value" "[B" (.ref t1)) (C1 : Fld Z h0 s1 "java/lang/String" "coder" "B" (.int (1 : Int32))) (AW : Arv Z h0 t1 k1 .byte (Int32.ofNat (2 * cs.length)) (wideBytes cs) (.int (0 : Int32))) (hc : CodA cs (1 : Int32) (Int32.ofNat (2 * cs.length)) (wideBytes cs)) (hs : cs.length ≤ 6) (hq : ∀ c ∈ cs, C16 c) (SZ : Sta Z Z.heap "java/lang/String" "COMPACT_STRINGS" "Z" (.int zc)) (PZ : ¬ (zc = (0 : Int32))) (SF : Sta Z Z.heap "jdk/internal/util/Preconditions" "SIOOBE_FORMATTER" "Ljava/util/function/BiFunction;" fm) (RF : fm.isRef = true) (SA : Sta Z Z.heap "java/lang/StringUTF16" "$assertionsDisabled" "Z" (.int (1 : Int32))) (SH : Sta Z Z.heap "java/lang/StringUTF16" "HI_BYTE_SHIFT" "I" (.int (0 : Int32))) (SL : Sta Z Z.heap "java/lang/StringUTF16" "LO_BYTE_SHIFT" "I" (.int (8 : Int32))) :
    MetFree l (⟨"java/lang/String", "indexOf", "(II)I"⟩ : MethodName) (head1 (Jvm.Cond.code (⟨"java/lang/String", "indexOf", "(II)I"⟩ : MethodName) jdk_42_method_80_code 3 (some .int) :: ws) ({ frames := 5, cells := 0, slots := 0, locals := 73 } : Room)) (fun a U => a = #[(.ref s1), (.int (46 : Int32)), (.int (0 : Int32))] ∧ Z.Warmed39 U.vm ∧ U.heap = h0) (fun _ _ _ _ _ => True) (fun _ U o U' => ∃ v L, o = .returned v ∧ Q_ix1 Z s1 t1 k1 cs zc fm h0 n0 v U'.heap L ∧ FrameEnd U o U' L ({ frames := 5, cells := 0, slots := 0, locals := 73 } : Room).cells ({ frames := 5, cells := 0, slots := 0, locals := 73 } : Room).slots) := by
  refine MetFree.of_bodySF (plainFor_of_name pn_2) hisR ?_
  intro p e s m args below meth c s₁ Bd hml0 hP hK
  obtain ⟨rfl, hZ, hh⟩ := hP
  have hx := Bd.exec
  have hby := Bd.bytes
  have hml : c.maxLocals = 3 := hml0
  have hown : s.vm.findClass "java/lang/String" = some m.cls := findClass_of_methodNamed Bd.named
  have hnm := (name_of_methodNamed Bd.named Bd.method).1
  have X0 : Stand p l e ({ frames := 5, cells := 0, slots := 0, locals := 73 } : Room) s m #[(.ref s1), (.int (46 : Int32)), (.int (0 : Int32))] below meth c s₁ [] 0 0 := Stand.of_body Bd
  have e0 : s₁.heap = h0 := by rw [← hh, Bd.state]; rfl
  have N0 := Fr.nil n0
  have Z0 : n0 ≤ h0.size := old_le O0
  have pre0 : ∀ t, Steps p.tables e below (s₁.setTop (mkF m 0 #[.val (.ref s1), .val (.int (46 : Int32)), .val (.int (0 : Int32))] [])) t → Steps p.tables e below (s₁.setTop (entryFrame m #[(.ref s1), (.int (46 : Int32)), (.int (0 : Int32))] 3)) t := fun t k => castTop (ef_ix1 m s1 (46 : Int32) (0 : Int32)) k
  obtain ⟨cq101, kq101, q101a, q101b, q101c⟩ := isOf hZ e0 E1
  obtain ⟨_, _, ⟨T101, L101, k101, n101⟩, -, X101, ⟨Lc101, hQ101, l101, y101, z101⟩, st101⟩ := X0.virtualBack hx (y := (⟨"java/lang/String", "isLatin1", "()Z"⟩ : MethodName)) (z := (⟨"java/lang/String", "isLatin1", "()Z"⟩ : MethodName)) hown (mvT hZ (hwk hw 48 rfl)) (mvT hZ (hwk hw 49 rfl)) (notFace_of_selects (args := #[]) (mvT hZ (hwk hw 51 rfl))) (mvT hZ (hwk hw 51 rfl)) (mvT hZ (hwk hw 50 rfl)) (by decide) (backOf (W := 0) (il1 l Z a0 hw [] s1 zc h0 n0 O0 C1 SZ PZ) hZ (hwk hw 52 rfl) (hwk hw 8 rfl) (by decide) (by decide)) q101a q101c (g := (mkF m 1 #[.val (.ref s1), .val (.int (46 : Int32)), .val (.int (0 : Int32))] [(.ref s1)])) rfl (by rw [hml]; rfl) (Steps.refl _) (argsL := []) (rest := []) (lenOf pd_5 rfl) rfl (by show 2 * 0 + _ ≤ _; exact Nat.le_of_eq rfl) (hb hby d9_1) (fun _ _ => ⟨rfl, e0, (by decide : 0 + 0 ≤ _), (by decide : 0 + 0 ≤ _)⟩)
  dsimp only [Pt.U, Pt.locs, Pt.cells, Pt.slots] at X101 l101 y101 z101 st101 hQ101
  subst l101 y101 z101
  unfold Q_il1 at hQ101
  obtain ⟨rfl, N101q, e101⟩ := hQ101
  have N101 := Fr.app N0 N101q
  obtain ⟨T102, X102, e102, st102⟩ := getF X101 hx hZ hown (host := "") (Or.inl (hwk hw 26 rfl)) Via.refl e101 V1 (g := (mkF m 24 #[.val (.ref s1), .val (.int (46 : Int32)), .val (.int (0 : Int32))] [(.ref s1)])) rfl rfl (hb hby d9_24)
  have hws103 : ∀ d ∈ StrChars.Road.wordsLen, d.before a0 Z = true := fun d hd => hw d ((by decide +kernel : ∀ d ∈ StrChars.Road.wordsLen, d ∈ tables_1) d hd)
  have c104 : Sta Z h0 "java/lang/String" "COMPACT_STRINGS" "Z" (.int zc) := Sta.ext (O0).2 SZ
  obtain ⟨cq105, kq105, q105a, q105b, q105c⟩ := isOf hZ e102 E1
  obtain ⟨_, _, ⟨T105, L105, k105, n105⟩, -, X105, ⟨Lc105, hQ105, l105, y105, z105⟩, st105⟩ := X102.virtualBack hx (y := (⟨"java/lang/String", "length", "()I"⟩ : MethodName)) (z := (⟨"java/lang/String", "length", "()I"⟩ : MethodName)) hown (mvT hZ (hwk hw 54 rfl)) (mvT hZ (hwk hw 55 rfl)) (notFace_of_selects (args := #[]) (mvT hZ (hwk hw 57 rfl))) (mvT hZ (hwk hw 57 rfl)) (mvT hZ (hwk hw 56 rfl)) (by decide) (StrChars.Road.lenW (W := 3) hZ hws103 (kI := 4) (hwk hw 7 rfl) E1 V1 C1 AW hc hq c104 PZ (by omega) (by decide) (by decide)) q105a q105c (g := (mkF m 30 #[.val (.ref s1), .val (.int (46 : Int32)), .val (.int (0 : Int32))] [(.ref s1), (.int (0 : Int32)), (.int (46 : Int32)), (.ref t1)])) rfl (by rw [hml]; rfl) (Steps.refl _) (argsL := []) (rest := [(.int (0 : Int32)), (.int (46 : Int32)), (.ref t1)]) (lenOf pd_12 rfl) rfl (by show 2 * 0 + _ ≤ _; exact Nat.le_of_eq rfl) (hb hby d9_30) (fun _ _ => ⟨rfl, e102, (by decide : 0 + 0 ≤ _), (by decide : 0 + 0 ≤ _)⟩)
  dsimp only [Pt.U, Pt.locs, Pt.cells, Pt.slots] at X105 l105 y105 z105 st105 hQ105
  subst l105 y105 z105
  obtain ⟨hv105, hl105, e105⟩ := hQ105
  cases hv105
  have N105 := Fr.app N101 (own_frnil hl105)
  obtain ⟨_, _, ⟨T106, L106, k106, n106⟩, -, X106, ⟨Lc106, hQ106, l106, y106, z106⟩, st106⟩ := Jvm.LawKit.callS X105 hx (y := (⟨"java/lang/StringUTF16", "indexOf", "([BIII)I"⟩ : MethodName)) hown (mvT hZ (hwk hw 133 rfl)) (mvT hZ (hwk hw 134 rfl)) (mvT hZ (hwk hw 84 rfl)) (mvT hZ (hwk hw 135 rfl)) (by decide) (backOf (W := 0) (rm32 l Z a0 hw [] t1 k1 cs fm h0 n0 O0 AW hs hq SF RF SA SH SL) hZ (hwk hw 135 rfl) (hwk hw 84 rfl) (by decide) (by decide)) (g := (mkF m 33 #[.val (.ref s1), .val (.int (46 : Int32)), .val (.int (0 : Int32))] [(.int (Int32.ofNat cs.length)), (.int (0 : Int32)), (.int (46 : Int32)), (.ref t1)])) rfl (by rw [hml]; rfl) (argsL := [(.ref t1), (.int (46 : Int32)), (.int (0 : Int32)), (.int (Int32.ofNat cs.length))]) (rest := []) (lenOf pd_8 rfl) rfl (by show 2 * 0 + _ ≤ _; exact Nat.le_of_eq rfl) (hb hby d9_33) (fun _ _ => ⟨rfl, e105, (by decide : 0 + 0 ≤ _), (by decide : 0 + 0 ≤ _)⟩)
  dsimp only [Pt.U, Pt.locs, Pt.cells, Pt.slots] at X106 l106 y106 z106 st106 hQ106
  subst l106 y106 z106
  unfold Q_rm32 at hQ106
  obtain ⟨rfl, N106q, e106⟩ := hQ106
  have N106 := Fr.app N105 N106q
  obtain ⟨fs, hr, hrun, hended, hW, hsame⟩ := X106.leave (v := some (.int (IX cs))) (fun h => by rw [Bd.returns] at h; cases h)
  refine ⟨_, _, pre0 _ ?_, hrun, hended, _, _, rfl, ?_, ⟨_, rfl⟩, hW, hsame.mono (by decide) (by decide)⟩
  · show Steps p.tables e below (s₁.setTop (mkF m 0 #[.val (.ref s1), .val (.int (46 : Int32)), .val (.int (0 : Int32))] [])) _
    refine XS.aloadN X0.here hx rfl (hb hby d9_0) rfl rfl ?_
    show Steps p.tables e below (s₁.setTop (mkF m 1 #[.val (.ref s1), .val (.int (46 : Int32)), .val (.int (0 : Int32))] [(.ref s1)])) _
    refine st101.trans ?_
    show Steps p.tables e below (T101.setTop (mkF m 4 #[.val (.ref s1), .val (.int (46 : Int32)), .val (.int (0 : Int32))] [(.int (0 : Int32))])) _
    refine XS.ifYes X101.here hx rfl (pc0 := 4) (pc' := 23) rfl (hb hby d9_4) rfl ((if0 _ _).trans (teq (by decide : (0 : Int32) = (0 : Int32))).1) (by decide) (by decide) ?_
    show Steps p.tables e below (T101.setTop (mkF m 23 #[.val (.ref s1), .val (.int (46 : Int32)), .val (.int (0 : Int32))] [])) _
    refine XS.aloadN X101.here hx rfl (hb hby d9_23) rfl rfl ?_
    show Steps p.tables e below (T101.setTop (mkF m 24 #[.val (.ref s1), .val (.int (46 : Int32)), .val (.int (0 : Int32))] [(.ref s1)])) _
    refine st102 _ ?_
    show Steps p.tables e below (T102.setTop (mkF m 27 #[.val (.ref s1), .val (.int (46 : Int32)), .val (.int (0 : Int32))] [(.ref t1)])) _
    refine XS.iloadN X102.here hx rfl (hb hby d9_27) rfl ?_
    refine XS.iloadN X102.here hx rfl (hb hby d9_28) rfl ?_
    refine XS.aloadN X102.here hx rfl (hb hby d9_29) rfl rfl ?_
    show Steps p.tables e below (T102.setTop (mkF m 30 #[.val (.ref s1), .val (.int (46 : Int32)), .val (.int (0 : Int32))] [(.ref s1), (.int (0 : Int32)), (.int (46 : Int32)), (.ref t1)])) _
    refine st105.trans ?_
    show Steps p.tables e below (T105.setTop (mkF m 33 #[.val (.ref s1), .val (.int (46 : Int32)), .val (.int (0 : Int32))] [(.int (Int32.ofNat cs.length)), (.int (0 : Int32)), (.int (46 : Int32)), (.ref t1)])) _
    refine st106 _ ?_
    show Steps p.tables e below (T106.setTop (mkF m 36 #[.val (.ref s1), .val (.int (46 : Int32)), .val (.int (0 : Int32))] [(.int (IX cs))])) _
    exact Jvm.RoadKit.retOut X106 hx Bd.returns rfl (Or.inl ⟨rfl, by simp, _, rfl⟩) (hb hby d9_36) hr
  · show Q_ix1 Z s1 t1 k1 cs zc fm h0 n0 _ T106.heap _
    rw [e106]
    unfold Q_ix1
    exact ⟨rfl, N106, rfl⟩
theorem ef_rm9 (m : MethodId) (x0 : Addr) (x1 : Int32) (x2 : Int32) : entryFrame m #[(.ref x0), (.int x1), (.int x2)] 3 = mkF m 0 #[.val (.ref x0), .val (.int x1), .val (.int x2)] [] := by first | (simp [entryFrame, mkF, argsToLocals, Value.category]; done) | rfl
def Q_rm9 (Z : State) (s1 : Addr) (t1 : Addr) (k1 : ClassId) (cd : Int32) (N1 : Int32) (vs1 : List Value) (cs : List Int32) (zc : Int32) (fm : Value) (h0 : Heap) (n0 : Nat) (v : Option Value) (h : Heap) (L : List Loc) : Prop := (v = some (.int (IX cs))) ∧ (Fr n0 L) ∧ (h = h0)
set_option maxRecDepth 65536 in
set_option maxHeartbeats 40000000 in
theorem rm9 (l : Launch) (Z : State) (a0 : Array Value) (hw : ∀ d ∈ tables_1, d.before a0 Z = true) (ws : List Jvm.Cond) (s1 : Addr) (t1 : Addr) (k1 : ClassId) (cd : Int32) (N1 : Int32) (vs1 : List Value) (cs : List Int32) (zc : Int32) (fm : Value) (h0 : Heap) (n0 : Nat) (O0 : Old Z n0 h0) (E1 : Exa Z h0 s1 "java/lang/String") (V1 : Fld Z h0 s1 "java/lang/String" "value" "[B" (.ref t1)) (C1 : Fld Z h0 s1 "java/lang/String" "coder" "B" (.int cd)) (A1 : Arv Z h0 t1 k1 .byte N1 vs1 (.int (0 : Int32))) (hc : CodA cs cd N1 vs1) (hs : cs.length ≤ 6) (hq : ∀ c ∈ cs, C16 c) (SZ : Sta Z Z.heap "java/lang/String" "COMPACT_STRINGS" "Z" (.int zc)) (PZ : ¬ (zc = (0 : Int32))) (SF : Sta Z Z.heap "jdk/internal/util/Preconditions" "SIOOBE_FORMATTER" "Ljava/util/function/BiFunction;" fm) (RF : fm.isRef = true) (SA : Sta Z Z.heap "java/lang/StringUTF16" "$assertionsDisabled" "Z" (.int (1 : Int32))) (SH : Sta Z Z.heap "java/lang/StringUTF16" "HI_BYTE_SHIFT" "I" (.int (0 : Int32))) (SL : Sta Z Z.heap "java/lang/StringUTF16" "LO_BYTE_SHIFT" "I" (.int (8 : Int32))) :
    MetFree l (⟨"java/lang/String", "indexOf", "(II)I"⟩ : MethodName) (head1 (Jvm.Cond.code (⟨"java/lang/String", "indexOf", "(II)I"⟩ : MethodName) jdk_42_method_80_code 3 (some .int) :: ws) ({ frames := 5, cells := 0, slots := 0, locals := 73 } : Room)) (fun a U => a = #[(.ref s1), (.int (46 : Int32)), (.int (0 : Int32))] ∧ Z.Warmed39 U.vm ∧ U.heap = h0) (fun _ _ _ _ _ => True) (fun _ U o U' => ∃ v L, o = .returned v ∧ Q_rm9 Z s1 t1 k1 cd N1 vs1 cs zc fm h0 n0 v U'.heap L ∧ FrameEnd U o U' L ({ frames := 5, cells := 0, slots := 0, locals := 73 } : Room).cells ({ frames := 5, cells := 0, slots := 0, locals := 73 } : Room).slots) := by
  have hc' := hc
  rcases hc with ⟨rfl, rfl, rfl, hl⟩ | ⟨rfl, rfl, rfl, -⟩
  · exact ix0 l Z a0 hw ws s1 t1 k1 cs zc fm h0 n0 O0 E1 V1 C1 A1 hc' hs hq hl SZ PZ SF RF SA SH SL
  · exact ix1 l Z a0 hw ws s1 t1 k1 cs zc fm h0 n0 O0 E1 V1 C1 A1 hc' hs hq SZ PZ SF RF SA SH SL
theorem ef_rm8 (m : MethodId) (x0 : Addr) (x1 : Int32) : entryFrame m #[(.ref x0), (.int x1)] 2 = mkF m 0 #[.val (.ref x0), .val (.int x1)] [] := by first | (simp [entryFrame, mkF, argsToLocals, Value.category]; done) | rfl
def Q_rm8 (Z : State) (s1 : Addr) (t1 : Addr) (k1 : ClassId) (cd : Int32) (N1 : Int32) (vs1 : List Value) (cs : List Int32) (zc : Int32) (fm : Value) (h0 : Heap) (n0 : Nat) (v : Option Value) (h : Heap) (L : List Loc) : Prop := (v = some (.int (IX cs))) ∧ (Fr n0 L) ∧ (h = h0)
theorem d8_0 : decode jdk_42_method_79_code 0 = .ok (.aload_n 0, 1) := by decide +kernel
theorem d8_1 : decode jdk_42_method_79_code 1 = .ok (.iload_n 1, 1) := by decide +kernel
theorem d8_2 : decode jdk_42_method_79_code 2 = .ok (.iconst 0, 1) := by decide +kernel
theorem d8_3 : decode jdk_42_method_79_code 3 = .ok (.invokevirtual 633, 3) := by decide +kernel
theorem d8_6 : decode jdk_42_method_79_code 6 = .ok (.ireturn, 1) := by decide +kernel
set_option maxRecDepth 65536 in
set_option maxHeartbeats 40000000 in
theorem rm8 (l : Launch) (Z : State) (a0 : Array Value) (hw : ∀ d ∈ tables_1, d.before a0 Z = true) (ws : List Jvm.Cond) (s1 : Addr) (t1 : Addr) (k1 : ClassId) (cd : Int32) (N1 : Int32) (vs1 : List Value) (cs : List Int32) (zc : Int32) (fm : Value) (h0 : Heap) (n0 : Nat) (O0 : Old Z n0 h0) (E1 : Exa Z h0 s1 "java/lang/String") (V1 : Fld Z h0 s1 "java/lang/String" "value" "[B" (.ref t1)) (C1 : Fld Z h0 s1 "java/lang/String" "coder" "B" (.int cd)) (A1 : Arv Z h0 t1 k1 .byte N1 vs1 (.int (0 : Int32))) (hc : CodA cs cd N1 vs1) (hs : cs.length ≤ 6) (hq : ∀ c ∈ cs, C16 c) (SZ : Sta Z Z.heap "java/lang/String" "COMPACT_STRINGS" "Z" (.int zc)) (PZ : ¬ (zc = (0 : Int32))) (SF : Sta Z Z.heap "jdk/internal/util/Preconditions" "SIOOBE_FORMATTER" "Ljava/util/function/BiFunction;" fm) (RF : fm.isRef = true) (SA : Sta Z Z.heap "java/lang/StringUTF16" "$assertionsDisabled" "Z" (.int (1 : Int32))) (SH : Sta Z Z.heap "java/lang/StringUTF16" "HI_BYTE_SHIFT" "I" (.int (0 : Int32))) (SL : Sta Z Z.heap "java/lang/StringUTF16" "LO_BYTE_SHIFT" "I" (.int (8 : Int32))) :
    MetFree l (⟨"java/lang/String", "indexOf", "(I)I"⟩ : MethodName) (head1 (Jvm.Cond.code (⟨"java/lang/String", "indexOf", "(I)I"⟩ : MethodName) jdk_42_method_79_code 2 (some .int) :: ws) ({ frames := 6, cells := 0, slots := 0, locals := 87 } : Room)) (fun a U => a = #[(.ref s1), (.int (46 : Int32))] ∧ Z.Warmed39 U.vm ∧ U.heap = h0) (fun _ _ _ _ _ => True) (fun _ U o U' => ∃ v L, o = .returned v ∧ Q_rm8 Z s1 t1 k1 cd N1 vs1 cs zc fm h0 n0 v U'.heap L ∧ FrameEnd U o U' L ({ frames := 6, cells := 0, slots := 0, locals := 87 } : Room).cells ({ frames := 6, cells := 0, slots := 0, locals := 87 } : Room).slots) := by
  refine MetFree.of_bodySF (plainFor_of_name pn_2) hisR ?_
  intro p e s m args below meth c s₁ Bd hml0 hP hK
  obtain ⟨rfl, hZ, hh⟩ := hP
  have hx := Bd.exec
  have hby := Bd.bytes
  have hml : c.maxLocals = 2 := hml0
  have hown : s.vm.findClass "java/lang/String" = some m.cls := findClass_of_methodNamed Bd.named
  have hnm := (name_of_methodNamed Bd.named Bd.method).1
  have X0 : Stand p l e ({ frames := 6, cells := 0, slots := 0, locals := 87 } : Room) s m #[(.ref s1), (.int (46 : Int32))] below meth c s₁ [] 0 0 := Stand.of_body Bd
  have e0 : s₁.heap = h0 := by rw [← hh, Bd.state]; rfl
  have N0 := Fr.nil n0
  have Z0 : n0 ≤ h0.size := old_le O0
  have pre0 : ∀ t, Steps p.tables e below (s₁.setTop (mkF m 0 #[.val (.ref s1), .val (.int (46 : Int32))] [])) t → Steps p.tables e below (s₁.setTop (entryFrame m #[(.ref s1), (.int (46 : Int32))] 2)) t := fun t k => castTop (ef_rm8 m s1 (46 : Int32)) k
  obtain ⟨cq101, kq101, q101a, q101b, q101c⟩ := isOf hZ e0 E1
  obtain ⟨_, _, ⟨T101, L101, k101, n101⟩, -, X101, ⟨Lc101, hQ101, l101, y101, z101⟩, st101⟩ := X0.virtualBack hx (y := (⟨"java/lang/String", "indexOf", "(II)I"⟩ : MethodName)) (z := (⟨"java/lang/String", "indexOf", "(II)I"⟩ : MethodName)) hown (mvT hZ (hwk hw 43 rfl)) (mvT hZ (hwk hw 44 rfl)) (notFace_of_selects (args := #[]) (mvT hZ (hwk hw 46 rfl))) (mvT hZ (hwk hw 46 rfl)) (mvT hZ (hwk hw 45 rfl)) (by decide) (backOf (W := 0) (rm9 l Z a0 hw [] s1 t1 k1 cd N1 vs1 cs zc fm h0 n0 O0 E1 V1 C1 A1 hc hs hq SZ PZ SF RF SA SH SL) hZ (hwk hw 47 rfl) (hwk hw 8 rfl) (by decide) (by decide)) q101a q101c (g := (mkF m 3 #[.val (.ref s1), .val (.int (46 : Int32))] [(.int (0 : Int32)), (.int (46 : Int32)), (.ref s1)])) rfl (by rw [hml]; rfl) (Steps.refl _) (argsL := [(.int (46 : Int32)), (.int (0 : Int32))]) (rest := []) (lenOf pd_7 rfl) rfl (by show 2 * 0 + _ ≤ _; exact Nat.le_of_eq rfl) (hb hby d8_3) (fun _ _ => ⟨rfl, e0, (by decide : 0 + 0 ≤ _), (by decide : 0 + 0 ≤ _)⟩)
  dsimp only [Pt.U, Pt.locs, Pt.cells, Pt.slots] at X101 l101 y101 z101 st101 hQ101
  subst l101 y101 z101
  unfold Q_rm9 at hQ101
  obtain ⟨rfl, N101q, e101⟩ := hQ101
  have N101 := Fr.app N0 N101q
  obtain ⟨fs, hr, hrun, hended, hW, hsame⟩ := X101.leave (v := some (.int (IX cs))) (fun h => by rw [Bd.returns] at h; cases h)
  refine ⟨_, _, pre0 _ ?_, hrun, hended, _, _, rfl, ?_, ⟨_, rfl⟩, hW, hsame.mono (by decide) (by decide)⟩
  · show Steps p.tables e below (s₁.setTop (mkF m 0 #[.val (.ref s1), .val (.int (46 : Int32))] [])) _
    refine XS.aloadN X0.here hx rfl (hb hby d8_0) rfl rfl ?_
    refine XS.iloadN X0.here hx rfl (hb hby d8_1) rfl ?_
    refine XS.iconst X0.here hx rfl (hb hby d8_2) ?_
    show Steps p.tables e below (s₁.setTop (mkF m 3 #[.val (.ref s1), .val (.int (46 : Int32))] [(.int (0 : Int32)), (.int (46 : Int32)), (.ref s1)])) _
    refine st101.trans ?_
    show Steps p.tables e below (T101.setTop (mkF m 6 #[.val (.ref s1), .val (.int (46 : Int32))] [(.int (IX cs))])) _
    exact Jvm.RoadKit.retOut X101 hx Bd.returns rfl (Or.inl ⟨rfl, by simp, _, rfl⟩) (hb hby d8_6) hr
  · show Q_rm8 Z s1 t1 k1 cd N1 vs1 cs zc fm h0 n0 _ T101.heap _
    rw [e101]
    unfold Q_rm8
    exact ⟨rfl, N101, rfl⟩
def AD (cs : List Int32) (a b : Nat) : Int32 := if a < b ∧ ∀ m, m < b → a ≤ m → (¬ cs.getD m 0 < (48 : Int32) ∧ ¬ (57 : Int32) < cs.getD m 0) then 1 else 0
theorem own_ad0 {cs : List Int32} {a b : Nat} (h : ¬ a < b) : AD cs a b = 0 := by unfold AD; rw [if_neg (fun q => h q.1)]
theorem own_adl {cs : List Int32} {a b j : Nat} (hj : j < b) (ha : a ≤ j) (h : cs.getD j 0 < (48 : Int32)) : AD cs a b = 0 := by unfold AD; rw [if_neg (fun q => (q.2 j hj ha).1 h)]
theorem own_adg {cs : List Int32} {a b j : Nat} (hj : j < b) (ha : a ≤ j) (h : (57 : Int32) < cs.getD j 0) : AD cs a b = 0 := by unfold AD; rw [if_neg (fun q => (q.2 j hj ha).2 h)]
theorem own_ad1 {cs : List Int32} {a b : Nat} (h : a < b) (q : ∀ m, m < b → a ≤ m → (¬ cs.getD m 0 < (48 : Int32) ∧ ¬ (57 : Int32) < cs.getD m 0)) : AD cs a b = 1 := by unfold AD; rw [if_pos ⟨h, q⟩]
theorem own_adb (cs : List Int32) (a b : Nat) : narrow .boolean (.int (AD cs a b)) = (.int (AD cs a b)) := by unfold AD; split <;> rfl
theorem own_stepd {P : Nat → Prop} {a j : Nat} (h : ∀ m, m < j → a ≤ m → P m) (q : P j) : ∀ m, m < j + 1 → a ≤ m → P m := fun m hm ha => by
  by_cases e : m = j
  · subst e; exact q
  · exact h m (by omega) ha
theorem own_alld {P : Nat → Prop} {a b j : Nat} (h : ∀ m, m < j → a ≤ m → P m) (hj : j ≤ b) (hb : b < 16) (q : ¬ Int32.ofNat j < Int32.ofNat b) : ∀ m, m < b → a ≤ m → P m := fun m hm => h m (by
  have t : ¬ j < b := fun r => q ((own_lt (by omega) hb).mpr r)
  omega)
def PD (cs : List Int32) : Int32 := if IX cs < 0 then AD cs 0 cs.length else if AD cs 0 (IX cs).toNatClampNeg = 0 then 0 else if AD cs ((IX cs).toNatClampNeg + 1) cs.length = 0 then 0 else 1
theorem own_ixp (cs : List Int32) (h : ¬ IX cs < (0 : Int32)) : ∃ p, p < cs.length ∧ IX cs = Int32.ofNat p := by
  rcases own_ix_c cs with ⟨e, -⟩ | ⟨p, hp, e, -⟩
  · rw [e] at h; exact absurd (by decide) h
  · exact ⟨p, hp, e⟩
theorem ef_rm17 (m : MethodId) (x0 : Addr) (x1 : Int32) (x2 : Int32) : entryFrame m #[(.ref x0), (.int x1), (.int x2)] 5 = mkF m 0 #[.val (.ref x0), .val (.int x1), .val (.int x2), .unset, .unset] [] := by first | (simp [entryFrame, mkF, argsToLocals, Value.category]; done) | rfl
def Q_rm17 (Z : State) (la : Nat) (lb : Nat) (s1 : Addr) (t1 : Addr) (k1 : ClassId) (cd : Int32) (N1 : Int32) (vs1 : List Value) (cs : List Int32) (zc : Int32) (fm : Value) (h0 : Heap) (n0 : Nat) (v : Option Value) (h : Heap) (L : List Loc) : Prop := (v = some (.int (AD cs la lb))) ∧ (Fr n0 L) ∧ (h = h0)
theorem pn_4 : plainName "com/example/vestwright/vestwright/InputText" = true := by first | (simp [plainName, overriddenIn]; done) | decide +kernel
theorem d17_0 : decode prog_12_method_15_code 0 = .ok (.iload_n 1, 1) := by decide +kernel
theorem d17_1 : decode prog_12_method_15_code 1 = .ok (.iload_n 2, 1) := by decide +kernel
theorem d17_2 : decode prog_12_method_15_code 2 = .ok (.if_icmp .lt 5, 3) := by decide +kernel
theorem d17_7 : decode prog_12_method_15_code 7 = .ok (.iload_n 1, 1) := by decide +kernel
theorem d17_8 : decode prog_12_method_15_code 8 = .ok (.istore_n 3, 1) := by decide +kernel
theorem d17_9 : decode prog_12_method_15_code 9 = .ok (.iload_n 3, 1) := by decide +kernel
theorem d17_10 : decode prog_12_method_15_code 10 = .ok (.iload_n 2, 1) := by decide +kernel
theorem d17_11 : decode prog_12_method_15_code 11 = .ok (.if_icmp .ge 32, 3) := by decide +kernel
theorem d17_14 : decode prog_12_method_15_code 14 = .ok (.aload_n 0, 1) := by decide +kernel
theorem d17_15 : decode prog_12_method_15_code 15 = .ok (.iload_n 3, 1) := by decide +kernel
theorem d17_16 : decode prog_12_method_15_code 16 = .ok (.invokevirtual 99, 3) := by decide +kernel
theorem pd_13 : parseMethodDescriptor "(I)C" = some ⟨[.int], some .char⟩ := by decide +kernel
theorem d17_19 : decode prog_12_method_15_code 19 = .ok (.istore 4, 2) := by decide +kernel
theorem d17_21 : decode prog_12_method_15_code 21 = .ok (.iload 4, 2) := by decide +kernel
theorem d17_23 : decode prog_12_method_15_code 23 = .ok (.bipush 48, 2) := by decide +kernel
theorem d17_25 : decode prog_12_method_15_code 25 = .ok (.if_icmp .lt 10, 3) := by decide +kernel
theorem d17_35 : decode prog_12_method_15_code 35 = .ok (.iconst 0, 1) := by decide +kernel
theorem d17_36 : decode prog_12_method_15_code 36 = .ok (.ireturn, 1) := by decide +kernel
theorem d17_28 : decode prog_12_method_15_code 28 = .ok (.iload 4, 2) := by decide +kernel
theorem d17_30 : decode prog_12_method_15_code 30 = .ok (.bipush 57, 2) := by decide +kernel
theorem d17_32 : decode prog_12_method_15_code 32 = .ok (.if_icmp .le 5, 3) := by decide +kernel
theorem d17_37 : decode prog_12_method_15_code 37 = .ok (.iinc 3 1, 3) := by decide +kernel
theorem d17_40 : decode prog_12_method_15_code 40 = .ok (.goto (-31), 3) := by decide +kernel
theorem d17_43 : decode prog_12_method_15_code 43 = .ok (.iconst 1, 1) := by decide +kernel
theorem d17_44 : decode prog_12_method_15_code 44 = .ok (.ireturn, 1) := by decide +kernel
theorem d17_5 : decode prog_12_method_15_code 5 = .ok (.iconst 0, 1) := by decide +kernel
theorem d17_6 : decode prog_12_method_15_code 6 = .ok (.ireturn, 1) := by decide +kernel
set_option maxRecDepth 65536 in
set_option maxHeartbeats 40000000 in
theorem rm17 (l : Launch) (Z : State) (a0 : Array Value) (hw : ∀ d ∈ tables_1, d.before a0 Z = true) (ws : List Jvm.Cond) (la : Nat) (lb : Nat) (s1 : Addr) (t1 : Addr) (k1 : ClassId) (cd : Int32) (N1 : Int32) (vs1 : List Value) (cs : List Int32) (zc : Int32) (fm : Value) (h0 : Heap) (n0 : Nat) (O0 : Old Z n0 h0) (E1 : Exa Z h0 s1 "java/lang/String") (V1 : Fld Z h0 s1 "java/lang/String" "value" "[B" (.ref t1)) (C1 : Fld Z h0 s1 "java/lang/String" "coder" "B" (.int cd)) (A1 : Arv Z h0 t1 k1 .byte N1 vs1 (.int (0 : Int32))) (hc : CodA cs cd N1 vs1) (hs : cs.length ≤ 6) (hq : ∀ c ∈ cs, C16 c) (hbl : lb ≤ cs.length) (hal : la ≤ cs.length) (SZ : Sta Z Z.heap "java/lang/String" "COMPACT_STRINGS" "Z" (.int zc)) (PZ : ¬ (zc = (0 : Int32))) (SF : Sta Z Z.heap "jdk/internal/util/Preconditions" "SIOOBE_FORMATTER" "Ljava/util/function/BiFunction;" fm) (RF : fm.isRef = true) (SA : Sta Z Z.heap "java/lang/StringUTF16" "$assertionsDisabled" "Z" (.int (1 : Int32))) (SH : Sta Z Z.heap "java/lang/StringUTF16" "HI_BYTE_SHIFT" "I" (.int (0 : Int32))) (SL : Sta Z Z.heap "java/lang/StringUTF16" "LO_BYTE_SHIFT" "I" (.int (8 : Int32))) :
    MetFree l (⟨"com/example/vestwright/vestwright/InputText", "allDigits", "(Ljava/lang/String;II)Z"⟩ : MethodName) (head1 (Jvm.Cond.code (⟨"com/example/vestwright/vestwright/InputText", "allDigits", "(Ljava/lang/String;II)Z"⟩ : MethodName) prog_12_method_15_code 5 (some .boolean) :: ws) ({ frames := 5, cells := 0, slots := 0, locals := 66 } : Room)) (fun a U => a = #[(.ref s1), (.int (Int32.ofNat la)), (.int (Int32.ofNat lb))] ∧ Z.Warmed39 U.vm ∧ U.heap = h0) (fun _ _ _ _ _ => True) (fun _ U o U' => ∃ v L, o = .returned v ∧ Q_rm17 Z la lb s1 t1 k1 cd N1 vs1 cs zc fm h0 n0 v U'.heap L ∧ FrameEnd U o U' L ({ frames := 5, cells := 0, slots := 0, locals := 66 } : Room).cells ({ frames := 5, cells := 0, slots := 0, locals := 66 } : Room).slots) := by
  refine MetFree.of_bodySF (plainFor_of_name pn_4) hisR ?_
  intro p e s m args below meth c s₁ Bd hml0 hP hK
  obtain ⟨rfl, hZ, hh⟩ := hP
  have hx := Bd.exec
  have hby := Bd.bytes
  have hml : c.maxLocals = 5 := hml0
  have hown : s.vm.findClass "com/example/vestwright/vestwright/InputText" = some m.cls := findClass_of_methodNamed Bd.named
  have hnm := (name_of_methodNamed Bd.named Bd.method).1
  have X0 : Stand p l e ({ frames := 5, cells := 0, slots := 0, locals := 66 } : Room) s m #[(.ref s1), (.int (Int32.ofNat la)), (.int (Int32.ofNat lb))] below meth c s₁ [] 0 0 := Stand.of_body Bd
  have e0 : s₁.heap = h0 := by rw [← hh, Bd.state]; rfl
  have N0 := Fr.nil n0
  have Z0 : n0 ≤ h0.size := old_le O0
  have pre0 : ∀ t, Steps p.tables e below (s₁.setTop (mkF m 0 #[.val (.ref s1), .val (.int (Int32.ofNat la)), .val (.int (Int32.ofNat lb)), .unset, .unset] [])) t → Steps p.tables e below (s₁.setTop (entryFrame m #[(.ref s1), (.int (Int32.ofNat la)), (.int (Int32.ofNat lb))] 5)) t := fun t k => castTop (ef_rm17 m s1 (Int32.ofNat la) (Int32.ofNat lb)) k
  have S102 : ∀ t, Steps p.tables e below (s₁.setTop (mkF m 2 #[.val (.ref s1), .val (.int (Int32.ofNat la)), .val (.int (Int32.ofNat lb)), .unset, .unset] [(.int (Int32.ofNat lb)), (.int (Int32.ofNat la))])) t → Steps p.tables e below (s₁.setTop (entryFrame m #[(.ref s1), (.int (Int32.ofNat la)), (.int (Int32.ofNat lb))] 5)) t := fun t k => by
    refine pre0 t ?_
    show Steps p.tables e below (s₁.setTop (mkF m 0 #[.val (.ref s1), .val (.int (Int32.ofNat la)), .val (.int (Int32.ofNat lb)), .unset, .unset] [])) _
    refine XS.iloadN X0.here hx rfl (hb hby d17_0) rfl ?_
    refine XS.iloadN X0.here hx rfl (hb hby d17_1) rfl ?_
    exact k
  by_cases hc101 : (Int32.ofNat la) < (Int32.ofNat lb)
  · have hab : la < lb := (own_lt (by omega) (by omega)).mp hc101
    have S103 : ∀ t, Steps p.tables e below (s₁.setTop (mkF m 9 #[.val (.ref s1), .val (.int (Int32.ofNat la)), .val (.int (Int32.ofNat lb)), .val (.int (Int32.ofNat la)), .unset] [])) t → Steps p.tables e below (s₁.setTop (entryFrame m #[(.ref s1), (.int (Int32.ofNat la)), (.int (Int32.ofNat lb))] 5)) t := fun t k => by
      refine S102 t ?_
      show Steps p.tables e below (s₁.setTop (mkF m 2 #[.val (.ref s1), .val (.int (Int32.ofNat la)), .val (.int (Int32.ofNat lb)), .unset, .unset] [(.int (Int32.ofNat lb)), (.int (Int32.ofNat la))])) _
      refine XS.icmpYes X0.here hx rfl (pc0 := 2) (pc' := 7) rfl (hb hby d17_2) rfl (tlt hc101).1 (by decide) (by decide) ?_
      show Steps p.tables e below (s₁.setTop (mkF m 7 #[.val (.ref s1), .val (.int (Int32.ofNat la)), .val (.int (Int32.ofNat lb)), .unset, .unset] [])) _
      refine XS.iloadN X0.here hx rfl (hb hby d17_7) rfl ?_
      refine XS.istoreN X0.here hx rfl (hb hby d17_8) rfl (l' := #[.val (.ref s1), .val (.int (Int32.ofNat la)), .val (.int (Int32.ofNat lb)), .val (.int (Int32.ofNat la)), .unset]) rfl ?_
      exact k
    refine (?lp104 : ∀ (k : Nat) (j : Nat) (z : Slot) (T : State) (L : List Loc), Stand p l e ({ frames := 5, cells := 0, slots := 0, locals := 66 } : Room) s m #[(.ref s1), (.int (Int32.ofNat la)), (.int (Int32.ofNat lb))] below meth c T L 0 0 → T.heap = h0 → Fr n0 L → (∀ t, Steps p.tables e below (T.setTop (mkF m 9 #[.val (.ref s1), .val (.int (Int32.ofNat la)), .val (.int (Int32.ofNat lb)), .val (.int (Int32.ofNat j)), z] [])) t → Steps p.tables e below (s₁.setTop (entryFrame m #[(.ref s1), (.int (Int32.ofNat la)), (.int (Int32.ofNat lb))] 5)) t) → (la ≤ j) → (j ≤ lb) → (∀ m, m < j → la ≤ m → (¬ cs.getD m 0 < (48 : Int32) ∧ ¬ (57 : Int32) < cs.getD m 0)) → (z = Slot.unset ∨ ∃ w, z = Slot.val w ∧ w.category = 1) → (lb - j) = k → _) _ (la) (Slot.unset) s₁ _ X0 e0 N0 S103 (Nat.le_refl la) (Nat.le_of_lt hab) (fun m h1 h2 => absurd h2 (by omega)) (Or.inl rfl) rfl
    intro k
    induction k using Nat.strongRecOn with
    | _ k ihlp104 =>
      intro j z Tlp104 Llp104 Xlp104 elp104 Nlp104 Slp104 ija ijb idg hz hklp104
      have S106 : ∀ t, Steps p.tables e below (Tlp104.setTop (mkF m 11 #[.val (.ref s1), .val (.int (Int32.ofNat la)), .val (.int (Int32.ofNat lb)), .val (.int (Int32.ofNat j)), z] [(.int (Int32.ofNat lb)), (.int (Int32.ofNat j))])) t → Steps p.tables e below (s₁.setTop (entryFrame m #[(.ref s1), (.int (Int32.ofNat la)), (.int (Int32.ofNat lb))] 5)) t := fun t k => by
        refine Slp104 t ?_
        show Steps p.tables e below (Tlp104.setTop (mkF m 9 #[.val (.ref s1), .val (.int (Int32.ofNat la)), .val (.int (Int32.ofNat lb)), .val (.int (Int32.ofNat j)), z] [])) _
        refine XS.iloadN Xlp104.here hx rfl (hb hby d17_9) rfl ?_
        refine XS.iloadN Xlp104.here hx rfl (hb hby d17_10) rfl ?_
        exact k
      by_cases hc105 : (Int32.ofNat j) < (Int32.ofNat lb)
      · obtain ⟨cq107, kq107, q107a, q107b, q107c⟩ := isOf hZ elp104 E1
        obtain ⟨_, _, ⟨T107, L107, k107, n107⟩, -, X107, ⟨Lc107, hQ107, l107, y107, z107⟩, st107⟩ := Xlp104.virtualBack hx (y := (⟨"java/lang/String", "charAt", "(I)C"⟩ : MethodName)) (z := (⟨"java/lang/String", "charAt", "(I)C"⟩ : MethodName)) hown (mvT hZ (hwk hw 98 rfl)) (mvT hZ (hwk hw 99 rfl)) (notFace_of_selects (args := #[]) (mvT hZ (hwk hw 101 rfl))) (mvT hZ (hwk hw 101 rfl)) (mvT hZ (hwk hw 100 rfl)) (by decide) (backOf (W := 0) (ch l Z a0 hw [] j s1 t1 k1 cd N1 vs1 cs zc fm h0 n0 O0 E1 V1 C1 A1 hc hs hq (show j < cs.length by have := ((own_lt (show j < 16 by omega) (show lb < 16 by omega)).mp hc105); omega) SZ PZ SF RF SA SH SL) hZ (hwk hw 102 rfl) (hwk hw 8 rfl) (by decide) (by decide)) q107a q107c (g := (mkF m 16 #[.val (.ref s1), .val (.int (Int32.ofNat la)), .val (.int (Int32.ofNat lb)), .val (.int (Int32.ofNat j)), z] [(.int (Int32.ofNat j)), (.ref s1)])) rfl (by rw [hml]; rfl) (Steps.refl _) (argsL := [(.int (Int32.ofNat j))]) (rest := []) (lenOf pd_13 rfl) rfl (by show 2 * 0 + _ ≤ _; exact Nat.le_of_eq rfl) (hb hby d17_16) (fun _ _ => ⟨rfl, elp104, (by decide : 0 + 0 ≤ _), (by decide : 0 + 0 ≤ _)⟩)
        dsimp only [Pt.U, Pt.locs, Pt.cells, Pt.slots] at X107 l107 y107 z107 st107 hQ107
        subst l107 y107 z107
        unfold Q_ch at hQ107
        obtain ⟨rfl, N107q, e107⟩ := hQ107
        have N107 := Fr.app Nlp104 N107q
        have S109 : ∀ t, Steps p.tables e below (T107.setTop (mkF m 25 #[.val (.ref s1), .val (.int (Int32.ofNat la)), .val (.int (Int32.ofNat lb)), .val (.int (Int32.ofNat j)), .val (.int (cs.getD j 0))] [(.int (48 : Int32)), (.int (cs.getD j 0))])) t → Steps p.tables e below (s₁.setTop (entryFrame m #[(.ref s1), (.int (Int32.ofNat la)), (.int (Int32.ofNat lb))] 5)) t := fun t k => by
          refine S106 t ?_
          show Steps p.tables e below (Tlp104.setTop (mkF m 11 #[.val (.ref s1), .val (.int (Int32.ofNat la)), .val (.int (Int32.ofNat lb)), .val (.int (Int32.ofNat j)), z] [(.int (Int32.ofNat lb)), (.int (Int32.ofNat j))])) _
          refine XS.icmpNo Xlp104.here hx rfl (hb hby d17_11) rfl (tlt hc105).2.1 ?_
          show Steps p.tables e below (Tlp104.setTop (mkF m 14 #[.val (.ref s1), .val (.int (Int32.ofNat la)), .val (.int (Int32.ofNat lb)), .val (.int (Int32.ofNat j)), z] [])) _
          refine XS.aloadN Xlp104.here hx rfl (hb hby d17_14) rfl rfl ?_
          refine XS.iloadN Xlp104.here hx rfl (hb hby d17_15) rfl ?_
          show Steps p.tables e below (Tlp104.setTop (mkF m 16 #[.val (.ref s1), .val (.int (Int32.ofNat la)), .val (.int (Int32.ofNat lb)), .val (.int (Int32.ofNat j)), z] [(.int (Int32.ofNat j)), (.ref s1)])) _
          refine st107.trans ?_
          show Steps p.tables e below (T107.setTop (mkF m 19 #[.val (.ref s1), .val (.int (Int32.ofNat la)), .val (.int (Int32.ofNat lb)), .val (.int (Int32.ofNat j)), z] [(.int (cs.getD j 0))])) _
          refine XS.istore X107.here hx rfl (hb hby d17_19) rfl (l' := #[.val (.ref s1), .val (.int (Int32.ofNat la)), .val (.int (Int32.ofNat lb)), .val (.int (Int32.ofNat j)), .val (.int (cs.getD j 0))]) (XS.store1 (o := z) rfl hz rfl) ?_
          show Steps p.tables e below (T107.setTop (mkF m 21 #[.val (.ref s1), .val (.int (Int32.ofNat la)), .val (.int (Int32.ofNat lb)), .val (.int (Int32.ofNat j)), .val (.int (cs.getD j 0))] [])) _
          refine XS.iload X107.here hx rfl (hb hby d17_21) rfl ?_
          refine XS.bipush X107.here hx rfl (hb hby d17_23) ?_
          exact k
        by_cases hc108 : (cs.getD j 0) < (48 : Int32)
        · obtain ⟨fs, hr, hrun, hended, hW, hsame⟩ := X107.leave (v := some (.int (0 : Int32))) (fun h => by rw [Bd.returns] at h; cases h)
          refine ⟨_, _, S109 _ ?_, hrun, hended, _, _, rfl, ?_, ⟨_, rfl⟩, hW, hsame.mono (by decide) (by decide)⟩
          · show Steps p.tables e below (T107.setTop (mkF m 25 #[.val (.ref s1), .val (.int (Int32.ofNat la)), .val (.int (Int32.ofNat lb)), .val (.int (Int32.ofNat j)), .val (.int (cs.getD j 0))] [(.int (48 : Int32)), (.int (cs.getD j 0))])) _
            refine XS.icmpYes X107.here hx rfl (pc0 := 25) (pc' := 35) rfl (hb hby d17_25) rfl (tlt hc108).1 (by decide) (by decide) ?_
            show Steps p.tables e below (T107.setTop (mkF m 35 #[.val (.ref s1), .val (.int (Int32.ofNat la)), .val (.int (Int32.ofNat lb)), .val (.int (Int32.ofNat j)), .val (.int (cs.getD j 0))] [])) _
            refine XS.iconst X107.here hx rfl (hb hby d17_35) ?_
            show Steps p.tables e below (T107.setTop (mkF m 36 #[.val (.ref s1), .val (.int (Int32.ofNat la)), .val (.int (Int32.ofNat lb)), .val (.int (Int32.ofNat j)), .val (.int (cs.getD j 0))] [(.int (0 : Int32))])) _
            exact Jvm.RoadKit.retOut X107 hx Bd.returns rfl (Or.inl ⟨rfl, by simp, _, rfl⟩) (hb hby d17_36) hr
          · show Q_rm17 Z la lb s1 t1 k1 cd N1 vs1 cs zc fm h0 n0 _ T107.heap _
            rw [e107]
            unfold Q_rm17
            exact ⟨(by rw [own_adl ((own_lt (show j < 16 by omega) (show lb < 16 by omega)).mp hc105) ija hc108]), N107, rfl⟩
        · have S111 : ∀ t, Steps p.tables e below (T107.setTop (mkF m 32 #[.val (.ref s1), .val (.int (Int32.ofNat la)), .val (.int (Int32.ofNat lb)), .val (.int (Int32.ofNat j)), .val (.int (cs.getD j 0))] [(.int (57 : Int32)), (.int (cs.getD j 0))])) t → Steps p.tables e below (s₁.setTop (entryFrame m #[(.ref s1), (.int (Int32.ofNat la)), (.int (Int32.ofNat lb))] 5)) t := fun t k => by
            refine S109 t ?_
            show Steps p.tables e below (T107.setTop (mkF m 25 #[.val (.ref s1), .val (.int (Int32.ofNat la)), .val (.int (Int32.ofNat lb)), .val (.int (Int32.ofNat j)), .val (.int (cs.getD j 0))] [(.int (48 : Int32)), (.int (cs.getD j 0))])) _
            refine XS.icmpNo X107.here hx rfl (hb hby d17_25) rfl (flt hc108).1 ?_
            show Steps p.tables e below (T107.setTop (mkF m 28 #[.val (.ref s1), .val (.int (Int32.ofNat la)), .val (.int (Int32.ofNat lb)), .val (.int (Int32.ofNat j)), .val (.int (cs.getD j 0))] [])) _
            refine XS.iload X107.here hx rfl (hb hby d17_28) rfl ?_
            refine XS.bipush X107.here hx rfl (hb hby d17_30) ?_
            exact k
          by_cases hc110 : (57 : Int32) < (cs.getD j 0)
          · obtain ⟨fs, hr, hrun, hended, hW, hsame⟩ := X107.leave (v := some (.int (0 : Int32))) (fun h => by rw [Bd.returns] at h; cases h)
            refine ⟨_, _, S111 _ ?_, hrun, hended, _, _, rfl, ?_, ⟨_, rfl⟩, hW, hsame.mono (by decide) (by decide)⟩
            · show Steps p.tables e below (T107.setTop (mkF m 32 #[.val (.ref s1), .val (.int (Int32.ofNat la)), .val (.int (Int32.ofNat lb)), .val (.int (Int32.ofNat j)), .val (.int (cs.getD j 0))] [(.int (57 : Int32)), (.int (cs.getD j 0))])) _
              refine XS.icmpNo X107.here hx rfl (hb hby d17_32) rfl (tlt hc110).2.2.2 ?_
              show Steps p.tables e below (T107.setTop (mkF m 35 #[.val (.ref s1), .val (.int (Int32.ofNat la)), .val (.int (Int32.ofNat lb)), .val (.int (Int32.ofNat j)), .val (.int (cs.getD j 0))] [])) _
              refine XS.iconst X107.here hx rfl (hb hby d17_35) ?_
              show Steps p.tables e below (T107.setTop (mkF m 36 #[.val (.ref s1), .val (.int (Int32.ofNat la)), .val (.int (Int32.ofNat lb)), .val (.int (Int32.ofNat j)), .val (.int (cs.getD j 0))] [(.int (0 : Int32))])) _
              exact Jvm.RoadKit.retOut X107 hx Bd.returns rfl (Or.inl ⟨rfl, by simp, _, rfl⟩) (hb hby d17_36) hr
            · show Q_rm17 Z la lb s1 t1 k1 cd N1 vs1 cs zc fm h0 n0 _ T107.heap _
              rw [e107]
              unfold Q_rm17
              exact ⟨(by rw [own_adg ((own_lt (show j < 16 by omega) (show lb < 16 by omega)).mp hc105) ija hc110]), N107, rfl⟩
          · have S112 : ∀ t, Steps p.tables e below (T107.setTop (mkF m 9 #[.val (.ref s1), .val (.int (Int32.ofNat la)), .val (.int (Int32.ofNat lb)), .val (.int (Int32.ofNat (j + 1))), .val (.int (cs.getD j 0))] [])) t → Steps p.tables e below (s₁.setTop (entryFrame m #[(.ref s1), (.int (Int32.ofNat la)), (.int (Int32.ofNat lb))] 5)) t := fun t k => by
              refine S111 t ?_
              show Steps p.tables e below (T107.setTop (mkF m 32 #[.val (.ref s1), .val (.int (Int32.ofNat la)), .val (.int (Int32.ofNat lb)), .val (.int (Int32.ofNat j)), .val (.int (cs.getD j 0))] [(.int (57 : Int32)), (.int (cs.getD j 0))])) _
              refine XS.icmpYes X107.here hx rfl (pc0 := 32) (pc' := 37) rfl (hb hby d17_32) rfl (flt hc110).2.2.2 (by decide) (by decide) ?_
              show Steps p.tables e below (T107.setTop (mkF m 37 #[.val (.ref s1), .val (.int (Int32.ofNat la)), .val (.int (Int32.ofNat lb)), .val (.int (Int32.ofNat j)), .val (.int (cs.getD j 0))] [])) _
              refine XS.iinc X107.here hx rfl (hb hby d17_37) rfl (l' := #[.val (.ref s1), .val (.int (Int32.ofNat la)), .val (.int (Int32.ofNat lb)), .val (.int ((Int32.ofNat j) + (1 : Int32))), .val (.int (cs.getD j 0))]) rfl ?_
              show Steps p.tables e below (T107.setTop (mkF m 40 #[.val (.ref s1), .val (.int (Int32.ofNat la)), .val (.int (Int32.ofNat lb)), .val (.int ((Int32.ofNat j) + (1 : Int32))), .val (.int (cs.getD j 0))] [])) _
              refine XS.goto X107.here hx rfl (pc0 := 40) (pc' := 9) rfl (hb hby d17_40) (by decide) (by decide) ?_
              show Steps p.tables e below (T107.setTop (mkF m 9 #[.val (.ref s1), .val (.int (Int32.ofNat la)), .val (.int (Int32.ofNat lb)), .val (.int ((Int32.ofNat j) + (1 : Int32))), .val (.int (cs.getD j 0))] [])) _
              rw [own_succ]
              exact k
            exact ihlp104 _ (by have := ((own_lt (show j < 16 by omega) (show lb < 16 by omega)).mp hc105); omega) (j + 1) (Slot.val (.int (cs.getD j 0))) T107 _ X107 e107 N107  S112 (show la ≤ j + 1 by omega) ((own_lt (show j < 16 by omega) (show lb < 16 by omega)).mp hc105) (own_stepd idg ⟨hc108, hc110⟩) (Or.inr ⟨_, rfl, rfl⟩) rfl
      · obtain ⟨fs, hr, hrun, hended, hW, hsame⟩ := Xlp104.leave (v := some (.int (1 : Int32))) (fun h => by rw [Bd.returns] at h; cases h)
        refine ⟨_, _, S106 _ ?_, hrun, hended, _, _, rfl, ?_, ⟨_, rfl⟩, hW, hsame.mono (by decide) (by decide)⟩
        · show Steps p.tables e below (Tlp104.setTop (mkF m 11 #[.val (.ref s1), .val (.int (Int32.ofNat la)), .val (.int (Int32.ofNat lb)), .val (.int (Int32.ofNat j)), z] [(.int (Int32.ofNat lb)), (.int (Int32.ofNat j))])) _
          refine XS.icmpYes Xlp104.here hx rfl (pc0 := 11) (pc' := 43) rfl (hb hby d17_11) rfl (flt hc105).2.1 (by decide) (by decide) ?_
          show Steps p.tables e below (Tlp104.setTop (mkF m 43 #[.val (.ref s1), .val (.int (Int32.ofNat la)), .val (.int (Int32.ofNat lb)), .val (.int (Int32.ofNat j)), z] [])) _
          refine XS.iconst Xlp104.here hx rfl (hb hby d17_43) ?_
          show Steps p.tables e below (Tlp104.setTop (mkF m 44 #[.val (.ref s1), .val (.int (Int32.ofNat la)), .val (.int (Int32.ofNat lb)), .val (.int (Int32.ofNat j)), z] [(.int (1 : Int32))])) _
          exact Jvm.RoadKit.retOut Xlp104 hx Bd.returns rfl (Or.inl ⟨rfl, by simp, _, rfl⟩) (hb hby d17_44) hr
        · show Q_rm17 Z la lb s1 t1 k1 cd N1 vs1 cs zc fm h0 n0 _ Tlp104.heap _
          rw [elp104]
          unfold Q_rm17
          exact ⟨(by rw [own_ad1 hab (own_alld idg ijb (by omega) hc105)]), Nlp104, rfl⟩
  · obtain ⟨fs, hr, hrun, hended, hW, hsame⟩ := X0.leave (v := some (.int (0 : Int32))) (fun h => by rw [Bd.returns] at h; cases h)
    refine ⟨_, _, S102 _ ?_, hrun, hended, _, _, rfl, ?_, ⟨_, rfl⟩, hW, hsame.mono (by decide) (by decide)⟩
    · show Steps p.tables e below (s₁.setTop (mkF m 2 #[.val (.ref s1), .val (.int (Int32.ofNat la)), .val (.int (Int32.ofNat lb)), .unset, .unset] [(.int (Int32.ofNat lb)), (.int (Int32.ofNat la))])) _
      refine XS.icmpNo X0.here hx rfl (hb hby d17_2) rfl (flt hc101).1 ?_
      show Steps p.tables e below (s₁.setTop (mkF m 5 #[.val (.ref s1), .val (.int (Int32.ofNat la)), .val (.int (Int32.ofNat lb)), .unset, .unset] [])) _
      refine XS.iconst X0.here hx rfl (hb hby d17_5) ?_
      show Steps p.tables e below (s₁.setTop (mkF m 6 #[.val (.ref s1), .val (.int (Int32.ofNat la)), .val (.int (Int32.ofNat lb)), .unset, .unset] [(.int (0 : Int32))])) _
      exact Jvm.RoadKit.retOut X0 hx Bd.returns rfl (Or.inl ⟨rfl, by simp, _, rfl⟩) (hb hby d17_6) hr
    · show Q_rm17 Z la lb s1 t1 k1 cd N1 vs1 cs zc fm h0 n0 _ s₁.heap _
      rw [e0]
      unfold Q_rm17
      exact ⟨(by rw [own_ad0 (fun r => hc101 ((own_lt (by omega) (by omega)).mpr r))]), N0, rfl⟩
theorem ef_rm7 (m : MethodId) (x0 : Addr) : entryFrame m #[(.ref x0)] 2 = mkF m 0 #[.val (.ref x0), .unset] [] := by first | (simp [entryFrame, mkF, argsToLocals, Value.category]; done) | rfl
def Q_rm7 (Z : State) (s1 : Addr) (t1 : Addr) (k1 : ClassId) (cd : Int32) (N1 : Int32) (vs1 : List Value) (cs : List Int32) (zc : Int32) (fm : Value) (h0 : Heap) (n0 : Nat) (v : Option Value) (h : Heap) (L : List Loc) : Prop := (v = some (.int (PD cs))) ∧ (Fr n0 L) ∧ (h = h0)
theorem d7_0 : decode prog_12_method_14_code 0 = .ok (.aload_n 0, 1) := by decide +kernel
theorem d7_1 : decode prog_12_method_14_code 1 = .ok (.bipush 46, 2) := by decide +kernel
theorem d7_3 : decode prog_12_method_14_code 3 = .ok (.invokevirtual 180, 3) := by decide +kernel
theorem pd_14 : parseMethodDescriptor "(I)I" = some ⟨[.int], some .int⟩ := by decide +kernel
theorem d7_6 : decode prog_12_method_14_code 6 = .ok (.istore_n 1, 1) := by decide +kernel
theorem d7_7 : decode prog_12_method_14_code 7 = .ok (.iload_n 1, 1) := by decide +kernel
theorem d7_8 : decode prog_12_method_14_code 8 = .ok (.ifCond .ge 15, 3) := by decide +kernel
theorem d7_11 : decode prog_12_method_14_code 11 = .ok (.aload_n 0, 1) := by decide +kernel
theorem d7_12 : decode prog_12_method_14_code 12 = .ok (.iconst 0, 1) := by decide +kernel
theorem d7_13 : decode prog_12_method_14_code 13 = .ok (.aload_n 0, 1) := by decide +kernel
theorem d7_14 : decode prog_12_method_14_code 14 = .ok (.invokevirtual 96, 3) := by decide +kernel
theorem d7_17 : decode prog_12_method_14_code 17 = .ok (.invokestatic 204, 3) := by decide +kernel
theorem pd_15 : parseMethodDescriptor "(Ljava/lang/String;II)Z" = some ⟨[(.object "java/lang/String"), .int, .int], some .boolean⟩ := by decide +kernel
theorem d7_20 : decode prog_12_method_14_code 20 = .ok (.goto 31, 3) := by decide +kernel
theorem d7_51 : decode prog_12_method_14_code 51 = .ok (.ireturn, 1) := by decide +kernel
theorem d7_23 : decode prog_12_method_14_code 23 = .ok (.aload_n 0, 1) := by decide +kernel
theorem d7_24 : decode prog_12_method_14_code 24 = .ok (.iconst 0, 1) := by decide +kernel
theorem d7_25 : decode prog_12_method_14_code 25 = .ok (.iload_n 1, 1) := by decide +kernel
theorem d7_26 : decode prog_12_method_14_code 26 = .ok (.invokestatic 204, 3) := by decide +kernel
theorem d7_29 : decode prog_12_method_14_code 29 = .ok (.ifCond .eq 21, 3) := by decide +kernel
theorem d7_50 : decode prog_12_method_14_code 50 = .ok (.iconst 0, 1) := by decide +kernel
theorem d7_32 : decode prog_12_method_14_code 32 = .ok (.aload_n 0, 1) := by decide +kernel
theorem d7_33 : decode prog_12_method_14_code 33 = .ok (.iload_n 1, 1) := by decide +kernel
theorem d7_34 : decode prog_12_method_14_code 34 = .ok (.iconst 1, 1) := by decide +kernel
theorem d7_35 : decode prog_12_method_14_code 35 = .ok (.iadd, 1) := by decide +kernel
theorem d7_36 : decode prog_12_method_14_code 36 = .ok (.aload_n 0, 1) := by decide +kernel
theorem d7_37 : decode prog_12_method_14_code 37 = .ok (.invokevirtual 96, 3) := by decide +kernel
theorem d7_40 : decode prog_12_method_14_code 40 = .ok (.invokestatic 204, 3) := by decide +kernel
theorem d7_43 : decode prog_12_method_14_code 43 = .ok (.ifCond .eq 7, 3) := by decide +kernel
theorem d7_46 : decode prog_12_method_14_code 46 = .ok (.iconst 1, 1) := by decide +kernel
theorem d7_47 : decode prog_12_method_14_code 47 = .ok (.goto 4, 3) := by decide +kernel
set_option maxRecDepth 65536 in
set_option maxHeartbeats 40000000 in
theorem rm7 (l : Launch) (Z : State) (a0 : Array Value) (hw : ∀ d ∈ tables_1, d.before a0 Z = true) (ws : List Jvm.Cond) (s1 : Addr) (t1 : Addr) (k1 : ClassId) (cd : Int32) (N1 : Int32) (vs1 : List Value) (cs : List Int32) (zc : Int32) (fm : Value) (h0 : Heap) (n0 : Nat) (O0 : Old Z n0 h0) (E1 : Exa Z h0 s1 "java/lang/String") (V1 : Fld Z h0 s1 "java/lang/String" "value" "[B" (.ref t1)) (C1 : Fld Z h0 s1 "java/lang/String" "coder" "B" (.int cd)) (A1 : Arv Z h0 t1 k1 .byte N1 vs1 (.int (0 : Int32))) (hc : CodA cs cd N1 vs1) (hs : cs.length ≤ 6) (hq : ∀ c ∈ cs, C16 c) (SZ : Sta Z Z.heap "java/lang/String" "COMPACT_STRINGS" "Z" (.int zc)) (PZ : ¬ (zc = (0 : Int32))) (SF : Sta Z Z.heap "jdk/internal/util/Preconditions" "SIOOBE_FORMATTER" "Ljava/util/function/BiFunction;" fm) (RF : fm.isRef = true) (SA : Sta Z Z.heap "java/lang/StringUTF16" "$assertionsDisabled" "Z" (.int (1 : Int32))) (SH : Sta Z Z.heap "java/lang/StringUTF16" "HI_BYTE_SHIFT" "I" (.int (0 : Int32))) (SL : Sta Z Z.heap "java/lang/StringUTF16" "LO_BYTE_SHIFT" "I" (.int (8 : Int32))) :
    MetFree l (⟨"com/example/vestwright/vestwright/InputText", "isPlainDecimal", "(Ljava/lang/String;)Z"⟩ : MethodName) (head1 (Jvm.Cond.code (⟨"com/example/vestwright/vestwright/InputText", "isPlainDecimal", "(Ljava/lang/String;)Z"⟩ : MethodName) prog_12_method_14_code 2 (some .boolean) :: ws) ({ frames := 7, cells := 0, slots := 0, locals := 100 } : Room)) (fun a U => a = #[(.ref s1)] ∧ Z.Warmed39 U.vm ∧ U.heap = h0) (fun _ _ _ _ _ => True) (fun _ U o U' => ∃ v L, o = .returned v ∧ Q_rm7 Z s1 t1 k1 cd N1 vs1 cs zc fm h0 n0 v U'.heap L ∧ FrameEnd U o U' L ({ frames := 7, cells := 0, slots := 0, locals := 100 } : Room).cells ({ frames := 7, cells := 0, slots := 0, locals := 100 } : Room).slots) := by
  refine MetFree.of_bodySF (plainFor_of_name pn_4) hisR ?_
  intro p e s m args below meth c s₁ Bd hml0 hP hK
  obtain ⟨rfl, hZ, hh⟩ := hP
  have hx := Bd.exec
  have hby := Bd.bytes
  have hml : c.maxLocals = 2 := hml0
  have hown : s.vm.findClass "com/example/vestwright/vestwright/InputText" = some m.cls := findClass_of_methodNamed Bd.named
  have hnm := (name_of_methodNamed Bd.named Bd.method).1
  have X0 : Stand p l e ({ frames := 7, cells := 0, slots := 0, locals := 100 } : Room) s m #[(.ref s1)] below meth c s₁ [] 0 0 := Stand.of_body Bd
  have e0 : s₁.heap = h0 := by rw [← hh, Bd.state]; rfl
  have N0 := Fr.nil n0
  have Z0 : n0 ≤ h0.size := old_le O0
  have pre0 : ∀ t, Steps p.tables e below (s₁.setTop (mkF m 0 #[.val (.ref s1), .unset] [])) t → Steps p.tables e below (s₁.setTop (entryFrame m #[(.ref s1)] 2)) t := fun t k => castTop (ef_rm7 m s1) k
  obtain ⟨cq101, kq101, q101a, q101b, q101c⟩ := isOf hZ e0 E1
  obtain ⟨_, _, ⟨T101, L101, k101, n101⟩, -, X101, ⟨Lc101, hQ101, l101, y101, z101⟩, st101⟩ := X0.virtualBack hx (y := (⟨"java/lang/String", "indexOf", "(I)I"⟩ : MethodName)) (z := (⟨"java/lang/String", "indexOf", "(I)I"⟩ : MethodName)) hown (mvT hZ (hwk hw 38 rfl)) (mvT hZ (hwk hw 39 rfl)) (notFace_of_selects (args := #[]) (mvT hZ (hwk hw 41 rfl))) (mvT hZ (hwk hw 41 rfl)) (mvT hZ (hwk hw 40 rfl)) (by decide) (backOf (W := 0) (rm8 l Z a0 hw [] s1 t1 k1 cd N1 vs1 cs zc fm h0 n0 O0 E1 V1 C1 A1 hc hs hq SZ PZ SF RF SA SH SL) hZ (hwk hw 42 rfl) (hwk hw 8 rfl) (by decide) (by decide)) q101a q101c (g := (mkF m 3 #[.val (.ref s1), .unset] [(.int (46 : Int32)), (.ref s1)])) rfl (by rw [hml]; rfl) (Steps.refl _) (argsL := [(.int (46 : Int32))]) (rest := []) (lenOf pd_14 rfl) rfl (by show 2 * 0 + _ ≤ _; exact Nat.le_of_eq rfl) (hb hby d7_3) (fun _ _ => ⟨rfl, e0, (by decide : 0 + 0 ≤ _), (by decide : 0 + 0 ≤ _)⟩)
  dsimp only [Pt.U, Pt.locs, Pt.cells, Pt.slots] at X101 l101 y101 z101 st101 hQ101
  subst l101 y101 z101
  unfold Q_rm8 at hQ101
  obtain ⟨rfl, N101q, e101⟩ := hQ101
  have N101 := Fr.app N0 N101q
  have S103 : ∀ t, Steps p.tables e below (T101.setTop (mkF m 8 #[.val (.ref s1), .val (.int (IX cs))] [(.int (IX cs))])) t → Steps p.tables e below (s₁.setTop (entryFrame m #[(.ref s1)] 2)) t := fun t k => by
    refine pre0 t ?_
    show Steps p.tables e below (s₁.setTop (mkF m 0 #[.val (.ref s1), .unset] [])) _
    refine XS.aloadN X0.here hx rfl (hb hby d7_0) rfl rfl ?_
    refine XS.bipush X0.here hx rfl (hb hby d7_1) ?_
    show Steps p.tables e below (s₁.setTop (mkF m 3 #[.val (.ref s1), .unset] [(.int (46 : Int32)), (.ref s1)])) _
    refine st101.trans ?_
    show Steps p.tables e below (T101.setTop (mkF m 6 #[.val (.ref s1), .unset] [(.int (IX cs))])) _
    refine XS.istoreN X101.here hx rfl (hb hby d7_6) rfl (l' := #[.val (.ref s1), .val (.int (IX cs))]) rfl ?_
    show Steps p.tables e below (T101.setTop (mkF m 7 #[.val (.ref s1), .val (.int (IX cs))] [])) _
    refine XS.iloadN X101.here hx rfl (hb hby d7_7) rfl ?_
    exact k
  by_cases hc102 : (IX cs) < (0 : Int32)
  · have hws104 : ∀ d ∈ StrChars.Road.wordsLen, d.before a0 Z = true := fun d hd => hw d ((by decide +kernel : ∀ d ∈ StrChars.Road.wordsLen, d ∈ tables_1) d hd)
    have c105 : Sta Z h0 "java/lang/String" "COMPACT_STRINGS" "Z" (.int zc) := Sta.ext (O0).2 SZ
    obtain ⟨cq106, kq106, q106a, q106b, q106c⟩ := isOf hZ e101 E1
    obtain ⟨_, _, ⟨T106, L106, k106, n106⟩, -, X106, ⟨Lc106, hQ106, l106, y106, z106⟩, st106⟩ := X101.virtualBack hx (y := (⟨"java/lang/String", "length", "()I"⟩ : MethodName)) (z := (⟨"java/lang/String", "length", "()I"⟩ : MethodName)) hown (mvT hZ (hwk hw 78 rfl)) (mvT hZ (hwk hw 55 rfl)) (notFace_of_selects (args := #[]) (mvT hZ (hwk hw 57 rfl))) (mvT hZ (hwk hw 57 rfl)) (mvT hZ (hwk hw 56 rfl)) (by decide) (StrChars.Road.lenW (W := 2) hZ hws104 (kI := 4) (hwk hw 7 rfl) E1 V1 C1 A1 hc hq c105 PZ (by omega) (by decide) (by decide)) q106a q106c (g := (mkF m 14 #[.val (.ref s1), .val (.int (IX cs))] [(.ref s1), (.int (0 : Int32)), (.ref s1)])) rfl (by rw [hml]; rfl) (Steps.refl _) (argsL := []) (rest := [(.int (0 : Int32)), (.ref s1)]) (lenOf pd_12 rfl) rfl (by show 2 * 0 + _ ≤ _; exact Nat.le_of_eq rfl) (hb hby d7_14) (fun _ _ => ⟨rfl, e101, (by decide : 0 + 0 ≤ _), (by decide : 0 + 0 ≤ _)⟩)
    dsimp only [Pt.U, Pt.locs, Pt.cells, Pt.slots] at X106 l106 y106 z106 st106 hQ106
    subst l106 y106 z106
    obtain ⟨hv106, hl106, e106⟩ := hQ106
    cases hv106
    have N106 := Fr.app N101 (own_frnil hl106)
    obtain ⟨_, _, ⟨T107, L107, k107, n107⟩, -, X107, ⟨Lc107, hQ107, l107, y107, z107⟩, st107⟩ := Jvm.LawKit.callS X106 hx (y := (⟨"com/example/vestwright/vestwright/InputText", "allDigits", "(Ljava/lang/String;II)Z"⟩ : MethodName)) hown (mvT hZ (hwk hw 79 rfl)) (mvT hZ (hwk hw 80 rfl)) (mvT hZ (hwk hw 36 rfl)) (mvT hZ (hwk hw 81 rfl)) (by decide) (backOf (W := 0) (rm17 l Z a0 hw [] 0 cs.length s1 t1 k1 cd N1 vs1 cs zc fm h0 n0 O0 E1 V1 C1 A1 hc hs hq (Nat.le_refl _) (Nat.zero_le _) SZ PZ SF RF SA SH SL) hZ (hwk hw 81 rfl) (hwk hw 36 rfl) (by decide) (by decide)) (g := (mkF m 17 #[.val (.ref s1), .val (.int (IX cs))] [(.int (Int32.ofNat cs.length)), (.int (0 : Int32)), (.ref s1)])) rfl (by rw [hml]; rfl) (argsL := [(.ref s1), (.int (0 : Int32)), (.int (Int32.ofNat cs.length))]) (rest := []) (lenOf pd_15 rfl) rfl (by show 2 * 0 + _ ≤ _; exact Nat.le_of_eq rfl) (hb hby d7_17) (fun _ _ => ⟨rfl, e106, (by decide : 0 + 0 ≤ _), (by decide : 0 + 0 ≤ _)⟩)
    dsimp only [Pt.U, Pt.locs, Pt.cells, Pt.slots] at X107 l107 y107 z107 st107 hQ107
    subst l107 y107 z107
    unfold Q_rm17 at hQ107
    obtain ⟨rfl, N107q, e107⟩ := hQ107
    have N107 := Fr.app N106 N107q
    obtain ⟨fs, hr, hrun, hended, hW, hsame⟩ := X107.leave (v := some (.int (AD cs 0 cs.length))) (fun h => by rw [Bd.returns] at h; cases h)
    refine ⟨_, _, S103 _ ?_, hrun, hended, _, _, rfl, ?_, ⟨_, rfl⟩, hW, hsame.mono (by decide) (by decide)⟩
    · show Steps p.tables e below (T101.setTop (mkF m 8 #[.val (.ref s1), .val (.int (IX cs))] [(.int (IX cs))])) _
      refine XS.ifNo X101.here hx rfl (hb hby d7_8) rfl ((if0 _ _).trans (tlt hc102).2.1) ?_
      show Steps p.tables e below (T101.setTop (mkF m 11 #[.val (.ref s1), .val (.int (IX cs))] [])) _
      refine XS.aloadN X101.here hx rfl (hb hby d7_11) rfl rfl ?_
      refine XS.iconst X101.here hx rfl (hb hby d7_12) ?_
      refine XS.aloadN X101.here hx rfl (hb hby d7_13) rfl rfl ?_
      show Steps p.tables e below (T101.setTop (mkF m 14 #[.val (.ref s1), .val (.int (IX cs))] [(.ref s1), (.int (0 : Int32)), (.ref s1)])) _
      refine st106.trans ?_
      show Steps p.tables e below (T106.setTop (mkF m 17 #[.val (.ref s1), .val (.int (IX cs))] [(.int (Int32.ofNat cs.length)), (.int (0 : Int32)), (.ref s1)])) _
      refine st107 _ ?_
      show Steps p.tables e below (T107.setTop (mkF m 20 #[.val (.ref s1), .val (.int (IX cs))] [(.int (AD cs 0 cs.length))])) _
      refine XS.goto X107.here hx rfl (pc0 := 20) (pc' := 51) rfl (hb hby d7_20) (by decide) (by decide) ?_
      show Steps p.tables e below (T107.setTop (mkF m 51 #[.val (.ref s1), .val (.int (IX cs))] [(.int (AD cs 0 cs.length))])) _
      exact Jvm.RoadKit.retOut X107 hx Bd.returns (own_adb _ _ _) (Or.inl ⟨rfl, by simp, _, rfl⟩) (hb hby d7_51) hr
    · show Q_rm7 Z s1 t1 k1 cd N1 vs1 cs zc fm h0 n0 _ T107.heap _
      rw [e107]
      unfold Q_rm7
      exact ⟨(by unfold PD; rw [if_pos hc102]), N107, rfl⟩
  · obtain ⟨p', hp', ep'⟩ := own_ixp cs hc102
    obtain ⟨_, _, ⟨T108, L108, k108, n108⟩, -, X108, ⟨Lc108, hQ108, l108, y108, z108⟩, st108⟩ := Jvm.LawKit.callS X101 hx (y := (⟨"com/example/vestwright/vestwright/InputText", "allDigits", "(Ljava/lang/String;II)Z"⟩ : MethodName)) hown (mvT hZ (hwk hw 79 rfl)) (mvT hZ (hwk hw 80 rfl)) (mvT hZ (hwk hw 36 rfl)) (mvT hZ (hwk hw 81 rfl)) (by decide) (backOf (W := 0) (rm17 l Z a0 hw [] 0 p' s1 t1 k1 cd N1 vs1 cs zc fm h0 n0 O0 E1 V1 C1 A1 hc hs hq (Nat.le_of_lt hp') (Nat.zero_le _) SZ PZ SF RF SA SH SL) hZ (hwk hw 81 rfl) (hwk hw 36 rfl) (by decide) (by decide)) (g := (mkF m 26 #[.val (.ref s1), .val (.int (Int32.ofNat p'))] [(.int (Int32.ofNat p')), (.int (0 : Int32)), (.ref s1)])) rfl (by rw [hml]; rfl) (argsL := [(.ref s1), (.int (0 : Int32)), (.int (Int32.ofNat p'))]) (rest := []) (lenOf pd_15 rfl) rfl (by show 2 * 0 + _ ≤ _; exact Nat.le_of_eq rfl) (hb hby d7_26) (fun _ _ => ⟨rfl, e101, (by decide : 0 + 0 ≤ _), (by decide : 0 + 0 ≤ _)⟩)
    dsimp only [Pt.U, Pt.locs, Pt.cells, Pt.slots] at X108 l108 y108 z108 st108 hQ108
    subst l108 y108 z108
    unfold Q_rm17 at hQ108
    obtain ⟨rfl, N108q, e108⟩ := hQ108
    have N108 := Fr.app N101 N108q
    have S110 : ∀ t, Steps p.tables e below (T108.setTop (mkF m 29 #[.val (.ref s1), .val (.int (Int32.ofNat p'))] [(.int (AD cs 0 p'))])) t → Steps p.tables e below (s₁.setTop (entryFrame m #[(.ref s1)] 2)) t := fun t k => by
      refine S103 t ?_
      show Steps p.tables e below (T101.setTop (mkF m 8 #[.val (.ref s1), .val (.int (IX cs))] [(.int (IX cs))])) _
      refine XS.ifYes X101.here hx rfl (pc0 := 8) (pc' := 23) rfl (hb hby d7_8) rfl ((if0 _ _).trans (flt hc102).2.1) (by decide) (by decide) ?_
      show Steps p.tables e below (T101.setTop (mkF m 23 #[.val (.ref s1), .val (.int (IX cs))] [])) _
      rw [ep']
      show Steps p.tables e below (T101.setTop (mkF m 23 #[.val (.ref s1), .val (.int (Int32.ofNat p'))] [])) _
      refine XS.aloadN X101.here hx rfl (hb hby d7_23) rfl rfl ?_
      refine XS.iconst X101.here hx rfl (hb hby d7_24) ?_
      refine XS.iloadN X101.here hx rfl (hb hby d7_25) rfl ?_
      show Steps p.tables e below (T101.setTop (mkF m 26 #[.val (.ref s1), .val (.int (Int32.ofNat p'))] [(.int (Int32.ofNat p')), (.int (0 : Int32)), (.ref s1)])) _
      refine st108 _ ?_
      exact k
    by_cases hc109 : (AD cs 0 p') = (0 : Int32)
    · obtain ⟨fs, hr, hrun, hended, hW, hsame⟩ := X108.leave (v := some (.int (0 : Int32))) (fun h => by rw [Bd.returns] at h; cases h)
      refine ⟨_, _, S110 _ ?_, hrun, hended, _, _, rfl, ?_, ⟨_, rfl⟩, hW, hsame.mono (by decide) (by decide)⟩
      · show Steps p.tables e below (T108.setTop (mkF m 29 #[.val (.ref s1), .val (.int (Int32.ofNat p'))] [(.int (AD cs 0 p'))])) _
        refine XS.ifYes X108.here hx rfl (pc0 := 29) (pc' := 50) rfl (hb hby d7_29) rfl ((if0 _ _).trans (teq hc109).1) (by decide) (by decide) ?_
        show Steps p.tables e below (T108.setTop (mkF m 50 #[.val (.ref s1), .val (.int (Int32.ofNat p'))] [])) _
        refine XS.iconst X108.here hx rfl (hb hby d7_50) ?_
        show Steps p.tables e below (T108.setTop (mkF m 51 #[.val (.ref s1), .val (.int (Int32.ofNat p'))] [(.int (0 : Int32))])) _
        exact Jvm.RoadKit.retOut X108 hx Bd.returns rfl (Or.inl ⟨rfl, by simp, _, rfl⟩) (hb hby d7_51) hr
      · show Q_rm7 Z s1 t1 k1 cd N1 vs1 cs zc fm h0 n0 _ T108.heap _
        rw [e108]
        unfold Q_rm7
        exact ⟨(by unfold PD; rw [if_neg hc102, ep', own_nat (show p' < 16 by omega), if_pos hc109]), N108, rfl⟩
    · have hws111 : ∀ d ∈ StrChars.Road.wordsLen, d.before a0 Z = true := fun d hd => hw d ((by decide +kernel : ∀ d ∈ StrChars.Road.wordsLen, d ∈ tables_1) d hd)
      have c112 : Sta Z h0 "java/lang/String" "COMPACT_STRINGS" "Z" (.int zc) := Sta.ext (O0).2 SZ
      obtain ⟨cq113, kq113, q113a, q113b, q113c⟩ := isOf hZ e108 E1
      obtain ⟨_, _, ⟨T113, L113, k113, n113⟩, -, X113, ⟨Lc113, hQ113, l113, y113, z113⟩, st113⟩ := X108.virtualBack hx (y := (⟨"java/lang/String", "length", "()I"⟩ : MethodName)) (z := (⟨"java/lang/String", "length", "()I"⟩ : MethodName)) hown (mvT hZ (hwk hw 78 rfl)) (mvT hZ (hwk hw 55 rfl)) (notFace_of_selects (args := #[]) (mvT hZ (hwk hw 57 rfl))) (mvT hZ (hwk hw 57 rfl)) (mvT hZ (hwk hw 56 rfl)) (by decide) (StrChars.Road.lenW (W := 2) hZ hws111 (kI := 4) (hwk hw 7 rfl) E1 V1 C1 A1 hc hq c112 PZ (by omega) (by decide) (by decide)) q113a q113c (g := (mkF m 37 #[.val (.ref s1), .val (.int (Int32.ofNat p'))] [(.ref s1), (.int (Int32.ofNat (p' + 1))), (.ref s1)])) rfl (by rw [hml]; rfl) (Steps.refl _) (argsL := []) (rest := [(.int (Int32.ofNat (p' + 1))), (.ref s1)]) (lenOf pd_12 rfl) rfl (by show 2 * 0 + _ ≤ _; exact Nat.le_of_eq rfl) (hb hby d7_37) (fun _ _ => ⟨rfl, e108, (by decide : 0 + 0 ≤ _), (by decide : 0 + 0 ≤ _)⟩)
      dsimp only [Pt.U, Pt.locs, Pt.cells, Pt.slots] at X113 l113 y113 z113 st113 hQ113
      subst l113 y113 z113
      obtain ⟨hv113, hl113, e113⟩ := hQ113
      cases hv113
      have N113 := Fr.app N108 (own_frnil hl113)
      obtain ⟨_, _, ⟨T114, L114, k114, n114⟩, -, X114, ⟨Lc114, hQ114, l114, y114, z114⟩, st114⟩ := Jvm.LawKit.callS X113 hx (y := (⟨"com/example/vestwright/vestwright/InputText", "allDigits", "(Ljava/lang/String;II)Z"⟩ : MethodName)) hown (mvT hZ (hwk hw 79 rfl)) (mvT hZ (hwk hw 80 rfl)) (mvT hZ (hwk hw 36 rfl)) (mvT hZ (hwk hw 81 rfl)) (by decide) (backOf (W := 0) (rm17 l Z a0 hw [] (p' + 1) cs.length s1 t1 k1 cd N1 vs1 cs zc fm h0 n0 O0 E1 V1 C1 A1 hc hs hq (Nat.le_refl _) (show p' + 1 ≤ cs.length by omega) SZ PZ SF RF SA SH SL) hZ (hwk hw 81 rfl) (hwk hw 36 rfl) (by decide) (by decide)) (g := (mkF m 40 #[.val (.ref s1), .val (.int (Int32.ofNat p'))] [(.int (Int32.ofNat cs.length)), (.int (Int32.ofNat (p' + 1))), (.ref s1)])) rfl (by rw [hml]; rfl) (argsL := [(.ref s1), (.int (Int32.ofNat (p' + 1))), (.int (Int32.ofNat cs.length))]) (rest := []) (lenOf pd_15 rfl) rfl (by show 2 * 0 + _ ≤ _; exact Nat.le_of_eq rfl) (hb hby d7_40) (fun _ _ => ⟨rfl, e113, (by decide : 0 + 0 ≤ _), (by decide : 0 + 0 ≤ _)⟩)
      dsimp only [Pt.U, Pt.locs, Pt.cells, Pt.slots] at X114 l114 y114 z114 st114 hQ114
      subst l114 y114 z114
      unfold Q_rm17 at hQ114
      obtain ⟨rfl, N114q, e114⟩ := hQ114
      have N114 := Fr.app N113 N114q
      have S116 : ∀ t, Steps p.tables e below (T114.setTop (mkF m 43 #[.val (.ref s1), .val (.int (Int32.ofNat p'))] [(.int (AD cs (p' + 1) cs.length))])) t → Steps p.tables e below (s₁.setTop (entryFrame m #[(.ref s1)] 2)) t := fun t k => by
        refine S110 t ?_
        show Steps p.tables e below (T108.setTop (mkF m 29 #[.val (.ref s1), .val (.int (Int32.ofNat p'))] [(.int (AD cs 0 p'))])) _
        refine XS.ifNo X108.here hx rfl (hb hby d7_29) rfl ((if0 _ _).trans (feq hc109).1) ?_
        show Steps p.tables e below (T108.setTop (mkF m 32 #[.val (.ref s1), .val (.int (Int32.ofNat p'))] [])) _
        refine XS.aloadN X108.here hx rfl (hb hby d7_32) rfl rfl ?_
        refine XS.iloadN X108.here hx rfl (hb hby d7_33) rfl ?_
        refine XS.iconst X108.here hx rfl (hb hby d7_34) ?_
        refine XS.iadd X108.here hx rfl (hb hby d7_35) rfl ?_
        show Steps p.tables e below (T108.setTop (mkF m 36 #[.val (.ref s1), .val (.int (Int32.ofNat p'))] [(.int ((Int32.ofNat p') + (1 : Int32))), (.ref s1)])) _
        rw [own_succ]
        show Steps p.tables e below (T108.setTop (mkF m 36 #[.val (.ref s1), .val (.int (Int32.ofNat p'))] [(.int (Int32.ofNat (p' + 1))), (.ref s1)])) _
        refine XS.aloadN X108.here hx rfl (hb hby d7_36) rfl rfl ?_
        show Steps p.tables e below (T108.setTop (mkF m 37 #[.val (.ref s1), .val (.int (Int32.ofNat p'))] [(.ref s1), (.int (Int32.ofNat (p' + 1))), (.ref s1)])) _
        refine st113.trans ?_
        show Steps p.tables e below (T113.setTop (mkF m 40 #[.val (.ref s1), .val (.int (Int32.ofNat p'))] [(.int (Int32.ofNat cs.length)), (.int (Int32.ofNat (p' + 1))), (.ref s1)])) _
        refine st114 _ ?_
        exact k
      by_cases hc115 : (AD cs (p' + 1) cs.length) = (0 : Int32)
      · obtain ⟨fs, hr, hrun, hended, hW, hsame⟩ := X114.leave (v := some (.int (0 : Int32))) (fun h => by rw [Bd.returns] at h; cases h)
        refine ⟨_, _, S116 _ ?_, hrun, hended, _, _, rfl, ?_, ⟨_, rfl⟩, hW, hsame.mono (by decide) (by decide)⟩
        · show Steps p.tables e below (T114.setTop (mkF m 43 #[.val (.ref s1), .val (.int (Int32.ofNat p'))] [(.int (AD cs (p' + 1) cs.length))])) _
          refine XS.ifYes X114.here hx rfl (pc0 := 43) (pc' := 50) rfl (hb hby d7_43) rfl ((if0 _ _).trans (teq hc115).1) (by decide) (by decide) ?_
          show Steps p.tables e below (T114.setTop (mkF m 50 #[.val (.ref s1), .val (.int (Int32.ofNat p'))] [])) _
          refine XS.iconst X114.here hx rfl (hb hby d7_50) ?_
          show Steps p.tables e below (T114.setTop (mkF m 51 #[.val (.ref s1), .val (.int (Int32.ofNat p'))] [(.int (0 : Int32))])) _
          exact Jvm.RoadKit.retOut X114 hx Bd.returns rfl (Or.inl ⟨rfl, by simp, _, rfl⟩) (hb hby d7_51) hr
        · show Q_rm7 Z s1 t1 k1 cd N1 vs1 cs zc fm h0 n0 _ T114.heap _
          rw [e114]
          unfold Q_rm7
          exact ⟨(by unfold PD; rw [if_neg hc102, ep', own_nat (show p' < 16 by omega), if_neg hc109, if_pos hc115]), N114, rfl⟩
      · obtain ⟨fs, hr, hrun, hended, hW, hsame⟩ := X114.leave (v := some (.int (1 : Int32))) (fun h => by rw [Bd.returns] at h; cases h)
        refine ⟨_, _, S116 _ ?_, hrun, hended, _, _, rfl, ?_, ⟨_, rfl⟩, hW, hsame.mono (by decide) (by decide)⟩
        · show Steps p.tables e below (T114.setTop (mkF m 43 #[.val (.ref s1), .val (.int (Int32.ofNat p'))] [(.int (AD cs (p' + 1) cs.length))])) _
          refine XS.ifNo X114.here hx rfl (hb hby d7_43) rfl ((if0 _ _).trans (feq hc115).1) ?_
          show Steps p.tables e below (T114.setTop (mkF m 46 #[.val (.ref s1), .val (.int (Int32.ofNat p'))] [])) _
          refine XS.iconst X114.here hx rfl (hb hby d7_46) ?_
          refine XS.goto X114.here hx rfl (pc0 := 47) (pc' := 51) rfl (hb hby d7_47) (by decide) (by decide) ?_
          show Steps p.tables e below (T114.setTop (mkF m 51 #[.val (.ref s1), .val (.int (Int32.ofNat p'))] [(.int (1 : Int32))])) _
          exact Jvm.RoadKit.retOut X114 hx Bd.returns rfl (Or.inl ⟨rfl, by simp, _, rfl⟩) (hb hby d7_51) hr
        · show Q_rm7 Z s1 t1 k1 cd N1 vs1 cs zc fm h0 n0 _ T114.heap _
          rw [e114]
          unfold Q_rm7
          exact ⟨(by unfold PD; rw [if_neg hc102, ep', own_nat (show p' < 16 by omega), if_neg hc109, if_neg hc115]), N114, rfl⟩
theorem ef_rm21 (m : MethodId) (x0 : Int32) : entryFrame m #[(.int x0)] 1 = mkF m 0 #[.val (.int x0)] [] := by first | (simp [entryFrame, mkF, argsToLocals, Value.category]; done) | rfl
def DGT (c : Int32) : Int32 := if c < 48 then 0 else if (57 : Int32) < c then 0 else 1
def Q_rm21 (Z : State) (cx : Int32) (h0 : Heap) (n0 : Nat) (v : Option Value) (h : Heap) (L : List Loc) : Prop := (v = some (.int (DGT cx))) ∧ (Fr n0 L) ∧ (h = h0)
theorem pn_5 : plainName "com/example/vestwright/vestwright/InputTextIsPlainDecimalPinLaw" = true := by first | (simp [plainName, overriddenIn]; done) | decide +kernel
theorem d21_0 : decode method_3_code 0 = .ok (.iload_n 0, 1) := by decide +kernel
theorem d21_1 : decode method_3_code 1 = .ok (.bipush 48, 2) := by decide +kernel
theorem d21_3 : decode method_3_code 3 = .ok (.if_icmp .lt 13, 3) := by decide +kernel
theorem d21_16 : decode method_3_code 16 = .ok (.iconst 0, 1) := by decide +kernel
theorem d21_17 : decode method_3_code 17 = .ok (.ireturn, 1) := by decide +kernel
theorem d21_6 : decode method_3_code 6 = .ok (.iload_n 0, 1) := by decide +kernel
theorem d21_7 : decode method_3_code 7 = .ok (.bipush 57, 2) := by decide +kernel
theorem d21_9 : decode method_3_code 9 = .ok (.if_icmp .gt 7, 3) := by decide +kernel
theorem d21_12 : decode method_3_code 12 = .ok (.iconst 1, 1) := by decide +kernel
theorem d21_13 : decode method_3_code 13 = .ok (.goto 4, 3) := by decide +kernel
set_option maxRecDepth 65536 in
set_option maxHeartbeats 40000000 in
theorem rm21 (l : Launch) (Z : State) (a0 : Array Value) (hw : ∀ d ∈ tables_1, d.before a0 Z = true) (ws : List Jvm.Cond) (cx : Int32) (h0 : Heap) (n0 : Nat) (O0 : Old Z n0 h0)  :
    MetFree l (⟨"com/example/vestwright/vestwright/InputTextIsPlainDecimalPinLaw", "digit", "(C)Z"⟩ : MethodName) (head1 (Jvm.Cond.code (⟨"com/example/vestwright/vestwright/InputTextIsPlainDecimalPinLaw", "digit", "(C)Z"⟩ : MethodName) method_3_code 1 (some .boolean) :: ws) ({ frames := 0, cells := 0, slots := 0, locals := 0 } : Room)) (fun a U => a = #[(.int cx)] ∧ Z.Warmed39 U.vm ∧ U.heap = h0) (fun _ _ _ _ _ => True) (fun _ U o U' => ∃ v L, o = .returned v ∧ Q_rm21 Z cx h0 n0 v U'.heap L ∧ FrameEnd U o U' L ({ frames := 0, cells := 0, slots := 0, locals := 0 } : Room).cells ({ frames := 0, cells := 0, slots := 0, locals := 0 } : Room).slots) := by
  refine MetFree.of_bodySF (plainFor_of_name pn_5) hisR ?_
  intro p e s m args below meth c s₁ Bd hml0 hP hK
  obtain ⟨rfl, hZ, hh⟩ := hP
  have hx := Bd.exec
  have hby := Bd.bytes
  have hml : c.maxLocals = 1 := hml0
  have hown : s.vm.findClass "com/example/vestwright/vestwright/InputTextIsPlainDecimalPinLaw" = some m.cls := findClass_of_methodNamed Bd.named
  have hnm := (name_of_methodNamed Bd.named Bd.method).1
  have X0 : Stand p l e ({ frames := 0, cells := 0, slots := 0, locals := 0 } : Room) s m #[(.int cx)] below meth c s₁ [] 0 0 := Stand.of_body Bd
  have e0 : s₁.heap = h0 := by rw [← hh, Bd.state]; rfl
  have N0 := Fr.nil n0
  have Z0 : n0 ≤ h0.size := old_le O0
  have pre0 : ∀ t, Steps p.tables e below (s₁.setTop (mkF m 0 #[.val (.int cx)] [])) t → Steps p.tables e below (s₁.setTop (entryFrame m #[(.int cx)] 1)) t := fun t k => castTop (ef_rm21 m cx) k
  have S102 : ∀ t, Steps p.tables e below (s₁.setTop (mkF m 3 #[.val (.int cx)] [(.int (48 : Int32)), (.int cx)])) t → Steps p.tables e below (s₁.setTop (entryFrame m #[(.int cx)] 1)) t := fun t k => by
    refine pre0 t ?_
    show Steps p.tables e below (s₁.setTop (mkF m 0 #[.val (.int cx)] [])) _
    refine XS.iloadN X0.here hx rfl (hb hby d21_0) rfl ?_
    refine XS.bipush X0.here hx rfl (hb hby d21_1) ?_
    exact k
  by_cases hc101 : cx < (48 : Int32)
  · obtain ⟨fs, hr, hrun, hended, hW, hsame⟩ := X0.leave (v := some (.int (0 : Int32))) (fun h => by rw [Bd.returns] at h; cases h)
    refine ⟨_, _, S102 _ ?_, hrun, hended, _, _, rfl, ?_, ⟨_, rfl⟩, hW, hsame.mono (by decide) (by decide)⟩
    · show Steps p.tables e below (s₁.setTop (mkF m 3 #[.val (.int cx)] [(.int (48 : Int32)), (.int cx)])) _
      refine XS.icmpYes X0.here hx rfl (pc0 := 3) (pc' := 16) rfl (hb hby d21_3) rfl (tlt hc101).1 (by decide) (by decide) ?_
      show Steps p.tables e below (s₁.setTop (mkF m 16 #[.val (.int cx)] [])) _
      refine XS.iconst X0.here hx rfl (hb hby d21_16) ?_
      show Steps p.tables e below (s₁.setTop (mkF m 17 #[.val (.int cx)] [(.int (0 : Int32))])) _
      exact Jvm.RoadKit.retOut X0 hx Bd.returns rfl (Or.inl ⟨rfl, by simp, _, rfl⟩) (hb hby d21_17) hr
    · show Q_rm21 Z cx h0 n0 _ s₁.heap _
      rw [e0]
      unfold Q_rm21
      exact ⟨by simp [DGT, hc101], N0, rfl⟩
  · have S104 : ∀ t, Steps p.tables e below (s₁.setTop (mkF m 9 #[.val (.int cx)] [(.int (57 : Int32)), (.int cx)])) t → Steps p.tables e below (s₁.setTop (entryFrame m #[(.int cx)] 1)) t := fun t k => by
      refine S102 t ?_
      show Steps p.tables e below (s₁.setTop (mkF m 3 #[.val (.int cx)] [(.int (48 : Int32)), (.int cx)])) _
      refine XS.icmpNo X0.here hx rfl (hb hby d21_3) rfl (flt hc101).1 ?_
      show Steps p.tables e below (s₁.setTop (mkF m 6 #[.val (.int cx)] [])) _
      refine XS.iloadN X0.here hx rfl (hb hby d21_6) rfl ?_
      refine XS.bipush X0.here hx rfl (hb hby d21_7) ?_
      exact k
    by_cases hc103 : (57 : Int32) < cx
    · obtain ⟨fs, hr, hrun, hended, hW, hsame⟩ := X0.leave (v := some (.int (0 : Int32))) (fun h => by rw [Bd.returns] at h; cases h)
      refine ⟨_, _, S104 _ ?_, hrun, hended, _, _, rfl, ?_, ⟨_, rfl⟩, hW, hsame.mono (by decide) (by decide)⟩
      · show Steps p.tables e below (s₁.setTop (mkF m 9 #[.val (.int cx)] [(.int (57 : Int32)), (.int cx)])) _
        refine XS.icmpYes X0.here hx rfl (pc0 := 9) (pc' := 16) rfl (hb hby d21_9) rfl (tlt hc103).2.2.1 (by decide) (by decide) ?_
        show Steps p.tables e below (s₁.setTop (mkF m 16 #[.val (.int cx)] [])) _
        refine XS.iconst X0.here hx rfl (hb hby d21_16) ?_
        show Steps p.tables e below (s₁.setTop (mkF m 17 #[.val (.int cx)] [(.int (0 : Int32))])) _
        exact Jvm.RoadKit.retOut X0 hx Bd.returns rfl (Or.inl ⟨rfl, by simp, _, rfl⟩) (hb hby d21_17) hr
      · show Q_rm21 Z cx h0 n0 _ s₁.heap _
        rw [e0]
        unfold Q_rm21
        exact ⟨by simp [DGT, hc101, hc103], N0, rfl⟩
    · obtain ⟨fs, hr, hrun, hended, hW, hsame⟩ := X0.leave (v := some (.int (1 : Int32))) (fun h => by rw [Bd.returns] at h; cases h)
      refine ⟨_, _, S104 _ ?_, hrun, hended, _, _, rfl, ?_, ⟨_, rfl⟩, hW, hsame.mono (by decide) (by decide)⟩
      · show Steps p.tables e below (s₁.setTop (mkF m 9 #[.val (.int cx)] [(.int (57 : Int32)), (.int cx)])) _
        refine XS.icmpNo X0.here hx rfl (hb hby d21_9) rfl (flt hc103).2.2.1 ?_
        show Steps p.tables e below (s₁.setTop (mkF m 12 #[.val (.int cx)] [])) _
        refine XS.iconst X0.here hx rfl (hb hby d21_12) ?_
        refine XS.goto X0.here hx rfl (pc0 := 13) (pc' := 17) rfl (hb hby d21_13) (by decide) (by decide) ?_
        show Steps p.tables e below (s₁.setTop (mkF m 17 #[.val (.int cx)] [(.int (1 : Int32))])) _
        exact Jvm.RoadKit.retOut X0 hx Bd.returns rfl (Or.inl ⟨rfl, by simp, _, rfl⟩) (hb hby d21_17) hr
      · show Q_rm21 Z cx h0 n0 _ s₁.heap _
        rw [e0]
        unfold Q_rm21
        exact ⟨by simp [DGT, hc101, hc103], N0, rfl⟩
theorem ef_rm5 (m : MethodId) (x0 : Int32) (x1 : Int32) (x2 : Int32) : entryFrame m #[(.int x0), (.int x1), (.int x2)] 3 = mkF m 0 #[.val (.int x0), .val (.int x1), .val (.int x2)] [] := by first | (simp [entryFrame, mkF, argsToLocals, Value.category]; done) | rfl
def BAD (c i n : Int32) : Int32 := if i < n then (if DGT c = 0 then (if c = 46 then (if (0 : Int32) < i then (if i < n - 1 then 0 else 1) else 1) else 1) else 0) else 0
def Q_rm5 (Z : State) (cx : Int32) (i1 : Int32) (n1 : Int32) (h0 : Heap) (n0 : Nat) (v : Option Value) (h : Heap) (L : List Loc) : Prop := (v = some (.int (BAD cx i1 n1))) ∧ (Fr n0 L) ∧ (h = h0)
theorem d5_0 : decode method_4_code 0 = .ok (.iload_n 1, 1) := by decide +kernel
theorem d5_1 : decode method_4_code 1 = .ok (.iload_n 2, 1) := by decide +kernel
theorem d5_2 : decode method_4_code 2 = .ok (.if_icmp .lt 5, 3) := by decide +kernel
theorem d5_7 : decode method_4_code 7 = .ok (.iload_n 0, 1) := by decide +kernel
theorem d5_8 : decode method_4_code 8 = .ok (.invokestatic 29, 3) := by decide +kernel
theorem pd_16 : parseMethodDescriptor "(C)Z" = some ⟨[.char], some .boolean⟩ := by decide +kernel
theorem d5_11 : decode method_4_code 11 = .ok (.ifCond .eq 5, 3) := by decide +kernel
theorem d5_16 : decode method_4_code 16 = .ok (.iload_n 0, 1) := by decide +kernel
theorem d5_17 : decode method_4_code 17 = .ok (.bipush 46, 2) := by decide +kernel
theorem d5_19 : decode method_4_code 19 = .ok (.if_icmp .ne 16, 3) := by decide +kernel
theorem d5_22 : decode method_4_code 22 = .ok (.iload_n 1, 1) := by decide +kernel
theorem d5_23 : decode method_4_code 23 = .ok (.ifCond .le 12, 3) := by decide +kernel
theorem d5_26 : decode method_4_code 26 = .ok (.iload_n 1, 1) := by decide +kernel
theorem d5_27 : decode method_4_code 27 = .ok (.iload_n 2, 1) := by decide +kernel
theorem d5_28 : decode method_4_code 28 = .ok (.iconst 1, 1) := by decide +kernel
theorem d5_29 : decode method_4_code 29 = .ok (.isub, 1) := by decide +kernel
theorem d5_30 : decode method_4_code 30 = .ok (.if_icmp .ge 5, 3) := by decide +kernel
theorem d5_33 : decode method_4_code 33 = .ok (.iconst 0, 1) := by decide +kernel
theorem d5_34 : decode method_4_code 34 = .ok (.ireturn, 1) := by decide +kernel
theorem d5_35 : decode method_4_code 35 = .ok (.iconst 1, 1) := by decide +kernel
theorem d5_36 : decode method_4_code 36 = .ok (.ireturn, 1) := by decide +kernel
theorem d5_14 : decode method_4_code 14 = .ok (.iconst 0, 1) := by decide +kernel
theorem d5_15 : decode method_4_code 15 = .ok (.ireturn, 1) := by decide +kernel
theorem d5_5 : decode method_4_code 5 = .ok (.iconst 0, 1) := by decide +kernel
theorem d5_6 : decode method_4_code 6 = .ok (.ireturn, 1) := by decide +kernel
set_option maxRecDepth 65536 in
set_option maxHeartbeats 40000000 in
theorem rm5 (l : Launch) (Z : State) (a0 : Array Value) (hw : ∀ d ∈ tables_1, d.before a0 Z = true) (ws : List Jvm.Cond) (cx : Int32) (i1 : Int32) (n1 : Int32) (h0 : Heap) (n0 : Nat) (O0 : Old Z n0 h0)  :
    MetFree l (⟨"com/example/vestwright/vestwright/InputTextIsPlainDecimalPinLaw", "bad", "(CII)Z"⟩ : MethodName) (head1 (Jvm.Cond.code (⟨"com/example/vestwright/vestwright/InputTextIsPlainDecimalPinLaw", "bad", "(CII)Z"⟩ : MethodName) method_4_code 3 (some .boolean) :: ws) ({ frames := 1, cells := 0, slots := 0, locals := 12 } : Room)) (fun a U => a = #[(.int cx), (.int i1), (.int n1)] ∧ Z.Warmed39 U.vm ∧ U.heap = h0) (fun _ _ _ _ _ => True) (fun _ U o U' => ∃ v L, o = .returned v ∧ Q_rm5 Z cx i1 n1 h0 n0 v U'.heap L ∧ FrameEnd U o U' L ({ frames := 1, cells := 0, slots := 0, locals := 12 } : Room).cells ({ frames := 1, cells := 0, slots := 0, locals := 12 } : Room).slots) := by
  refine MetFree.of_bodySF (plainFor_of_name pn_5) hisR ?_
  intro p e s m args below meth c s₁ Bd hml0 hP hK
  obtain ⟨rfl, hZ, hh⟩ := hP
  have hx := Bd.exec
  have hby := Bd.bytes
  have hml : c.maxLocals = 3 := hml0
  have hown : s.vm.findClass "com/example/vestwright/vestwright/InputTextIsPlainDecimalPinLaw" = some m.cls := findClass_of_methodNamed Bd.named
  have hnm := (name_of_methodNamed Bd.named Bd.method).1
  have X0 : Stand p l e ({ frames := 1, cells := 0, slots := 0, locals := 12 } : Room) s m #[(.int cx), (.int i1), (.int n1)] below meth c s₁ [] 0 0 := Stand.of_body Bd
  have e0 : s₁.heap = h0 := by rw [← hh, Bd.state]; rfl
  have N0 := Fr.nil n0
  have Z0 : n0 ≤ h0.size := old_le O0
  have pre0 : ∀ t, Steps p.tables e below (s₁.setTop (mkF m 0 #[.val (.int cx), .val (.int i1), .val (.int n1)] [])) t → Steps p.tables e below (s₁.setTop (entryFrame m #[(.int cx), (.int i1), (.int n1)] 3)) t := fun t k => castTop (ef_rm5 m cx i1 n1) k
  have S102 : ∀ t, Steps p.tables e below (s₁.setTop (mkF m 2 #[.val (.int cx), .val (.int i1), .val (.int n1)] [(.int n1), (.int i1)])) t → Steps p.tables e below (s₁.setTop (entryFrame m #[(.int cx), (.int i1), (.int n1)] 3)) t := fun t k => by
    refine pre0 t ?_
    show Steps p.tables e below (s₁.setTop (mkF m 0 #[.val (.int cx), .val (.int i1), .val (.int n1)] [])) _
    refine XS.iloadN X0.here hx rfl (hb hby d5_0) rfl ?_
    refine XS.iloadN X0.here hx rfl (hb hby d5_1) rfl ?_
    exact k
  by_cases hc101 : i1 < n1
  · obtain ⟨_, _, ⟨T103, L103, k103, n103⟩, -, X103, ⟨Lc103, hQ103, l103, y103, z103⟩, st103⟩ := Jvm.LawKit.callS X0 hx (y := (⟨"com/example/vestwright/vestwright/InputTextIsPlainDecimalPinLaw", "digit", "(C)Z"⟩ : MethodName)) hown (mvT hZ (hwk hw 92 rfl)) (mvT hZ (hwk hw 93 rfl)) (mvT hZ (hwk hw 4 rfl)) (mvT hZ (hwk hw 94 rfl)) (by decide) (backOf (W := 0) (rm21 l Z a0 hw [] cx h0 n0 O0 ) hZ (hwk hw 94 rfl) (hwk hw 4 rfl) (by decide) (by decide)) (g := (mkF m 8 #[.val (.int cx), .val (.int i1), .val (.int n1)] [(.int cx)])) rfl (by rw [hml]; rfl) (argsL := [(.int cx)]) (rest := []) (lenOf pd_16 rfl) rfl (by show 2 * 0 + _ ≤ _; exact Nat.le_of_eq rfl) (hb hby d5_8) (fun _ _ => ⟨rfl, e0, (by decide : 0 + 0 ≤ _), (by decide : 0 + 0 ≤ _)⟩)
    dsimp only [Pt.U, Pt.locs, Pt.cells, Pt.slots] at X103 l103 y103 z103 st103 hQ103
    subst l103 y103 z103
    unfold Q_rm21 at hQ103
    obtain ⟨rfl, N103q, e103⟩ := hQ103
    have N103 := Fr.app N0 N103q
    have S105 : ∀ t, Steps p.tables e below (T103.setTop (mkF m 11 #[.val (.int cx), .val (.int i1), .val (.int n1)] [(.int (DGT cx))])) t → Steps p.tables e below (s₁.setTop (entryFrame m #[(.int cx), (.int i1), (.int n1)] 3)) t := fun t k => by
      refine S102 t ?_
      show Steps p.tables e below (s₁.setTop (mkF m 2 #[.val (.int cx), .val (.int i1), .val (.int n1)] [(.int n1), (.int i1)])) _
      refine XS.icmpYes X0.here hx rfl (pc0 := 2) (pc' := 7) rfl (hb hby d5_2) rfl (tlt hc101).1 (by decide) (by decide) ?_
      show Steps p.tables e below (s₁.setTop (mkF m 7 #[.val (.int cx), .val (.int i1), .val (.int n1)] [])) _
      refine XS.iloadN X0.here hx rfl (hb hby d5_7) rfl ?_
      show Steps p.tables e below (s₁.setTop (mkF m 8 #[.val (.int cx), .val (.int i1), .val (.int n1)] [(.int cx)])) _
      refine st103 _ ?_
      exact k
    by_cases hc104 : (DGT cx) = (0 : Int32)
    · have S107 : ∀ t, Steps p.tables e below (T103.setTop (mkF m 19 #[.val (.int cx), .val (.int i1), .val (.int n1)] [(.int (46 : Int32)), (.int cx)])) t → Steps p.tables e below (s₁.setTop (entryFrame m #[(.int cx), (.int i1), (.int n1)] 3)) t := fun t k => by
        refine S105 t ?_
        show Steps p.tables e below (T103.setTop (mkF m 11 #[.val (.int cx), .val (.int i1), .val (.int n1)] [(.int (DGT cx))])) _
        refine XS.ifYes X103.here hx rfl (pc0 := 11) (pc' := 16) rfl (hb hby d5_11) rfl ((if0 _ _).trans (teq hc104).1) (by decide) (by decide) ?_
        show Steps p.tables e below (T103.setTop (mkF m 16 #[.val (.int cx), .val (.int i1), .val (.int n1)] [])) _
        refine XS.iloadN X103.here hx rfl (hb hby d5_16) rfl ?_
        refine XS.bipush X103.here hx rfl (hb hby d5_17) ?_
        exact k
      by_cases hc106 : cx = (46 : Int32)
      · have S109 : ∀ t, Steps p.tables e below (T103.setTop (mkF m 23 #[.val (.int cx), .val (.int i1), .val (.int n1)] [(.int i1)])) t → Steps p.tables e below (s₁.setTop (entryFrame m #[(.int cx), (.int i1), (.int n1)] 3)) t := fun t k => by
          refine S107 t ?_
          show Steps p.tables e below (T103.setTop (mkF m 19 #[.val (.int cx), .val (.int i1), .val (.int n1)] [(.int (46 : Int32)), (.int cx)])) _
          refine XS.icmpNo X103.here hx rfl (hb hby d5_19) rfl (teq hc106).2 ?_
          show Steps p.tables e below (T103.setTop (mkF m 22 #[.val (.int cx), .val (.int i1), .val (.int n1)] [])) _
          refine XS.iloadN X103.here hx rfl (hb hby d5_22) rfl ?_
          exact k
        by_cases hc108 : (0 : Int32) < i1
        · have S111 : ∀ t, Steps p.tables e below (T103.setTop (mkF m 30 #[.val (.int cx), .val (.int i1), .val (.int n1)] [(.int (n1 - (1 : Int32))), (.int i1)])) t → Steps p.tables e below (s₁.setTop (entryFrame m #[(.int cx), (.int i1), (.int n1)] 3)) t := fun t k => by
            refine S109 t ?_
            show Steps p.tables e below (T103.setTop (mkF m 23 #[.val (.int cx), .val (.int i1), .val (.int n1)] [(.int i1)])) _
            refine XS.ifNo X103.here hx rfl (hb hby d5_23) rfl ((if0 _ _).trans (tlt hc108).2.2.2) ?_
            show Steps p.tables e below (T103.setTop (mkF m 26 #[.val (.int cx), .val (.int i1), .val (.int n1)] [])) _
            refine XS.iloadN X103.here hx rfl (hb hby d5_26) rfl ?_
            refine XS.iloadN X103.here hx rfl (hb hby d5_27) rfl ?_
            refine XS.iconst X103.here hx rfl (hb hby d5_28) ?_
            refine XS.isub X103.here hx rfl (hb hby d5_29) rfl ?_
            exact k
          by_cases hc110 : i1 < (n1 - (1 : Int32))
          · obtain ⟨fs, hr, hrun, hended, hW, hsame⟩ := X103.leave (v := some (.int (0 : Int32))) (fun h => by rw [Bd.returns] at h; cases h)
            refine ⟨_, _, S111 _ ?_, hrun, hended, _, _, rfl, ?_, ⟨_, rfl⟩, hW, hsame.mono (by decide) (by decide)⟩
            · show Steps p.tables e below (T103.setTop (mkF m 30 #[.val (.int cx), .val (.int i1), .val (.int n1)] [(.int (n1 - (1 : Int32))), (.int i1)])) _
              refine XS.icmpNo X103.here hx rfl (hb hby d5_30) rfl (tlt hc110).2.1 ?_
              show Steps p.tables e below (T103.setTop (mkF m 33 #[.val (.int cx), .val (.int i1), .val (.int n1)] [])) _
              refine XS.iconst X103.here hx rfl (hb hby d5_33) ?_
              show Steps p.tables e below (T103.setTop (mkF m 34 #[.val (.int cx), .val (.int i1), .val (.int n1)] [(.int (0 : Int32))])) _
              exact Jvm.RoadKit.retOut X103 hx Bd.returns rfl (Or.inl ⟨rfl, by simp, _, rfl⟩) (hb hby d5_34) hr
            · show Q_rm5 Z cx i1 n1 h0 n0 _ T103.heap _
              rw [e103]
              unfold Q_rm5
              exact ⟨(by unfold BAD; rw [if_pos hc101, if_pos hc104, if_pos hc106, if_pos hc108, if_pos hc110]), N103, rfl⟩
          · obtain ⟨fs, hr, hrun, hended, hW, hsame⟩ := X103.leave (v := some (.int (1 : Int32))) (fun h => by rw [Bd.returns] at h; cases h)
            refine ⟨_, _, S111 _ ?_, hrun, hended, _, _, rfl, ?_, ⟨_, rfl⟩, hW, hsame.mono (by decide) (by decide)⟩
            · show Steps p.tables e below (T103.setTop (mkF m 30 #[.val (.int cx), .val (.int i1), .val (.int n1)] [(.int (n1 - (1 : Int32))), (.int i1)])) _
              refine XS.icmpYes X103.here hx rfl (pc0 := 30) (pc' := 35) rfl (hb hby d5_30) rfl (flt hc110).2.1 (by decide) (by decide) ?_
              show Steps p.tables e below (T103.setTop (mkF m 35 #[.val (.int cx), .val (.int i1), .val (.int n1)] [])) _
              refine XS.iconst X103.here hx rfl (hb hby d5_35) ?_
              show Steps p.tables e below (T103.setTop (mkF m 36 #[.val (.int cx), .val (.int i1), .val (.int n1)] [(.int (1 : Int32))])) _
              exact Jvm.RoadKit.retOut X103 hx Bd.returns rfl (Or.inl ⟨rfl, by simp, _, rfl⟩) (hb hby d5_36) hr
            · show Q_rm5 Z cx i1 n1 h0 n0 _ T103.heap _
              rw [e103]
              unfold Q_rm5
              exact ⟨(by unfold BAD; rw [if_pos hc101, if_pos hc104, if_pos hc106, if_pos hc108, if_neg hc110]), N103, rfl⟩
        · obtain ⟨fs, hr, hrun, hended, hW, hsame⟩ := X103.leave (v := some (.int (1 : Int32))) (fun h => by rw [Bd.returns] at h; cases h)
          refine ⟨_, _, S109 _ ?_, hrun, hended, _, _, rfl, ?_, ⟨_, rfl⟩, hW, hsame.mono (by decide) (by decide)⟩
          · show Steps p.tables e below (T103.setTop (mkF m 23 #[.val (.int cx), .val (.int i1), .val (.int n1)] [(.int i1)])) _
            refine XS.ifYes X103.here hx rfl (pc0 := 23) (pc' := 35) rfl (hb hby d5_23) rfl ((if0 _ _).trans (flt hc108).2.2.2) (by decide) (by decide) ?_
            show Steps p.tables e below (T103.setTop (mkF m 35 #[.val (.int cx), .val (.int i1), .val (.int n1)] [])) _
            refine XS.iconst X103.here hx rfl (hb hby d5_35) ?_
            show Steps p.tables e below (T103.setTop (mkF m 36 #[.val (.int cx), .val (.int i1), .val (.int n1)] [(.int (1 : Int32))])) _
            exact Jvm.RoadKit.retOut X103 hx Bd.returns rfl (Or.inl ⟨rfl, by simp, _, rfl⟩) (hb hby d5_36) hr
          · show Q_rm5 Z cx i1 n1 h0 n0 _ T103.heap _
            rw [e103]
            unfold Q_rm5
            exact ⟨(by unfold BAD; rw [if_pos hc101, if_pos hc104, if_pos hc106, if_neg hc108]), N103, rfl⟩
      · obtain ⟨fs, hr, hrun, hended, hW, hsame⟩ := X103.leave (v := some (.int (1 : Int32))) (fun h => by rw [Bd.returns] at h; cases h)
        refine ⟨_, _, S107 _ ?_, hrun, hended, _, _, rfl, ?_, ⟨_, rfl⟩, hW, hsame.mono (by decide) (by decide)⟩
        · show Steps p.tables e below (T103.setTop (mkF m 19 #[.val (.int cx), .val (.int i1), .val (.int n1)] [(.int (46 : Int32)), (.int cx)])) _
          refine XS.icmpYes X103.here hx rfl (pc0 := 19) (pc' := 35) rfl (hb hby d5_19) rfl (feq hc106).2 (by decide) (by decide) ?_
          show Steps p.tables e below (T103.setTop (mkF m 35 #[.val (.int cx), .val (.int i1), .val (.int n1)] [])) _
          refine XS.iconst X103.here hx rfl (hb hby d5_35) ?_
          show Steps p.tables e below (T103.setTop (mkF m 36 #[.val (.int cx), .val (.int i1), .val (.int n1)] [(.int (1 : Int32))])) _
          exact Jvm.RoadKit.retOut X103 hx Bd.returns rfl (Or.inl ⟨rfl, by simp, _, rfl⟩) (hb hby d5_36) hr
        · show Q_rm5 Z cx i1 n1 h0 n0 _ T103.heap _
          rw [e103]
          unfold Q_rm5
          exact ⟨(by unfold BAD; rw [if_pos hc101, if_pos hc104, if_neg hc106]), N103, rfl⟩
    · obtain ⟨fs, hr, hrun, hended, hW, hsame⟩ := X103.leave (v := some (.int (0 : Int32))) (fun h => by rw [Bd.returns] at h; cases h)
      refine ⟨_, _, S105 _ ?_, hrun, hended, _, _, rfl, ?_, ⟨_, rfl⟩, hW, hsame.mono (by decide) (by decide)⟩
      · show Steps p.tables e below (T103.setTop (mkF m 11 #[.val (.int cx), .val (.int i1), .val (.int n1)] [(.int (DGT cx))])) _
        refine XS.ifNo X103.here hx rfl (hb hby d5_11) rfl ((if0 _ _).trans (feq hc104).1) ?_
        show Steps p.tables e below (T103.setTop (mkF m 14 #[.val (.int cx), .val (.int i1), .val (.int n1)] [])) _
        refine XS.iconst X103.here hx rfl (hb hby d5_14) ?_
        show Steps p.tables e below (T103.setTop (mkF m 15 #[.val (.int cx), .val (.int i1), .val (.int n1)] [(.int (0 : Int32))])) _
        exact Jvm.RoadKit.retOut X103 hx Bd.returns rfl (Or.inl ⟨rfl, by simp, _, rfl⟩) (hb hby d5_15) hr
      · show Q_rm5 Z cx i1 n1 h0 n0 _ T103.heap _
        rw [e103]
        unfold Q_rm5
        exact ⟨(by unfold BAD; rw [if_pos hc101, if_neg hc104]), N103, rfl⟩
  · obtain ⟨fs, hr, hrun, hended, hW, hsame⟩ := X0.leave (v := some (.int (0 : Int32))) (fun h => by rw [Bd.returns] at h; cases h)
    refine ⟨_, _, S102 _ ?_, hrun, hended, _, _, rfl, ?_, ⟨_, rfl⟩, hW, hsame.mono (by decide) (by decide)⟩
    · show Steps p.tables e below (s₁.setTop (mkF m 2 #[.val (.int cx), .val (.int i1), .val (.int n1)] [(.int n1), (.int i1)])) _
      refine XS.icmpNo X0.here hx rfl (hb hby d5_2) rfl (flt hc101).1 ?_
      show Steps p.tables e below (s₁.setTop (mkF m 5 #[.val (.int cx), .val (.int i1), .val (.int n1)] [])) _
      refine XS.iconst X0.here hx rfl (hb hby d5_5) ?_
      show Steps p.tables e below (s₁.setTop (mkF m 6 #[.val (.int cx), .val (.int i1), .val (.int n1)] [(.int (0 : Int32))])) _
      exact Jvm.RoadKit.retOut X0 hx Bd.returns rfl (Or.inl ⟨rfl, by simp, _, rfl⟩) (hb hby d5_6) hr
    · show Q_rm5 Z cx i1 n1 h0 n0 _ s₁.heap _
      rw [e0]
      unfold Q_rm5
      exact ⟨(by unfold BAD; rw [if_neg hc101]), N0, rfl⟩
theorem ef_rm6 (m : MethodId) (x0 : Int32) (x1 : Int32) (x2 : Int32) : entryFrame m #[(.int x0), (.int x1), (.int x2)] 3 = mkF m 0 #[.val (.int x0), .val (.int x1), .val (.int x2)] [] := by first | (simp [entryFrame, mkF, argsToLocals, Value.category]; done) | rfl
def DOT (c i n : Int32) : Int32 := if i < n then (if c = 46 then 1 else 0) else 0
def Q_rm6 (Z : State) (cx : Int32) (i1 : Int32) (n1 : Int32) (h0 : Heap) (n0 : Nat) (v : Option Value) (h : Heap) (L : List Loc) : Prop := (v = some (.int (DOT cx i1 n1))) ∧ (Fr n0 L) ∧ (h = h0)
theorem d6_0 : decode method_5_code 0 = .ok (.iload_n 1, 1) := by decide +kernel
theorem d6_1 : decode method_5_code 1 = .ok (.iload_n 2, 1) := by decide +kernel
theorem d6_2 : decode method_5_code 2 = .ok (.if_icmp .ge 13, 3) := by decide +kernel
theorem d6_5 : decode method_5_code 5 = .ok (.iload_n 0, 1) := by decide +kernel
theorem d6_6 : decode method_5_code 6 = .ok (.bipush 46, 2) := by decide +kernel
theorem d6_8 : decode method_5_code 8 = .ok (.if_icmp .ne 7, 3) := by decide +kernel
theorem d6_11 : decode method_5_code 11 = .ok (.iconst 1, 1) := by decide +kernel
theorem d6_12 : decode method_5_code 12 = .ok (.goto 4, 3) := by decide +kernel
theorem d6_16 : decode method_5_code 16 = .ok (.ireturn, 1) := by decide +kernel
theorem d6_15 : decode method_5_code 15 = .ok (.iconst 0, 1) := by decide +kernel
set_option maxRecDepth 65536 in
set_option maxHeartbeats 40000000 in
theorem rm6 (l : Launch) (Z : State) (a0 : Array Value) (hw : ∀ d ∈ tables_1, d.before a0 Z = true) (ws : List Jvm.Cond) (cx : Int32) (i1 : Int32) (n1 : Int32) (h0 : Heap) (n0 : Nat) (O0 : Old Z n0 h0)  :
    MetFree l (⟨"com/example/vestwright/vestwright/InputTextIsPlainDecimalPinLaw", "dot", "(CII)I"⟩ : MethodName) (head1 (Jvm.Cond.code (⟨"com/example/vestwright/vestwright/InputTextIsPlainDecimalPinLaw", "dot", "(CII)I"⟩ : MethodName) method_5_code 3 (some .int) :: ws) ({ frames := 0, cells := 0, slots := 0, locals := 0 } : Room)) (fun a U => a = #[(.int cx), (.int i1), (.int n1)] ∧ Z.Warmed39 U.vm ∧ U.heap = h0) (fun _ _ _ _ _ => True) (fun _ U o U' => ∃ v L, o = .returned v ∧ Q_rm6 Z cx i1 n1 h0 n0 v U'.heap L ∧ FrameEnd U o U' L ({ frames := 0, cells := 0, slots := 0, locals := 0 } : Room).cells ({ frames := 0, cells := 0, slots := 0, locals := 0 } : Room).slots) := by
  refine MetFree.of_bodySF (plainFor_of_name pn_5) hisR ?_
  intro p e s m args below meth c s₁ Bd hml0 hP hK
  obtain ⟨rfl, hZ, hh⟩ := hP
  have hx := Bd.exec
  have hby := Bd.bytes
  have hml : c.maxLocals = 3 := hml0
  have hown : s.vm.findClass "com/example/vestwright/vestwright/InputTextIsPlainDecimalPinLaw" = some m.cls := findClass_of_methodNamed Bd.named
  have hnm := (name_of_methodNamed Bd.named Bd.method).1
  have X0 : Stand p l e ({ frames := 0, cells := 0, slots := 0, locals := 0 } : Room) s m #[(.int cx), (.int i1), (.int n1)] below meth c s₁ [] 0 0 := Stand.of_body Bd
  have e0 : s₁.heap = h0 := by rw [← hh, Bd.state]; rfl
  have N0 := Fr.nil n0
  have Z0 : n0 ≤ h0.size := old_le O0
  have pre0 : ∀ t, Steps p.tables e below (s₁.setTop (mkF m 0 #[.val (.int cx), .val (.int i1), .val (.int n1)] [])) t → Steps p.tables e below (s₁.setTop (entryFrame m #[(.int cx), (.int i1), (.int n1)] 3)) t := fun t k => castTop (ef_rm6 m cx i1 n1) k
  have S102 : ∀ t, Steps p.tables e below (s₁.setTop (mkF m 2 #[.val (.int cx), .val (.int i1), .val (.int n1)] [(.int n1), (.int i1)])) t → Steps p.tables e below (s₁.setTop (entryFrame m #[(.int cx), (.int i1), (.int n1)] 3)) t := fun t k => by
    refine pre0 t ?_
    show Steps p.tables e below (s₁.setTop (mkF m 0 #[.val (.int cx), .val (.int i1), .val (.int n1)] [])) _
    refine XS.iloadN X0.here hx rfl (hb hby d6_0) rfl ?_
    refine XS.iloadN X0.here hx rfl (hb hby d6_1) rfl ?_
    exact k
  by_cases hc101 : i1 < n1
  · have S104 : ∀ t, Steps p.tables e below (s₁.setTop (mkF m 8 #[.val (.int cx), .val (.int i1), .val (.int n1)] [(.int (46 : Int32)), (.int cx)])) t → Steps p.tables e below (s₁.setTop (entryFrame m #[(.int cx), (.int i1), (.int n1)] 3)) t := fun t k => by
      refine S102 t ?_
      show Steps p.tables e below (s₁.setTop (mkF m 2 #[.val (.int cx), .val (.int i1), .val (.int n1)] [(.int n1), (.int i1)])) _
      refine XS.icmpNo X0.here hx rfl (hb hby d6_2) rfl (tlt hc101).2.1 ?_
      show Steps p.tables e below (s₁.setTop (mkF m 5 #[.val (.int cx), .val (.int i1), .val (.int n1)] [])) _
      refine XS.iloadN X0.here hx rfl (hb hby d6_5) rfl ?_
      refine XS.bipush X0.here hx rfl (hb hby d6_6) ?_
      exact k
    by_cases hc103 : cx = (46 : Int32)
    · obtain ⟨fs, hr, hrun, hended, hW, hsame⟩ := X0.leave (v := some (.int (1 : Int32))) (fun h => by rw [Bd.returns] at h; cases h)
      refine ⟨_, _, S104 _ ?_, hrun, hended, _, _, rfl, ?_, ⟨_, rfl⟩, hW, hsame.mono (by decide) (by decide)⟩
      · show Steps p.tables e below (s₁.setTop (mkF m 8 #[.val (.int cx), .val (.int i1), .val (.int n1)] [(.int (46 : Int32)), (.int cx)])) _
        refine XS.icmpNo X0.here hx rfl (hb hby d6_8) rfl (teq hc103).2 ?_
        show Steps p.tables e below (s₁.setTop (mkF m 11 #[.val (.int cx), .val (.int i1), .val (.int n1)] [])) _
        refine XS.iconst X0.here hx rfl (hb hby d6_11) ?_
        refine XS.goto X0.here hx rfl (pc0 := 12) (pc' := 16) rfl (hb hby d6_12) (by decide) (by decide) ?_
        show Steps p.tables e below (s₁.setTop (mkF m 16 #[.val (.int cx), .val (.int i1), .val (.int n1)] [(.int (1 : Int32))])) _
        exact Jvm.RoadKit.retOut X0 hx Bd.returns rfl (Or.inl ⟨rfl, by simp, _, rfl⟩) (hb hby d6_16) hr
      · show Q_rm6 Z cx i1 n1 h0 n0 _ s₁.heap _
        rw [e0]
        unfold Q_rm6
        exact ⟨by simp [DOT, hc101, hc103], N0, rfl⟩
    · obtain ⟨fs, hr, hrun, hended, hW, hsame⟩ := X0.leave (v := some (.int (0 : Int32))) (fun h => by rw [Bd.returns] at h; cases h)
      refine ⟨_, _, S104 _ ?_, hrun, hended, _, _, rfl, ?_, ⟨_, rfl⟩, hW, hsame.mono (by decide) (by decide)⟩
      · show Steps p.tables e below (s₁.setTop (mkF m 8 #[.val (.int cx), .val (.int i1), .val (.int n1)] [(.int (46 : Int32)), (.int cx)])) _
        refine XS.icmpYes X0.here hx rfl (pc0 := 8) (pc' := 15) rfl (hb hby d6_8) rfl (feq hc103).2 (by decide) (by decide) ?_
        show Steps p.tables e below (s₁.setTop (mkF m 15 #[.val (.int cx), .val (.int i1), .val (.int n1)] [])) _
        refine XS.iconst X0.here hx rfl (hb hby d6_15) ?_
        show Steps p.tables e below (s₁.setTop (mkF m 16 #[.val (.int cx), .val (.int i1), .val (.int n1)] [(.int (0 : Int32))])) _
        exact Jvm.RoadKit.retOut X0 hx Bd.returns rfl (Or.inl ⟨rfl, by simp, _, rfl⟩) (hb hby d6_16) hr
      · show Q_rm6 Z cx i1 n1 h0 n0 _ s₁.heap _
        rw [e0]
        unfold Q_rm6
        exact ⟨by simp [DOT, hc101, hc103], N0, rfl⟩
  · obtain ⟨fs, hr, hrun, hended, hW, hsame⟩ := X0.leave (v := some (.int (0 : Int32))) (fun h => by rw [Bd.returns] at h; cases h)
    refine ⟨_, _, S102 _ ?_, hrun, hended, _, _, rfl, ?_, ⟨_, rfl⟩, hW, hsame.mono (by decide) (by decide)⟩
    · show Steps p.tables e below (s₁.setTop (mkF m 2 #[.val (.int cx), .val (.int i1), .val (.int n1)] [(.int n1), (.int i1)])) _
      refine XS.icmpYes X0.here hx rfl (pc0 := 2) (pc' := 15) rfl (hb hby d6_2) rfl (flt hc101).2.1 (by decide) (by decide) ?_
      show Steps p.tables e below (s₁.setTop (mkF m 15 #[.val (.int cx), .val (.int i1), .val (.int n1)] [])) _
      refine XS.iconst X0.here hx rfl (hb hby d6_15) ?_
      show Steps p.tables e below (s₁.setTop (mkF m 16 #[.val (.int cx), .val (.int i1), .val (.int n1)] [(.int (0 : Int32))])) _
      exact Jvm.RoadKit.retOut X0 hx Bd.returns rfl (Or.inl ⟨rfl, by simp, _, rfl⟩) (hb hby d6_16) hr
    · show Q_rm6 Z cx i1 n1 h0 n0 _ s₁.heap _
      rw [e0]
      unfold Q_rm6
      exact ⟨by simp [DOT, hc101], N0, rfl⟩
theorem own_arv {Z : State} {h : Heap} {a : Addr} {k : ClassId} {ty : FieldType} {z : Int32} {vs vs' : List Value} {dv : Value} (A : Arv Z h a k ty z vs dv) (e : vs = vs') : Arv Z h a k ty z vs' dv := e ▸ A
theorem own_nb (x : Int32) : nar .byte (x.toInt8.toInt32) = x.toInt8.toInt32 := by
  show (x.toInt8.toInt32).toInt8.toInt32 = x.toInt8.toInt32
  rw [Int8.toInt8_toInt32]
theorem own_coder {n : Nat} (h0 : 0 < n) (h : n ≤ 6) : nar .byte ((((((Int32.ofNat n) - (Int32.ofNat (2 * n))).toUInt32 >>> ((31 : Int32) &&& 31).toUInt32).toInt32).toInt8.toInt32)) = (1 : Int32) :=
  (by decide +kernel : ∀ k : Fin 7, 0 < k.val → nar .byte ((((((Int32.ofNat k.val) - (Int32.ofNat (2 * k.val))).toUInt32 >>> ((31 : Int32) &&& 31).toUInt32).toInt32).toInt8.toInt32)) = (1 : Int32)) ⟨n, by omega⟩ h0
theorem own_big {n : Nat} (h : n < 16) : Int32.ofNat n < (1073741823 : Int32) := own_n16 (fun n => Int32.ofNat n < (1073741823 : Int32)) (by decide +kernel) h
theorem own_ne0 {n : Nat} (h0 : 0 < n) (h : n ≤ 6) : ¬ Int32.ofNat n = (0 : Int32) := (by decide +kernel : ∀ k : Fin 7, 0 < k.val → ¬ Int32.ofNat k.val = (0 : Int32)) ⟨n, by omega⟩ h0
theorem own_neq {a n : Nat} (h0 : a < n) (h : n ≤ 6) : ¬ Int32.ofNat a = Int32.ofNat n := (by decide +kernel : ∀ k n : Fin 7, k.val < n.val → ¬ Int32.ofNat k.val = Int32.ofNat n.val) ⟨a, by omega⟩ ⟨n, by omega⟩ h0
def UB (cs : List Int32) (j : Nat) : List Value := wideBytes (cs.take j) ++ List.replicate (2 * (cs.length - j)) (.int 0)
theorem own_wl : ∀ cs : List Int32, (wideBytes cs).length = 2 * cs.length
  | [] => rfl
  | c :: cs => by
    have := own_wl cs
    simp only [StrChars.Road.wideBytes, List.length_cons, this]; omega
theorem own_wa : ∀ (cs : List Int32) (c : Int32), wideBytes (cs ++ [c]) = wideBytes cs ++ [.int (lo8 c), .int (hi8 c)]
  | [], c => rfl
  | d :: cs, c => by
    have := own_wa cs c
    simp only [List.cons_append, StrChars.Road.wideBytes, this]
theorem own_ub0 (cs : List Int32) : List.replicate (2 * cs.length) (.int 0) = UB cs 0 := by simp [UB, StrChars.Road.wideBytes]
theorem own_ubl {cs : List Int32} {j : Nat} (h : j ≤ cs.length) : (UB cs j).length = 2 * cs.length := by
  unfold UB
  rw [List.length_append, own_wl, List.length_take, List.length_replicate]
  omega
theorem own_ubs {cs : List Int32} {j : Nat} (h : j < cs.length) : ((UB cs j).set (2 * j) (.int (lo8 (cs.getD j 0)))).set (2 * j + 1) (.int (hi8 (cs.getD j 0))) = UB cs (j + 1) := by
  unfold UB
  have e : cs.take (j + 1) = cs.take j ++ [cs.getD j 0] := by rw [own_gE h]; exact List.take_succ_eq_append_getElem h
  have l1 : (wideBytes (cs.take j)).length = 2 * j := by rw [own_wl, List.length_take]; omega
  rw [e, own_wa, List.append_assoc]
  have e2 : 2 * (cs.length - j) = (2 * (cs.length - (j + 1))) + 1 + 1 := by omega
  rw [e2, List.replicate_succ, List.replicate_succ, List.set_append_right _ _ (by omega), List.set_append_right _ _ (by omega), l1]
  simp
theorem own_ube {cs : List Int32} {j : Nat} (h : ¬ j < cs.length) : UB cs j = wideBytes cs := by
  unfold UB
  rw [List.take_of_length_le (by omega), show cs.length - j = 0 by omega]
  simp
theorem own_cm {cs : List Int32} {j : Nat} (h : j < cs.length) (hs : cs.length ≤ 6) {d : Value} : (cs.map Value.int).getD (Int32.ofNat j).toNatClampNeg d = .int (cs.getD j 0) := by
  rw [own_nat (by omega)]
  simp [List.getD_eq_getElem?_getD, h]
theorem ef_rm20 (m : MethodId) (x0 : Addr) (x1 : Int32) : entryFrame m #[(.ref x0), (.int x1)] 2 = mkF m 0 #[.val (.ref x0), .val (.int x1)] [] := by first | (simp [entryFrame, mkF, argsToLocals, Value.category]; done) | rfl
def Q_rm20 (Z : State) (t1 : Addr) (k1 : ClassId) (cs : List Int32) (h0 : Heap) (n0 : Nat) (v : Option Value) (h : Heap) (L : List Loc) : Prop := (v = some (.int (1 : Int32))) ∧ (Fr n0 L) ∧ (h = h0)
theorem d20_0 : decode jdk_52_method_15_code 0 = .ok (.iload_n 1, 1) := by decide +kernel
theorem d20_1 : decode jdk_52_method_15_code 1 = .ok (.aload_n 0, 1) := by decide +kernel
theorem d20_2 : decode jdk_52_method_15_code 2 = .ok (.arraylength, 1) := by decide +kernel
theorem d20_3 : decode jdk_52_method_15_code 3 = .ok (.isub, 1) := by decide +kernel
theorem d20_4 : decode jdk_52_method_15_code 4 = .ok (.bipush 31, 2) := by decide +kernel
theorem d20_6 : decode jdk_52_method_15_code 6 = .ok (.iushr, 1) := by decide +kernel
theorem d20_7 : decode jdk_52_method_15_code 7 = .ok (.i2b, 1) := by decide +kernel
theorem d20_8 : decode jdk_52_method_15_code 8 = .ok (.ireturn, 1) := by decide +kernel
set_option maxRecDepth 65536 in
set_option maxHeartbeats 40000000 in
theorem rm20 (l : Launch) (Z : State) (a0 : Array Value) (hw : ∀ d ∈ tables_1, d.before a0 Z = true) (ws : List Jvm.Cond) (t1 : Addr) (k1 : ClassId) (cs : List Int32) (h0 : Heap) (n0 : Nat) (O0 : Old Z n0 h0) (AW : Arv Z h0 t1 k1 .byte (Int32.ofNat (2 * cs.length)) (wideBytes cs) (.int (0 : Int32))) (hs : cs.length ≤ 6) (h0l : 0 < cs.length) :
    MetFree l (⟨"java/lang/StringUTF16", "coderFromArrayLen", "([BI)B"⟩ : MethodName) (head1 (Jvm.Cond.code (⟨"java/lang/StringUTF16", "coderFromArrayLen", "([BI)B"⟩ : MethodName) jdk_52_method_15_code 2 (some .byte) :: ws) ({ frames := 0, cells := 0, slots := 0, locals := 0 } : Room)) (fun a U => a = #[(.ref t1), (.int (Int32.ofNat cs.length))] ∧ Z.Warmed39 U.vm ∧ U.heap = h0) (fun _ _ _ _ _ => True) (fun _ U o U' => ∃ v L, o = .returned v ∧ Q_rm20 Z t1 k1 cs h0 n0 v U'.heap L ∧ FrameEnd U o U' L ({ frames := 0, cells := 0, slots := 0, locals := 0 } : Room).cells ({ frames := 0, cells := 0, slots := 0, locals := 0 } : Room).slots) := by
  refine MetFree.of_bodySF (plainFor_of_name pn_0) hisR ?_
  intro p e s m args below meth c s₁ Bd hml0 hP hK
  obtain ⟨rfl, hZ, hh⟩ := hP
  have hx := Bd.exec
  have hby := Bd.bytes
  have hml : c.maxLocals = 2 := hml0
  have hown : s.vm.findClass "java/lang/StringUTF16" = some m.cls := findClass_of_methodNamed Bd.named
  have hnm := (name_of_methodNamed Bd.named Bd.method).1
  have X0 : Stand p l e ({ frames := 0, cells := 0, slots := 0, locals := 0 } : Room) s m #[(.ref t1), (.int (Int32.ofNat cs.length))] below meth c s₁ [] 0 0 := Stand.of_body Bd
  have e0 : s₁.heap = h0 := by rw [← hh, Bd.state]; rfl
  have N0 := Fr.nil n0
  have Z0 : n0 ≤ h0.size := old_le O0
  have pre0 : ∀ t, Steps p.tables e below (s₁.setTop (mkF m 0 #[.val (.ref t1), .val (.int (Int32.ofNat cs.length))] [])) t → Steps p.tables e below (s₁.setTop (entryFrame m #[(.ref t1), (.int (Int32.ofNat cs.length))] 2)) t := fun t k => castTop (ef_rm20 m t1 (Int32.ofNat cs.length)) k
  obtain ⟨cl101, Ar101, -, Sz101, Nn101, -, -⟩ := id AW
  obtain ⟨fs, hr, hrun, hended, hW, hsame⟩ := X0.leave (v := some (.int (nar .byte (((((Int32.ofNat cs.length) - (Int32.ofNat (2 * cs.length))).toUInt32 >>> ((31 : Int32) &&& 31).toUInt32).toInt32).toInt8.toInt32)))) (fun h => by rw [Bd.returns] at h; cases h)
  refine ⟨_, _, pre0 _ ?_, hrun, hended, _, _, rfl, ?_, ⟨_, rfl⟩, hW, hsame.mono (by decide) (by decide)⟩
  · show Steps p.tables e below (s₁.setTop (mkF m 0 #[.val (.ref t1), .val (.int (Int32.ofNat cs.length))] [])) _
    refine XS.iloadN X0.here hx rfl (hb hby d20_0) rfl ?_
    refine XS.aloadN X0.here hx rfl (hb hby d20_1) rfl rfl ?_
    show Steps p.tables e below (s₁.setTop (mkF m 2 #[.val (.ref t1), .val (.int (Int32.ofNat cs.length))] [(.ref t1), (.int (Int32.ofNat cs.length))])) _
    refine X0.arraylength hx (by rw [e0]; exact Ar101.1) (State.isArrayOf_alike hZ.alike Ar101.2.1) (g := (mkF m 2 #[.val (.ref t1), .val (.int (Int32.ofNat cs.length))] [(.ref t1), (.int (Int32.ofNat cs.length))])) rfl rfl (hb hby d20_2) _ ?_
    rw [len_of Sz101 Nn101]
    show Steps p.tables e below (s₁.setTop (mkF m 3 #[.val (.ref t1), .val (.int (Int32.ofNat cs.length))] [(.int (Int32.ofNat (2 * cs.length))), (.int (Int32.ofNat cs.length))])) _
    refine XS.isub X0.here hx rfl (hb hby d20_3) rfl ?_
    show Steps p.tables e below (s₁.setTop (mkF m 4 #[.val (.ref t1), .val (.int (Int32.ofNat cs.length))] [(.int ((Int32.ofNat cs.length) - (Int32.ofNat (2 * cs.length))))])) _
    refine XS.bipush X0.here hx rfl (hb hby d20_4) ?_
    refine XS.iushr X0.here hx rfl (hb hby d20_6) rfl ?_
    show Steps p.tables e below (s₁.setTop (mkF m 7 #[.val (.ref t1), .val (.int (Int32.ofNat cs.length))] [(.int ((((Int32.ofNat cs.length) - (Int32.ofNat (2 * cs.length))).toUInt32 >>> ((31 : Int32) &&& 31).toUInt32).toInt32))])) _
    refine XS.i2b X0.here hx rfl (hb hby d20_7) rfl ?_
    show Steps p.tables e below (s₁.setTop (mkF m 8 #[.val (.ref t1), .val (.int (Int32.ofNat cs.length))] [(.int (((((Int32.ofNat cs.length) - (Int32.ofNat (2 * cs.length))).toUInt32 >>> ((31 : Int32) &&& 31).toUInt32).toInt32).toInt8.toInt32))])) _
    exact retN X0 hx (t := .byte) Bd.returns (by simp) (hb hby d20_8) hr
  · show Q_rm20 Z t1 k1 cs h0 n0 _ s₁.heap _
    rw [e0]
    unfold Q_rm20
    exact ⟨(congrArg (fun z => some (Value.int z)) (own_coder h0l hs)), N0, rfl⟩
theorem ef_rm29 (m : MethodId) (x0 : Int32) : entryFrame m #[(.int x0)] 1 = mkF m 0 #[.val (.int x0)] [] := by first | (simp [entryFrame, mkF, argsToLocals, Value.category]; done) | rfl
def Q_rm29 (Z : State) (n2 : Nat) (h0 : Heap) (n0 : Nat) (v : Option Value) (h : Heap) (L : List Loc) : Prop := (v = some (.int (Int32.ofNat (2 * n2)))) ∧ (Fr n0 L) ∧ (h = h0)
theorem d29_0 : decode jdk_52_method_3_code 0 = .ok (.iload_n 0, 1) := by decide +kernel
theorem d29_1 : decode jdk_52_method_3_code 1 = .ok (.ifCond .ge 11, 3) := by decide +kernel
theorem d29_12 : decode jdk_52_method_3_code 12 = .ok (.iload_n 0, 1) := by decide +kernel
theorem d29_13 : decode jdk_52_method_3_code 13 = .ok (.ldc 20, 2) := by decide +kernel
theorem d29_15 : decode jdk_52_method_3_code 15 = .ok (.if_icmp .lt 40, 3) := by decide +kernel
theorem d29_55 : decode jdk_52_method_3_code 55 = .ok (.iload_n 0, 1) := by decide +kernel
theorem d29_56 : decode jdk_52_method_3_code 56 = .ok (.iconst 1, 1) := by decide +kernel
theorem d29_57 : decode jdk_52_method_3_code 57 = .ok (.ishl, 1) := by decide +kernel
theorem d29_58 : decode jdk_52_method_3_code 58 = .ok (.ireturn, 1) := by decide +kernel
set_option maxRecDepth 65536 in
set_option maxHeartbeats 40000000 in
theorem rm29 (l : Launch) (Z : State) (a0 : Array Value) (hw : ∀ d ∈ tables_1, d.before a0 Z = true) (ws : List Jvm.Cond) (n2 : Nat) (h0 : Heap) (n0 : Nat) (O0 : Old Z n0 h0) (hn : n2 ≤ 6) :
    MetFree l (⟨"java/lang/StringUTF16", "newBytesLength", "(I)I"⟩ : MethodName) (head1 (Jvm.Cond.code (⟨"java/lang/StringUTF16", "newBytesLength", "(I)I"⟩ : MethodName) jdk_52_method_3_code 1 (some .int) :: ws) ({ frames := 0, cells := 0, slots := 0, locals := 0 } : Room)) (fun a U => a = #[(.int (Int32.ofNat n2))] ∧ Z.Warmed39 U.vm ∧ U.heap = h0) (fun _ _ _ _ _ => True) (fun _ U o U' => ∃ v L, o = .returned v ∧ Q_rm29 Z n2 h0 n0 v U'.heap L ∧ FrameEnd U o U' L ({ frames := 0, cells := 0, slots := 0, locals := 0 } : Room).cells ({ frames := 0, cells := 0, slots := 0, locals := 0 } : Room).slots) := by
  refine MetFree.of_bodySF (plainFor_of_name pn_0) hisR ?_
  intro p e s m args below meth c s₁ Bd hml0 hP hK
  obtain ⟨rfl, hZ, hh⟩ := hP
  have hx := Bd.exec
  have hby := Bd.bytes
  have hml : c.maxLocals = 1 := hml0
  have hown : s.vm.findClass "java/lang/StringUTF16" = some m.cls := findClass_of_methodNamed Bd.named
  have hnm := (name_of_methodNamed Bd.named Bd.method).1
  have X0 : Stand p l e ({ frames := 0, cells := 0, slots := 0, locals := 0 } : Room) s m #[(.int (Int32.ofNat n2))] below meth c s₁ [] 0 0 := Stand.of_body Bd
  have e0 : s₁.heap = h0 := by rw [← hh, Bd.state]; rfl
  have N0 := Fr.nil n0
  have Z0 : n0 ≤ h0.size := old_le O0
  have pre0 : ∀ t, Steps p.tables e below (s₁.setTop (mkF m 0 #[.val (.int (Int32.ofNat n2))] [])) t → Steps p.tables e below (s₁.setTop (entryFrame m #[(.int (Int32.ofNat n2))] 1)) t := fun t k => castTop (ef_rm29 m (Int32.ofNat n2)) k
  obtain ⟨fs, hr, hrun, hended, hW, hsame⟩ := X0.leave (v := some (.int ((Int32.ofNat n2) <<< ((1 : Int32) &&& 31)))) (fun h => by rw [Bd.returns] at h; cases h)
  refine ⟨_, _, pre0 _ ?_, hrun, hended, _, _, rfl, ?_, ⟨_, rfl⟩, hW, hsame.mono (by decide) (by decide)⟩
  · show Steps p.tables e below (s₁.setTop (mkF m 0 #[.val (.int (Int32.ofNat n2))] [])) _
    refine XS.iloadN X0.here hx rfl (hb hby d29_0) rfl ?_
    refine XS.ifYes X0.here hx rfl (pc0 := 1) (pc' := 12) rfl (hb hby d29_1) rfl ((if0 _ _).trans (flt ((own_ge0 (by omega)) : ¬ ((Int32.ofNat n2) < (0 : Int32)))).2.1) (by decide) (by decide) ?_
    show Steps p.tables e below (s₁.setTop (mkF m 12 #[.val (.int (Int32.ofNat n2))] [])) _
    refine XS.iloadN X0.here hx rfl (hb hby d29_12) rfl ?_
    show Steps p.tables e below (s₁.setTop (mkF m 13 #[.val (.int (Int32.ofNat n2))] [(.int (Int32.ofNat n2))])) _
    refine X0.ldcInt hx hown (mvT hZ (hwk hw 123 rfl)) (g := (mkF m 13 #[.val (.int (Int32.ofNat n2))] [(.int (Int32.ofNat n2))])) rfl (hb hby d29_13) _ ?_
    show Steps p.tables e below (s₁.setTop (mkF m 15 #[.val (.int (Int32.ofNat n2))] [(.int (1073741823 : Int32)), (.int (Int32.ofNat n2))])) _
    refine XS.icmpYes X0.here hx rfl (pc0 := 15) (pc' := 55) rfl (hb hby d29_15) rfl (tlt ((own_big (by omega)) : (Int32.ofNat n2) < (1073741823 : Int32))).1 (by decide) (by decide) ?_
    show Steps p.tables e below (s₁.setTop (mkF m 55 #[.val (.int (Int32.ofNat n2))] [])) _
    refine XS.iloadN X0.here hx rfl (hb hby d29_55) rfl ?_
    refine XS.iconst X0.here hx rfl (hb hby d29_56) ?_
    refine XS.ishl X0.here hx rfl (hb hby d29_57) rfl ?_
    show Steps p.tables e below (s₁.setTop (mkF m 58 #[.val (.int (Int32.ofNat n2))] [(.int ((Int32.ofNat n2) <<< ((1 : Int32) &&& 31)))])) _
    exact Jvm.RoadKit.retOut X0 hx Bd.returns rfl (Or.inl ⟨rfl, by simp, _, rfl⟩) (hb hby d29_58) hr
  · show Q_rm29 Z n2 h0 n0 _ s₁.heap _
    rw [e0]
    unfold Q_rm29
    exact ⟨(by rw [own_dbl (by omega)]), N0, rfl⟩
theorem ef_rm28 (m : MethodId) (x0 : Int32) : entryFrame m #[(.int x0)] 1 = mkF m 0 #[.val (.int x0)] [] := by first | (simp [entryFrame, mkF, argsToLocals, Value.category]; done) | rfl
def Q_rm28 (Z : State) (n2 : Nat) (h0 : Heap) (n0 : Nat) (v : Option Value) (h : Heap) (L : List Loc) : Prop := ∃ o : Addr, ∃ ko : ClassId, (v = some (.ref o)) ∧ (Fr n0 L) ∧ (Keep h0 h []) ∧ (h0.size ≤ o) ∧ (Arv Z h o ko .byte (Int32.ofNat (2 * n2)) (List.replicate (2 * n2) (.int (0 : Int32))) (.int (0 : Int32)))
theorem d28_0 : decode jdk_52_method_2_code 0 = .ok (.iload_n 0, 1) := by decide +kernel
theorem d28_1 : decode jdk_52_method_2_code 1 = .ok (.invokestatic 11, 3) := by decide +kernel
theorem d28_4 : decode jdk_52_method_2_code 4 = .ok (.newarray .byte, 2) := by decide +kernel
theorem d28_6 : decode jdk_52_method_2_code 6 = .ok (.areturn, 1) := by decide +kernel
set_option maxRecDepth 65536 in
set_option maxHeartbeats 40000000 in
theorem rm28 (l : Launch) (Z : State) (a0 : Array Value) (hw : ∀ d ∈ tables_1, d.before a0 Z = true) (ws : List Jvm.Cond) (n2 : Nat) (h0 : Heap) (n0 : Nat) (O0 : Old Z n0 h0) (hn : n2 ≤ 6) :
    MetFree l (⟨"java/lang/StringUTF16", "newBytesFor", "(I)[B"⟩ : MethodName) (head1 (Jvm.Cond.code (⟨"java/lang/StringUTF16", "newBytesFor", "(I)[B"⟩ : MethodName) jdk_52_method_2_code 1 (some (.array .byte)) :: ws) ({ frames := 1, cells := 1, slots := 12, locals := 12 } : Room)) (fun a U => a = #[(.int (Int32.ofNat n2))] ∧ Z.Warmed39 U.vm ∧ U.heap = h0) (fun _ _ _ _ _ => True) (fun _ U o U' => ∃ v L, o = .returned v ∧ Q_rm28 Z n2 h0 n0 v U'.heap L ∧ FrameEnd U o U' L ({ frames := 1, cells := 1, slots := 12, locals := 12 } : Room).cells ({ frames := 1, cells := 1, slots := 12, locals := 12 } : Room).slots) := by
  refine MetFree.of_bodySF (plainFor_of_name pn_0) hisR ?_
  intro p e s m args below meth c s₁ Bd hml0 hP hK
  obtain ⟨rfl, hZ, hh⟩ := hP
  have hx := Bd.exec
  have hby := Bd.bytes
  have hml : c.maxLocals = 1 := hml0
  have hown : s.vm.findClass "java/lang/StringUTF16" = some m.cls := findClass_of_methodNamed Bd.named
  have hnm := (name_of_methodNamed Bd.named Bd.method).1
  have X0 : Stand p l e ({ frames := 1, cells := 1, slots := 12, locals := 12 } : Room) s m #[(.int (Int32.ofNat n2))] below meth c s₁ [] 0 0 := Stand.of_body Bd
  have e0 : s₁.heap = h0 := by rw [← hh, Bd.state]; rfl
  have N0 := Fr.nil n0
  have Z0 : n0 ≤ h0.size := old_le O0
  have pre0 : ∀ t, Steps p.tables e below (s₁.setTop (mkF m 0 #[.val (.int (Int32.ofNat n2))] [])) t → Steps p.tables e below (s₁.setTop (entryFrame m #[(.int (Int32.ofNat n2))] 1)) t := fun t k => castTop (ef_rm28 m (Int32.ofNat n2)) k
  obtain ⟨_, _, ⟨T101, L101, k101, n101⟩, -, X101, ⟨Lc101, hQ101, l101, y101, z101⟩, st101⟩ := Jvm.LawKit.callS X0 hx (y := (⟨"java/lang/StringUTF16", "newBytesLength", "(I)I"⟩ : MethodName)) hown (mvT hZ (hwk hw 120 rfl)) (mvT hZ (hwk hw 121 rfl)) (mvT hZ (hwk hw 84 rfl)) (mvT hZ (hwk hw 122 rfl)) (by decide) (backOf (W := 0) (rm29 l Z a0 hw [] n2 h0 n0 O0 hn) hZ (hwk hw 122 rfl) (hwk hw 84 rfl) (by decide) (by decide)) (g := (mkF m 1 #[.val (.int (Int32.ofNat n2))] [(.int (Int32.ofNat n2))])) rfl (by rw [hml]; rfl) (argsL := [(.int (Int32.ofNat n2))]) (rest := []) (lenOf pd_14 rfl) rfl (by show 2 * 0 + _ ≤ _; exact Nat.le_of_eq rfl) (hb hby d28_1) (fun _ _ => ⟨rfl, e0, (by decide : 0 + 0 ≤ _), (by decide : 0 + 0 ≤ _)⟩)
  dsimp only [Pt.U, Pt.locs, Pt.cells, Pt.slots] at X101 l101 y101 z101 st101 hQ101
  subst l101 y101 z101
  unfold Q_rm29 at hQ101
  obtain ⟨rfl, N101q, e101⟩ := hQ101
  have N101 := Fr.app N0 N101q
  obtain ⟨T102, h102, k102, X102, e102, E102, A102, st102⟩ := newP X101 hx hZ (hwk hw 21 rfl) e101 (g := (mkF m 4 #[.val (.int (Int32.ofNat n2))] [(.int (Int32.ofNat (2 * n2)))])) rfl (hb hby d28_4) rfl (own_ge0 (by omega)) (cap := 12) (by rw [own_nat (by omega)]; omega) (by decide) (by decide) (by decide)
  obtain ⟨b102, g102⟩ : ∃ z, z = h0.size := ⟨_, rfl⟩
  rw [← g102] at A102 st102
  have g_b102 : n0 ≤ b102 := Nat.le_trans (old_le O0) (Nat.le_of_eq g102.symm)
  have V102 : Arv Z h102 b102 k102 .byte (Int32.ofNat (2 * n2)) (List.replicate (Int32.ofNat (2 * n2)).toNatClampNeg (.int (0 : Int32))) (.int (0 : Int32)) := (Arv.new A102 (own_ge0 (by omega))).pad (pad_rep [] (.int (0 : Int32)) (Int32.ofNat (2 * n2)).toNatClampNeg)
  have K103 : Keep h0 h102 [] := Keep.ext (Keep.refl h0 []) E102
  obtain ⟨fs, hr, hrun, hended, hW, hsame⟩ := X102.leave (v := some (.ref b102)) (fun h => by rw [Bd.returns] at h; cases h)
  refine ⟨_, _, pre0 _ ?_, hrun, hended, _, _, rfl, ?_, ⟨_, rfl⟩, hW, hsame.mono (by decide) (by decide)⟩
  · show Steps p.tables e below (s₁.setTop (mkF m 0 #[.val (.int (Int32.ofNat n2))] [])) _
    refine XS.iloadN X0.here hx rfl (hb hby d28_0) rfl ?_
    show Steps p.tables e below (s₁.setTop (mkF m 1 #[.val (.int (Int32.ofNat n2))] [(.int (Int32.ofNat n2))])) _
    refine st101 _ ?_
    show Steps p.tables e below (T101.setTop (mkF m 4 #[.val (.int (Int32.ofNat n2))] [(.int (Int32.ofNat (2 * n2)))])) _
    refine st102 _ ?_
    show Steps p.tables e below (T102.setTop (mkF m 6 #[.val (.int (Int32.ofNat n2))] [(.ref b102)])) _
    exact Jvm.RoadKit.retOut X102 hx Bd.returns rfl (Or.inr (Or.inr (Or.inr (Or.inr ⟨rfl, rfl, rfl⟩)))) (hb hby d28_6) hr
  · show Q_rm28 Z n2 h0 n0 _ T102.heap _
    rw [e102]
    unfold Q_rm28
    exact ⟨b102, k102, rfl, N101, K103, (Nat.le_trans (Nat.le_refl _) (Nat.le_of_eq g102.symm)), (own_arv V102 (by rw [own_nat (by omega)]))⟩
theorem ef_rm30 (m : MethodId) (x0 : Addr) (x1 : Int32) (x2 : Int32) : entryFrame m #[(.ref x0), (.int x1), (.int x2)] 3 = mkF m 0 #[.val (.ref x0), .val (.int x1), .val (.int x2)] [] := by first | (simp [entryFrame, mkF, argsToLocals, Value.category]; done) | rfl
def Q_rm30 (Z : State) (j : Nat) (n2 : Nat) (cx : Int32) (t1 : Addr) (k1 : ClassId) (W1 : List Value) (h0 : Heap) (n0 : Nat) (v : Option Value) (h : Heap) (L : List Loc) : Prop := (v = none) ∧ (Fr n0 L) ∧ (Keep h0 h [t1]) ∧ (Arv Z h t1 k1 .byte (Int32.ofNat (2 * n2)) ((W1.set (2 * j) (.int (lo8 cx))).set (2 * j + 1) (.int (hi8 cx))) (.int (0 : Int32)))
theorem d30_0 : decode jdk_52_method_4_code 0 = .ok (.getstatic 44, 3) := by decide +kernel
theorem d30_3 : decode jdk_52_method_4_code 3 = .ok (.ifCond .ne 25, 3) := by decide +kernel
theorem d30_28 : decode jdk_52_method_4_code 28 = .ok (.iload_n 1, 1) := by decide +kernel
theorem d30_29 : decode jdk_52_method_4_code 29 = .ok (.iconst 1, 1) := by decide +kernel
theorem d30_30 : decode jdk_52_method_4_code 30 = .ok (.ishl, 1) := by decide +kernel
theorem d30_31 : decode jdk_52_method_4_code 31 = .ok (.istore_n 1, 1) := by decide +kernel
theorem d30_32 : decode jdk_52_method_4_code 32 = .ok (.aload_n 0, 1) := by decide +kernel
theorem d30_33 : decode jdk_52_method_4_code 33 = .ok (.iload_n 1, 1) := by decide +kernel
theorem d30_34 : decode jdk_52_method_4_code 34 = .ok (.iinc 1 1, 3) := by decide +kernel
theorem d30_37 : decode jdk_52_method_4_code 37 = .ok (.iload_n 2, 1) := by decide +kernel
theorem d30_38 : decode jdk_52_method_4_code 38 = .ok (.getstatic 59, 3) := by decide +kernel
theorem d30_41 : decode jdk_52_method_4_code 41 = .ok (.ishr, 1) := by decide +kernel
theorem d30_42 : decode jdk_52_method_4_code 42 = .ok (.i2b, 1) := by decide +kernel
theorem d30_43 : decode jdk_52_method_4_code 43 = .ok (.bastore, 1) := by decide +kernel
theorem d30_44 : decode jdk_52_method_4_code 44 = .ok (.aload_n 0, 1) := by decide +kernel
theorem d30_45 : decode jdk_52_method_4_code 45 = .ok (.iload_n 1, 1) := by decide +kernel
theorem d30_46 : decode jdk_52_method_4_code 46 = .ok (.iload_n 2, 1) := by decide +kernel
theorem d30_47 : decode jdk_52_method_4_code 47 = .ok (.getstatic 63, 3) := by decide +kernel
theorem d30_50 : decode jdk_52_method_4_code 50 = .ok (.ishr, 1) := by decide +kernel
theorem d30_51 : decode jdk_52_method_4_code 51 = .ok (.i2b, 1) := by decide +kernel
theorem d30_52 : decode jdk_52_method_4_code 52 = .ok (.bastore, 1) := by decide +kernel
theorem d30_53 : decode jdk_52_method_4_code 53 = .ok (.return_, 1) := by decide +kernel
set_option maxRecDepth 65536 in
set_option maxHeartbeats 40000000 in
theorem rm30 (l : Launch) (Z : State) (a0 : Array Value) (hw : ∀ d ∈ tables_1, d.before a0 Z = true) (ws : List Jvm.Cond) (j : Nat) (n2 : Nat) (cx : Int32) (t1 : Addr) (k1 : ClassId) (W1 : List Value) (h0 : Heap) (n0 : Nat) (O0 : Old Z n0 h0) (AW : Arv Z h0 t1 k1 .byte (Int32.ofNat (2 * n2)) W1 (.int (0 : Int32))) (gt : n0 ≤ t1) (hn : n2 ≤ 6) (hj : j < n2) (hl : W1.length = 2 * n2) (SA : Sta Z Z.heap "java/lang/StringUTF16" "$assertionsDisabled" "Z" (.int (1 : Int32))) (SH : Sta Z Z.heap "java/lang/StringUTF16" "HI_BYTE_SHIFT" "I" (.int (0 : Int32))) (SL : Sta Z Z.heap "java/lang/StringUTF16" "LO_BYTE_SHIFT" "I" (.int (8 : Int32))) :
    MetFree l (⟨"java/lang/StringUTF16", "putChar", "([BII)V"⟩ : MethodName) (head1 (Jvm.Cond.code (⟨"java/lang/StringUTF16", "putChar", "([BII)V"⟩ : MethodName) jdk_52_method_4_code 3 none :: ws) ({ frames := 0, cells := 0, slots := 0, locals := 0 } : Room)) (fun a U => a = #[(.ref t1), (.int (Int32.ofNat j)), (.int cx)] ∧ Z.Warmed39 U.vm ∧ U.heap = h0) (fun _ _ _ _ _ => True) (fun _ U o U' => ∃ v L, o = .returned v ∧ Q_rm30 Z j n2 cx t1 k1 W1 h0 n0 v U'.heap L ∧ FrameEnd U o U' L ({ frames := 0, cells := 0, slots := 0, locals := 0 } : Room).cells ({ frames := 0, cells := 0, slots := 0, locals := 0 } : Room).slots) := by
  refine MetFree.of_bodySF (plainFor_of_name pn_0) hisR ?_
  intro p e s m args below meth c s₁ Bd hml0 hP hK
  obtain ⟨rfl, hZ, hh⟩ := hP
  have hx := Bd.exec
  have hby := Bd.bytes
  have hml : c.maxLocals = 3 := hml0
  have hown : s.vm.findClass "java/lang/StringUTF16" = some m.cls := findClass_of_methodNamed Bd.named
  have hnm := (name_of_methodNamed Bd.named Bd.method).1
  have X0 : Stand p l e ({ frames := 0, cells := 0, slots := 0, locals := 0 } : Room) s m #[(.ref t1), (.int (Int32.ofNat j)), (.int cx)] below meth c s₁ [] 0 0 := Stand.of_body Bd
  have e0 : s₁.heap = h0 := by rw [← hh, Bd.state]; rfl
  have N0 := Fr.nil n0
  have Z0 : n0 ≤ h0.size := old_le O0
  have pre0 : ∀ t, Steps p.tables e below (s₁.setTop (mkF m 0 #[.val (.ref t1), .val (.int (Int32.ofNat j)), .val (.int cx)] [])) t → Steps p.tables e below (s₁.setTop (entryFrame m #[(.ref t1), (.int (Int32.ofNat j)), (.int cx)] 3)) t := fun t k => castTop (ef_rm30 m t1 (Int32.ofNat j) cx) k
  have c101 : Sta Z h0 "java/lang/StringUTF16" "$assertionsDisabled" "Z" (.int (1 : Int32)) := Sta.ext (O0).2 SA
  obtain ⟨T102, X102, e102, st102⟩ := getS2 X0 hx hZ hown (host := "") (Or.inl (hwk hw 127 rfl)) Via.refl e0 c101 (g := (mkF m 0 #[.val (.ref t1), .val (.int (Int32.ofNat j)), .val (.int cx)] [])) rfl (hb hby d30_0)
  have c103 : Sta Z h0 "java/lang/StringUTF16" "HI_BYTE_SHIFT" "I" (.int (0 : Int32)) := Sta.ext (O0).2 SH
  obtain ⟨T104, X104, e104, st104⟩ := getS2 X102 hx hZ hown (host := "") (Or.inl (hwk hw 128 rfl)) Via.refl e102 c103 (g := (mkF m 38 #[.val (.ref t1), .val (.int (Int32.ofNat (2 * j + 1))), .val (.int cx)] [(.int cx), (.int (Int32.ofNat (2 * j))), (.ref t1)])) rfl (hb hby d30_38)
  obtain ⟨clq105, Arq105, kqq105, Szq105, Nnq105, Hsq105, Gsq105⟩ := id AW
  have hinq105 : ¬ ((Int32.ofNat (2 * j)) < 0 ∨ clq105.slots.size ≤ ((Int32.ofNat (2 * j))).toNatClampNeg) := inb_of Szq105 (own_inb (by omega) (by omega))
  obtain ⟨T106, h106, X106, e106, W106, st106⟩ := stB X104 hx hZ e104 Arq105 (j := (Int32.ofNat (2 * j))) hinq105 (g := (mkF m 43 #[.val (.ref t1), .val (.int (Int32.ofNat (2 * j + 1))), .val (.int cx)] [(.int (cx.toInt8.toInt32)), (.int (Int32.ofNat (2 * j))), (.ref t1)])) rfl rfl (hb hby d30_43)
  have V106 : Arv Z h106 t1 k1 .byte (Int32.ofNat (2 * n2)) (List.set W1 (2 * j) (.int (nar .byte (cx.toInt8.toInt32)))) (.int (0 : Int32)) := Arv.set Arq105 kqq105 Szq105 Nnq105 Hsq105 Gsq105 (fits_nar_byte _) W106 (2 * j) (own_nat (by omega)) (by first | omega | (simp only [List.length_set]; omega))
  have N106 := Fr.snoc X106 N0 gt
  have O108 : Old Z n0 h106 := Old.wr O0 W106 gt
  have c107 : Sta Z h106 "java/lang/StringUTF16" "LO_BYTE_SHIFT" "I" (.int (8 : Int32)) := Sta.ext (O108).2 SL
  obtain ⟨T109, X109, e109, st109⟩ := getS2 X106 hx hZ hown (host := "") (Or.inl (hwk hw 129 rfl)) Via.refl e106 c107 (g := (mkF m 47 #[.val (.ref t1), .val (.int (Int32.ofNat (2 * j + 1))), .val (.int cx)] [(.int cx), (.int (Int32.ofNat (2 * j + 1))), (.ref t1)])) rfl (hb hby d30_47)
  obtain ⟨clq110, Arq110, kqq110, Szq110, Nnq110, Hsq110, Gsq110⟩ := id V106
  have hinq110 : ¬ ((Int32.ofNat (2 * j + 1)) < 0 ∨ clq110.slots.size ≤ ((Int32.ofNat (2 * j + 1))).toNatClampNeg) := inb_of Szq110 (own_inb (by omega) (by omega))
  obtain ⟨T111, h111, X111, e111, W111, st111⟩ := stB X109 hx hZ e109 Arq110 (j := (Int32.ofNat (2 * j + 1))) hinq110 (g := (mkF m 52 #[.val (.ref t1), .val (.int (Int32.ofNat (2 * j + 1))), .val (.int cx)] [(.int ((cx >>> ((8 : Int32) &&& 31)).toInt8.toInt32)), (.int (Int32.ofNat (2 * j + 1))), (.ref t1)])) rfl rfl (hb hby d30_52)
  have V111 : Arv Z h111 t1 k1 .byte (Int32.ofNat (2 * n2)) (List.set (List.set W1 (2 * j) (.int (nar .byte (cx.toInt8.toInt32)))) (2 * j + 1) (.int (nar .byte ((cx >>> ((8 : Int32) &&& 31)).toInt8.toInt32)))) (.int (0 : Int32)) := Arv.set Arq110 kqq110 Szq110 Nnq110 Hsq110 Gsq110 (fits_nar_byte _) W111 (2 * j + 1) (own_nat (by omega)) (by first | omega | (simp only [List.length_set]; omega))
  have N111 := Fr.snoc X111 N106 gt
  have K112 : Keep h0 h106 [t1] := Keep.wr (Keep.refl h0 [t1]) W106 (Or.inl (List.mem_of_getElem? (i := 0) rfl))
  have K113 : Keep h0 h111 [t1] := Keep.wr K112 W111 (Or.inl (List.mem_of_getElem? (i := 0) rfl))
  obtain ⟨fs, hr, hrun, hended, hW, hsame⟩ := X111.leave (v := none) (fun _ => rfl)
  refine ⟨_, _, pre0 _ ?_, hrun, hended, _, _, rfl, ?_, ⟨_, rfl⟩, hW, hsame.mono (by decide) (by decide)⟩
  · show Steps p.tables e below (s₁.setTop (mkF m 0 #[.val (.ref t1), .val (.int (Int32.ofNat j)), .val (.int cx)] [])) _
    refine st102 _ ?_
    show Steps p.tables e below (T102.setTop (mkF m 3 #[.val (.ref t1), .val (.int (Int32.ofNat j)), .val (.int cx)] [(.int (1 : Int32))])) _
    refine XS.ifYes X102.here hx rfl (pc0 := 3) (pc' := 28) rfl (hb hby d30_3) rfl ((if0 _ _).trans (feq (by decide : ¬ ((1 : Int32) = (0 : Int32)))).2) (by decide) (by decide) ?_
    show Steps p.tables e below (T102.setTop (mkF m 28 #[.val (.ref t1), .val (.int (Int32.ofNat j)), .val (.int cx)] [])) _
    refine XS.iloadN X102.here hx rfl (hb hby d30_28) rfl ?_
    refine XS.iconst X102.here hx rfl (hb hby d30_29) ?_
    refine XS.ishl X102.here hx rfl (hb hby d30_30) rfl ?_
    show Steps p.tables e below (T102.setTop (mkF m 31 #[.val (.ref t1), .val (.int (Int32.ofNat j)), .val (.int cx)] [(.int ((Int32.ofNat j) <<< ((1 : Int32) &&& 31)))])) _
    rw [own_dbl (show j < 16 by omega)]
    show Steps p.tables e below (T102.setTop (mkF m 31 #[.val (.ref t1), .val (.int (Int32.ofNat j)), .val (.int cx)] [(.int (Int32.ofNat (2 * j)))])) _
    refine XS.istoreN X102.here hx rfl (hb hby d30_31) rfl (l' := #[.val (.ref t1), .val (.int (Int32.ofNat (2 * j))), .val (.int cx)]) rfl ?_
    show Steps p.tables e below (T102.setTop (mkF m 32 #[.val (.ref t1), .val (.int (Int32.ofNat (2 * j))), .val (.int cx)] [])) _
    refine XS.aloadN X102.here hx rfl (hb hby d30_32) rfl rfl ?_
    refine XS.iloadN X102.here hx rfl (hb hby d30_33) rfl ?_
    refine XS.iinc X102.here hx rfl (hb hby d30_34) rfl (l' := #[.val (.ref t1), .val (.int ((Int32.ofNat (2 * j)) + (1 : Int32))), .val (.int cx)]) rfl ?_
    show Steps p.tables e below (T102.setTop (mkF m 37 #[.val (.ref t1), .val (.int ((Int32.ofNat (2 * j)) + (1 : Int32))), .val (.int cx)] [(.int (Int32.ofNat (2 * j))), (.ref t1)])) _
    rw [own_succ]
    show Steps p.tables e below (T102.setTop (mkF m 37 #[.val (.ref t1), .val (.int (Int32.ofNat (2 * j + 1))), .val (.int cx)] [(.int (Int32.ofNat (2 * j))), (.ref t1)])) _
    refine XS.iloadN X102.here hx rfl (hb hby d30_37) rfl ?_
    show Steps p.tables e below (T102.setTop (mkF m 38 #[.val (.ref t1), .val (.int (Int32.ofNat (2 * j + 1))), .val (.int cx)] [(.int cx), (.int (Int32.ofNat (2 * j))), (.ref t1)])) _
    refine st104 _ ?_
    show Steps p.tables e below (T104.setTop (mkF m 41 #[.val (.ref t1), .val (.int (Int32.ofNat (2 * j + 1))), .val (.int cx)] [(.int (0 : Int32)), (.int cx), (.int (Int32.ofNat (2 * j))), (.ref t1)])) _
    refine XS.ishr X104.here hx rfl (hb hby d30_41) rfl ?_
    show Steps p.tables e below (T104.setTop (mkF m 42 #[.val (.ref t1), .val (.int (Int32.ofNat (2 * j + 1))), .val (.int cx)] [(.int (cx >>> ((0 : Int32) &&& 31))), (.int (Int32.ofNat (2 * j))), (.ref t1)])) _
    rw [own_shr0 cx]
    show Steps p.tables e below (T104.setTop (mkF m 42 #[.val (.ref t1), .val (.int (Int32.ofNat (2 * j + 1))), .val (.int cx)] [(.int cx), (.int (Int32.ofNat (2 * j))), (.ref t1)])) _
    refine XS.i2b X104.here hx rfl (hb hby d30_42) rfl ?_
    show Steps p.tables e below (T104.setTop (mkF m 43 #[.val (.ref t1), .val (.int (Int32.ofNat (2 * j + 1))), .val (.int cx)] [(.int (cx.toInt8.toInt32)), (.int (Int32.ofNat (2 * j))), (.ref t1)])) _
    refine st106 _ ?_
    show Steps p.tables e below (T106.setTop (mkF m 44 #[.val (.ref t1), .val (.int (Int32.ofNat (2 * j + 1))), .val (.int cx)] [])) _
    refine XS.aloadN X106.here hx rfl (hb hby d30_44) rfl rfl ?_
    refine XS.iloadN X106.here hx rfl (hb hby d30_45) rfl ?_
    refine XS.iloadN X106.here hx rfl (hb hby d30_46) rfl ?_
    show Steps p.tables e below (T106.setTop (mkF m 47 #[.val (.ref t1), .val (.int (Int32.ofNat (2 * j + 1))), .val (.int cx)] [(.int cx), (.int (Int32.ofNat (2 * j + 1))), (.ref t1)])) _
    refine st109 _ ?_
    show Steps p.tables e below (T109.setTop (mkF m 50 #[.val (.ref t1), .val (.int (Int32.ofNat (2 * j + 1))), .val (.int cx)] [(.int (8 : Int32)), (.int cx), (.int (Int32.ofNat (2 * j + 1))), (.ref t1)])) _
    refine XS.ishr X109.here hx rfl (hb hby d30_50) rfl ?_
    show Steps p.tables e below (T109.setTop (mkF m 51 #[.val (.ref t1), .val (.int (Int32.ofNat (2 * j + 1))), .val (.int cx)] [(.int (cx >>> ((8 : Int32) &&& 31))), (.int (Int32.ofNat (2 * j + 1))), (.ref t1)])) _
    refine XS.i2b X109.here hx rfl (hb hby d30_51) rfl ?_
    show Steps p.tables e below (T109.setTop (mkF m 52 #[.val (.ref t1), .val (.int (Int32.ofNat (2 * j + 1))), .val (.int cx)] [(.int ((cx >>> ((8 : Int32) &&& 31)).toInt8.toInt32)), (.int (Int32.ofNat (2 * j + 1))), (.ref t1)])) _
    refine st111 _ ?_
    show Steps p.tables e below (T111.setTop (mkF m 53 #[.val (.ref t1), .val (.int (Int32.ofNat (2 * j + 1))), .val (.int cx)] [])) _
    exact X111.returnOut hx Bd.returns (hb hby d30_53) hr
  · show Q_rm30 Z j n2 cx t1 k1 W1 h0 n0 _ T111.heap _
    rw [e111]
    unfold Q_rm30
    exact ⟨rfl, N111, K113, (own_arv V111 (by rw [own_nb, own_nb]; rfl))⟩
theorem ef_rm27 (m : MethodId) (x0 : Addr) (x1 : Int32) (x2 : Int32) : entryFrame m #[(.ref x0), (.int x1), (.int x2)] 5 = mkF m 0 #[.val (.ref x0), .val (.int x1), .val (.int x2), .unset, .unset] [] := by first | (simp [entryFrame, mkF, argsToLocals, Value.category]; done) | rfl
def Q_rm27 (Z : State) (v1 : Addr) (kv : ClassId) (dvc : Value) (cs : List Int32) (h0 : Heap) (n0 : Nat) (v : Option Value) (h : Heap) (L : List Loc) : Prop := ∃ o : Addr, ∃ ko : ClassId, (v = some (.ref o)) ∧ (Fr n0 L) ∧ (Keep h0 h []) ∧ (h0.size ≤ o) ∧ (Arv Z h o ko .byte (Int32.ofNat (2 * cs.length)) (wideBytes cs) (.int (0 : Int32)))
theorem d27_0 : decode jdk_52_method_14_code 0 = .ok (.iload_n 2, 1) := by decide +kernel
theorem d27_1 : decode jdk_52_method_14_code 1 = .ok (.invokestatic 107, 3) := by decide +kernel
theorem pd_17 : parseMethodDescriptor "(I)[B" = some ⟨[.int], some (.array .byte)⟩ := by decide +kernel
theorem d27_4 : decode jdk_52_method_14_code 4 = .ok (.astore_n 3, 1) := by decide +kernel
theorem d27_5 : decode jdk_52_method_14_code 5 = .ok (.iconst 0, 1) := by decide +kernel
theorem d27_6 : decode jdk_52_method_14_code 6 = .ok (.istore 4, 2) := by decide +kernel
theorem d27_8 : decode jdk_52_method_14_code 8 = .ok (.iload 4, 2) := by decide +kernel
theorem d27_10 : decode jdk_52_method_14_code 10 = .ok (.iload_n 2, 1) := by decide +kernel
theorem d27_11 : decode jdk_52_method_14_code 11 = .ok (.if_icmp .ge 21, 3) := by decide +kernel
theorem d27_14 : decode jdk_52_method_14_code 14 = .ok (.aload_n 3, 1) := by decide +kernel
theorem d27_15 : decode jdk_52_method_14_code 15 = .ok (.iload 4, 2) := by decide +kernel
theorem d27_17 : decode jdk_52_method_14_code 17 = .ok (.aload_n 0, 1) := by decide +kernel
theorem d27_18 : decode jdk_52_method_14_code 18 = .ok (.iload_n 1, 1) := by decide +kernel
theorem d27_19 : decode jdk_52_method_14_code 19 = .ok (.caload, 1) := by decide +kernel
theorem d27_20 : decode jdk_52_method_14_code 20 = .ok (.invokestatic 111, 3) := by decide +kernel
theorem pd_18 : parseMethodDescriptor "([BII)V" = some ⟨[(.array .byte), .int, .int], none⟩ := by decide +kernel
theorem d27_23 : decode jdk_52_method_14_code 23 = .ok (.iinc 1 1, 3) := by decide +kernel
theorem d27_26 : decode jdk_52_method_14_code 26 = .ok (.iinc 4 1, 3) := by decide +kernel
theorem d27_29 : decode jdk_52_method_14_code 29 = .ok (.goto (-21), 3) := by decide +kernel
theorem d27_32 : decode jdk_52_method_14_code 32 = .ok (.aload_n 3, 1) := by decide +kernel
theorem d27_33 : decode jdk_52_method_14_code 33 = .ok (.areturn, 1) := by decide +kernel
set_option maxRecDepth 65536 in
set_option maxHeartbeats 40000000 in
theorem rm27 (l : Launch) (Z : State) (a0 : Array Value) (hw : ∀ d ∈ tables_1, d.before a0 Z = true) (ws : List Jvm.Cond) (v1 : Addr) (kv : ClassId) (dvc : Value) (cs : List Int32) (h0 : Heap) (n0 : Nat) (O0 : Old Z n0 h0) (AV : Arv Z h0 v1 kv .char (Int32.ofNat cs.length) (cs.map Value.int) dvc) (hs : cs.length ≤ 6) (SA : Sta Z Z.heap "java/lang/StringUTF16" "$assertionsDisabled" "Z" (.int (1 : Int32))) (SH : Sta Z Z.heap "java/lang/StringUTF16" "HI_BYTE_SHIFT" "I" (.int (0 : Int32))) (SL : Sta Z Z.heap "java/lang/StringUTF16" "LO_BYTE_SHIFT" "I" (.int (8 : Int32))) :
    MetFree l (⟨"java/lang/StringUTF16", "toBytes", "([CII)[B"⟩ : MethodName) (head1 (Jvm.Cond.code (⟨"java/lang/StringUTF16", "toBytes", "([CII)[B"⟩ : MethodName) jdk_52_method_14_code 5 (some (.array .byte)) :: ws) ({ frames := 2, cells := 1, slots := 12, locals := 24 } : Room)) (fun a U => a = #[(.ref v1), (.int (0 : Int32)), (.int (Int32.ofNat cs.length))] ∧ Z.Warmed39 U.vm ∧ U.heap = h0) (fun _ _ _ _ _ => True) (fun _ U o U' => ∃ v L, o = .returned v ∧ Q_rm27 Z v1 kv dvc cs h0 n0 v U'.heap L ∧ FrameEnd U o U' L ({ frames := 2, cells := 1, slots := 12, locals := 24 } : Room).cells ({ frames := 2, cells := 1, slots := 12, locals := 24 } : Room).slots) := by
  refine MetFree.of_bodySF (plainFor_of_name pn_0) hisR ?_
  intro p e s m args below meth c s₁ Bd hml0 hP hK
  obtain ⟨rfl, hZ, hh⟩ := hP
  have hx := Bd.exec
  have hby := Bd.bytes
  have hml : c.maxLocals = 5 := hml0
  have hown : s.vm.findClass "java/lang/StringUTF16" = some m.cls := findClass_of_methodNamed Bd.named
  have hnm := (name_of_methodNamed Bd.named Bd.method).1
  have X0 : Stand p l e ({ frames := 2, cells := 1, slots := 12, locals := 24 } : Room) s m #[(.ref v1), (.int (0 : Int32)), (.int (Int32.ofNat cs.length))] below meth c s₁ [] 0 0 := Stand.of_body Bd
  have e0 : s₁.heap = h0 := by rw [← hh, Bd.state]; rfl
  have N0 := Fr.nil n0
  have Z0 : n0 ≤ h0.size := old_le O0
  have pre0 : ∀ t, Steps p.tables e below (s₁.setTop (mkF m 0 #[.val (.ref v1), .val (.int (0 : Int32)), .val (.int (Int32.ofNat cs.length)), .unset, .unset] [])) t → Steps p.tables e below (s₁.setTop (entryFrame m #[(.ref v1), (.int (0 : Int32)), (.int (Int32.ofNat cs.length))] 5)) t := fun t k => castTop (ef_rm27 m v1 (0 : Int32) (Int32.ofNat cs.length)) k
  obtain ⟨_, _, ⟨T101, L101, k101, n101⟩, -, X101, ⟨Lc101, hQ101, l101, y101, z101⟩, st101⟩ := Jvm.LawKit.callS X0 hx (y := (⟨"java/lang/StringUTF16", "newBytesFor", "(I)[B"⟩ : MethodName)) hown (mvT hZ (hwk hw 117 rfl)) (mvT hZ (hwk hw 118 rfl)) (mvT hZ (hwk hw 84 rfl)) (mvT hZ (hwk hw 119 rfl)) (by decide) (backOf (W := 0) (rm28 l Z a0 hw [] cs.length h0 n0 O0 hs) hZ (hwk hw 119 rfl) (hwk hw 84 rfl) (by decide) (by decide)) (g := (mkF m 1 #[.val (.ref v1), .val (.int (0 : Int32)), .val (.int (Int32.ofNat cs.length)), .unset, .unset] [(.int (Int32.ofNat cs.length))])) rfl (by rw [hml]; rfl) (argsL := [(.int (Int32.ofNat cs.length))]) (rest := []) (lenOf pd_17 rfl) rfl (by show 2 * 0 + _ ≤ _; exact Nat.le_of_eq rfl) (hb hby d27_1) (fun _ _ => ⟨rfl, e0, (by decide : 0 + 1 ≤ _), (by decide : 0 + 12 ≤ _)⟩)
  dsimp only [Pt.U, Pt.locs, Pt.cells, Pt.slots] at X101 l101 y101 z101 st101 hQ101
  subst l101 y101 z101
  unfold Q_rm28 at hQ101
  obtain ⟨o_101, ko_101, rfl, N101q, K101, ge_o_101, f101_0⟩ := hQ101
  have N101 := Fr.app N0 N101q
  have g_o_101 : n0 ≤ o_101 := Nat.le_trans (old_le O0) ge_o_101
  have S102 : ∀ t, Steps p.tables e below (T101.setTop (mkF m 8 #[.val (.ref v1), .val (.int (0 : Int32)), .val (.int (Int32.ofNat cs.length)), .val (.ref o_101), .val (.int (0 : Int32))] [])) t → Steps p.tables e below (s₁.setTop (entryFrame m #[(.ref v1), (.int (0 : Int32)), (.int (Int32.ofNat cs.length))] 5)) t := fun t k => by
    refine pre0 t ?_
    show Steps p.tables e below (s₁.setTop (mkF m 0 #[.val (.ref v1), .val (.int (0 : Int32)), .val (.int (Int32.ofNat cs.length)), .unset, .unset] [])) _
    refine XS.iloadN X0.here hx rfl (hb hby d27_0) rfl ?_
    show Steps p.tables e below (s₁.setTop (mkF m 1 #[.val (.ref v1), .val (.int (0 : Int32)), .val (.int (Int32.ofNat cs.length)), .unset, .unset] [(.int (Int32.ofNat cs.length))])) _
    refine st101 _ ?_
    show Steps p.tables e below (T101.setTop (mkF m 4 #[.val (.ref v1), .val (.int (0 : Int32)), .val (.int (Int32.ofNat cs.length)), .unset, .unset] [(.ref o_101)])) _
    refine XS.astoreN X101.here hx rfl (hb hby d27_4) rfl rfl (l' := #[.val (.ref v1), .val (.int (0 : Int32)), .val (.int (Int32.ofNat cs.length)), .val (.ref o_101), .unset]) rfl ?_
    show Steps p.tables e below (T101.setTop (mkF m 5 #[.val (.ref v1), .val (.int (0 : Int32)), .val (.int (Int32.ofNat cs.length)), .val (.ref o_101), .unset] [])) _
    refine XS.iconst X101.here hx rfl (hb hby d27_5) ?_
    refine XS.istore X101.here hx rfl (hb hby d27_6) rfl (l' := #[.val (.ref v1), .val (.int (0 : Int32)), .val (.int (Int32.ofNat cs.length)), .val (.ref o_101), .val (.int (0 : Int32))]) rfl ?_
    exact k
  refine (?lp103 : ∀ (k : Nat) (j : Nat) (T : State) (L : List Loc) (h : Heap), Stand p l e ({ frames := 2, cells := 1, slots := 12, locals := 24 } : Room) s m #[(.ref v1), (.int (0 : Int32)), (.int (Int32.ofNat cs.length))] below meth c T L 1 12 → T.heap = h → Fr n0 L → Keep T101.heap h [o_101] → (∀ t, Steps p.tables e below (T.setTop (mkF m 8 #[.val (.ref v1), .val (.int (Int32.ofNat j)), .val (.int (Int32.ofNat cs.length)), .val (.ref o_101), .val (.int (Int32.ofNat j))] [])) t → Steps p.tables e below (s₁.setTop (entryFrame m #[(.ref v1), (.int (0 : Int32)), (.int (Int32.ofNat cs.length))] 5)) t) → (Arv Z h o_101 ko_101 .byte (Int32.ofNat (2 * cs.length)) (UB cs j) (.int (0 : Int32))) → (j ≤ cs.length) → (cs.length - j) = k → _) _ (0) T101 _ _ X101 (rfl : T101.heap = T101.heap) N101 (Keep.refl T101.heap [o_101]) S102 (own_arv f101_0 (own_ub0 cs)) (Nat.zero_le _) rfl
  intro k
  induction k using Nat.strongRecOn with
  | _ k ihlp103 =>
    intro j Tlp103 Llp103 hlp103 Xlp103 elp103 Nlp103 Klp103 Slp103 AU ij hklp103
    have S105 : ∀ t, Steps p.tables e below (Tlp103.setTop (mkF m 11 #[.val (.ref v1), .val (.int (Int32.ofNat j)), .val (.int (Int32.ofNat cs.length)), .val (.ref o_101), .val (.int (Int32.ofNat j))] [(.int (Int32.ofNat cs.length)), (.int (Int32.ofNat j))])) t → Steps p.tables e below (s₁.setTop (entryFrame m #[(.ref v1), (.int (0 : Int32)), (.int (Int32.ofNat cs.length))] 5)) t := fun t k => by
      refine Slp103 t ?_
      show Steps p.tables e below (Tlp103.setTop (mkF m 8 #[.val (.ref v1), .val (.int (Int32.ofNat j)), .val (.int (Int32.ofNat cs.length)), .val (.ref o_101), .val (.int (Int32.ofNat j))] [])) _
      refine XS.iload Xlp103.here hx rfl (hb hby d27_8) rfl ?_
      refine XS.iloadN Xlp103.here hx rfl (hb hby d27_10) rfl ?_
      exact k
    by_cases hc104 : (Int32.ofNat j) < (Int32.ofNat cs.length)
    · have c106 : Arv Z hlp103 v1 kv .char (Int32.ofNat cs.length) (cs.map Value.int) dvc := (Arv.keep (Arv.keep AV K101 nin0) Klp103 (ninS (Nat.ne_of_lt (Nat.lt_of_lt_of_le (AV).lt ge_o_101)) nin0))
      obtain ⟨clq107, Arq107, kqq107, Szq107, Nnq107, Hsq107, Gsq107⟩ := id c106
      have hinq107 : ¬ ((Int32.ofNat j) < 0 ∨ clq107.slots.size ≤ ((Int32.ofNat j)).toNatClampNeg) := inb_of Szq107 (own_inb ((own_lt (show j < 16 by omega) (show cs.length < 16 by omega)).mp hc104) (by omega))
      have O108 : Old Z n0 T101.heap := Old.keep O0 K101 all0
      have O109 : Old Z n0 hlp103 := Old.keep O108 Klp103 (allS g_o_101 all0)
      obtain ⟨_, _, ⟨T110, L110, k110, n110⟩, -, X110, ⟨Lc110, hQ110, l110, y110, z110⟩, st110⟩ := Jvm.LawKit.callS Xlp103 hx (y := (⟨"java/lang/StringUTF16", "putChar", "([BII)V"⟩ : MethodName)) hown (mvT hZ (hwk hw 124 rfl)) (mvT hZ (hwk hw 125 rfl)) (mvT hZ (hwk hw 84 rfl)) (mvT hZ (hwk hw 126 rfl)) (by decide) (backOf (W := 0) (rm30 l Z a0 hw [] j cs.length (cs.getD j 0) o_101 ko_101 (UB cs j) hlp103 n0 O109 AU g_o_101 hs ((own_lt (show j < 16 by omega) (show cs.length < 16 by omega)).mp hc104) (own_ubl ij) SA SH SL) hZ (hwk hw 126 rfl) (hwk hw 84 rfl) (by decide) (by decide)) (g := (mkF m 20 #[.val (.ref v1), .val (.int (Int32.ofNat j)), .val (.int (Int32.ofNat cs.length)), .val (.ref o_101), .val (.int (Int32.ofNat j))] [(.int (cs.getD j 0)), (.int (Int32.ofNat j)), (.ref o_101)])) rfl (by rw [hml]; rfl) (argsL := [(.ref o_101), (.int (Int32.ofNat j)), (.int (cs.getD j 0))]) (rest := []) (lenOf pd_18 rfl) rfl (by show 2 * 0 + _ ≤ _; exact Nat.le_of_eq rfl) (hb hby d27_20) (fun _ _ => ⟨rfl, elp103, (by decide : 1 + 0 ≤ _), (by decide : 12 + 0 ≤ _)⟩)
      dsimp only [Pt.U, Pt.locs, Pt.cells, Pt.slots] at X110 l110 y110 z110 st110 hQ110
      subst l110 y110 z110
      unfold Q_rm30 at hQ110
      obtain ⟨rfl, N110q, K110, f110_0⟩ := hQ110
      have N110 := Fr.app Nlp103 N110q
      have S111 : ∀ t, Steps p.tables e below (T110.setTop (mkF m 8 #[.val (.ref v1), .val (.int (Int32.ofNat (j + 1))), .val (.int (Int32.ofNat cs.length)), .val (.ref o_101), .val (.int (Int32.ofNat (j + 1)))] [])) t → Steps p.tables e below (s₁.setTop (entryFrame m #[(.ref v1), (.int (0 : Int32)), (.int (Int32.ofNat cs.length))] 5)) t := fun t k => by
        refine S105 t ?_
        show Steps p.tables e below (Tlp103.setTop (mkF m 11 #[.val (.ref v1), .val (.int (Int32.ofNat j)), .val (.int (Int32.ofNat cs.length)), .val (.ref o_101), .val (.int (Int32.ofNat j))] [(.int (Int32.ofNat cs.length)), (.int (Int32.ofNat j))])) _
        refine XS.icmpNo Xlp103.here hx rfl (hb hby d27_11) rfl (tlt hc104).2.1 ?_
        show Steps p.tables e below (Tlp103.setTop (mkF m 14 #[.val (.ref v1), .val (.int (Int32.ofNat j)), .val (.int (Int32.ofNat cs.length)), .val (.ref o_101), .val (.int (Int32.ofNat j))] [])) _
        refine XS.aloadN Xlp103.here hx rfl (hb hby d27_14) rfl rfl ?_
        refine XS.iload Xlp103.here hx rfl (hb hby d27_15) rfl ?_
        refine XS.aloadN Xlp103.here hx rfl (hb hby d27_17) rfl rfl ?_
        refine XS.iloadN Xlp103.here hx rfl (hb hby d27_18) rfl ?_
        show Steps p.tables e below (Tlp103.setTop (mkF m 19 #[.val (.ref v1), .val (.int (Int32.ofNat j)), .val (.int (Int32.ofNat cs.length)), .val (.ref o_101), .val (.int (Int32.ofNat j))] [(.int (Int32.ofNat j)), (.ref v1), (.int (Int32.ofNat j)), (.ref o_101)])) _
        refine Xlp103.caload hx (j := (Int32.ofNat j)) (v := (.int (cs.getD j 0))) (by rw [elp103]; exact Arq107.1) (State.isArrayOf_alike hZ.alike Arq107.2.1) Arq107.2.2 hinq107 (Has.at Hsq107 hinq107 (own_cm ((own_lt (show j < 16 by omega) (show cs.length < 16 by omega)).mp hc104) hs)) (g := (mkF m 19 #[.val (.ref v1), .val (.int (Int32.ofNat j)), .val (.int (Int32.ofNat cs.length)), .val (.ref o_101), .val (.int (Int32.ofNat j))] [(.int (Int32.ofNat j)), (.ref v1), (.int (Int32.ofNat j)), (.ref o_101)])) rfl rfl (hb hby d27_19) _ ?_
        show Steps p.tables e below (Tlp103.setTop (mkF m 20 #[.val (.ref v1), .val (.int (Int32.ofNat j)), .val (.int (Int32.ofNat cs.length)), .val (.ref o_101), .val (.int (Int32.ofNat j))] [(.int (cs.getD j 0)), (.int (Int32.ofNat j)), (.ref o_101)])) _
        refine st110 _ ?_
        show Steps p.tables e below (T110.setTop (mkF m 23 #[.val (.ref v1), .val (.int (Int32.ofNat j)), .val (.int (Int32.ofNat cs.length)), .val (.ref o_101), .val (.int (Int32.ofNat j))] [])) _
        refine XS.iinc X110.here hx rfl (hb hby d27_23) rfl (l' := #[.val (.ref v1), .val (.int ((Int32.ofNat j) + (1 : Int32))), .val (.int (Int32.ofNat cs.length)), .val (.ref o_101), .val (.int (Int32.ofNat j))]) rfl ?_
        show Steps p.tables e below (T110.setTop (mkF m 26 #[.val (.ref v1), .val (.int ((Int32.ofNat j) + (1 : Int32))), .val (.int (Int32.ofNat cs.length)), .val (.ref o_101), .val (.int (Int32.ofNat j))] [])) _
        refine XS.iinc X110.here hx rfl (hb hby d27_26) rfl (l' := #[.val (.ref v1), .val (.int ((Int32.ofNat j) + (1 : Int32))), .val (.int (Int32.ofNat cs.length)), .val (.ref o_101), .val (.int ((Int32.ofNat j) + (1 : Int32)))]) rfl ?_
        show Steps p.tables e below (T110.setTop (mkF m 29 #[.val (.ref v1), .val (.int ((Int32.ofNat j) + (1 : Int32))), .val (.int (Int32.ofNat cs.length)), .val (.ref o_101), .val (.int ((Int32.ofNat j) + (1 : Int32)))] [])) _
        refine XS.goto X110.here hx rfl (pc0 := 29) (pc' := 8) rfl (hb hby d27_29) (by decide) (by decide) ?_
        show Steps p.tables e below (T110.setTop (mkF m 8 #[.val (.ref v1), .val (.int ((Int32.ofNat j) + (1 : Int32))), .val (.int (Int32.ofNat cs.length)), .val (.ref o_101), .val (.int ((Int32.ofNat j) + (1 : Int32)))] [])) _
        rw [own_succ]
        exact k
      have K112 : Keep T101.heap hlp103 [o_101] := Keep.trans (Keep.refl T101.heap [o_101]) Klp103 (allS (Or.inl (List.mem_of_getElem? (i := 0) rfl)) all0)
      have K113 : Keep T101.heap T110.heap [o_101] := Keep.trans K112 K110 (allS (Or.inl (List.mem_of_getElem? (i := 0) rfl)) all0)
      exact ihlp103 _ (by have := ((own_lt (show j < 16 by omega) (show cs.length < 16 by omega)).mp hc104); omega) (j + 1) T110 _ _ X110 (rfl : T110.heap = T110.heap) N110 K113 S111 (own_arv f110_0 (own_ubs ((own_lt (show j < 16 by omega) (show cs.length < 16 by omega)).mp hc104))) ((own_lt (show j < 16 by omega) (show cs.length < 16 by omega)).mp hc104) rfl
    · have K114 : Keep h0 T101.heap [] := Keep.trans (Keep.refl h0 []) K101 all0
      have K115 : Keep h0 hlp103 [] := Keep.trans K114 Klp103 (allS (Or.inr (Nat.le_trans (Nat.le_refl _) ge_o_101)) all0)
      obtain ⟨fs, hr, hrun, hended, hW, hsame⟩ := Xlp103.leave (v := some (.ref o_101)) (fun h => by rw [Bd.returns] at h; cases h)
      refine ⟨_, _, S105 _ ?_, hrun, hended, _, _, rfl, ?_, ⟨_, rfl⟩, hW, hsame.mono (by decide) (by decide)⟩
      · show Steps p.tables e below (Tlp103.setTop (mkF m 11 #[.val (.ref v1), .val (.int (Int32.ofNat j)), .val (.int (Int32.ofNat cs.length)), .val (.ref o_101), .val (.int (Int32.ofNat j))] [(.int (Int32.ofNat cs.length)), (.int (Int32.ofNat j))])) _
        refine XS.icmpYes Xlp103.here hx rfl (pc0 := 11) (pc' := 32) rfl (hb hby d27_11) rfl (flt hc104).2.1 (by decide) (by decide) ?_
        show Steps p.tables e below (Tlp103.setTop (mkF m 32 #[.val (.ref v1), .val (.int (Int32.ofNat j)), .val (.int (Int32.ofNat cs.length)), .val (.ref o_101), .val (.int (Int32.ofNat j))] [])) _
        refine XS.aloadN Xlp103.here hx rfl (hb hby d27_32) rfl rfl ?_
        show Steps p.tables e below (Tlp103.setTop (mkF m 33 #[.val (.ref v1), .val (.int (Int32.ofNat j)), .val (.int (Int32.ofNat cs.length)), .val (.ref o_101), .val (.int (Int32.ofNat j))] [(.ref o_101)])) _
        exact Jvm.RoadKit.retOut Xlp103 hx Bd.returns rfl (Or.inr (Or.inr (Or.inr (Or.inr ⟨rfl, rfl, rfl⟩)))) (hb hby d27_33) hr
      · show Q_rm27 Z v1 kv dvc cs h0 n0 _ Tlp103.heap _
        rw [elp103]
        unfold Q_rm27
        exact ⟨o_101, ko_101, rfl, Nlp103, K115, (Nat.le_trans (Nat.le_refl _) ge_o_101), (own_arv AU (own_ube (fun r => hc104 ((own_lt (by omega) (by omega)).mpr r))))⟩
theorem ef_rm19 (m : MethodId) (x0 : Addr) (x1 : Int32) (x2 : Addr) (x3 : Int32) (x4 : Int32) : entryFrame m #[(.ref x0), (.int x1), (.ref x2), (.int x3), (.int x4)] 7 = mkF m 0 #[.val (.ref x0), .val (.int x1), .val (.ref x2), .val (.int x3), .val (.int x4), .unset, .unset] [] := by first | (simp [entryFrame, mkF, argsToLocals, Value.category]; done) | rfl
def Q_rm19 (Z : State) (v1 : Addr) (kv : ClassId) (dvc : Value) (cs : List Int32) (d1 : Addr) (kd : ClassId) (W0 : List Value) (h0 : Heap) (n0 : Nat) (v : Option Value) (h : Heap) (L : List Loc) : Prop := ∃ kx : Nat, (v = some (.int (Int32.ofNat kx))) ∧ (Fr n0 L) ∧ (Keep h0 h [d1]) ∧ (kx < cs.length) ∧ ((255 : Int32) < cs.getD kx 0)
theorem d19_0 : decode jdk_52_method_21_code 0 = .ok (.iconst 0, 1) := by decide +kernel
theorem d19_1 : decode jdk_52_method_21_code 1 = .ok (.istore 5, 2) := by decide +kernel
theorem d19_3 : decode jdk_52_method_21_code 3 = .ok (.iload 5, 2) := by decide +kernel
theorem d19_5 : decode jdk_52_method_21_code 5 = .ok (.iload 4, 2) := by decide +kernel
theorem d19_7 : decode jdk_52_method_21_code 7 = .ok (.if_icmp .ge 37, 3) := by decide +kernel
theorem d19_10 : decode jdk_52_method_21_code 10 = .ok (.aload_n 0, 1) := by decide +kernel
theorem d19_11 : decode jdk_52_method_21_code 11 = .ok (.iload_n 1, 1) := by decide +kernel
theorem d19_12 : decode jdk_52_method_21_code 12 = .ok (.caload, 1) := by decide +kernel
theorem d19_13 : decode jdk_52_method_21_code 13 = .ok (.istore 6, 2) := by decide +kernel
theorem d19_15 : decode jdk_52_method_21_code 15 = .ok (.iload 6, 2) := by decide +kernel
theorem d19_17 : decode jdk_52_method_21_code 17 = .ok (.sipush 255, 3) := by decide +kernel
theorem d19_20 : decode jdk_52_method_21_code 20 = .ok (.if_icmp .le 6, 3) := by decide +kernel
theorem d19_23 : decode jdk_52_method_21_code 23 = .ok (.iload 5, 2) := by decide +kernel
theorem d19_25 : decode jdk_52_method_21_code 25 = .ok (.ireturn, 1) := by decide +kernel
theorem d19_26 : decode jdk_52_method_21_code 26 = .ok (.aload_n 2, 1) := by decide +kernel
theorem d19_27 : decode jdk_52_method_21_code 27 = .ok (.iload_n 3, 1) := by decide +kernel
theorem d19_28 : decode jdk_52_method_21_code 28 = .ok (.iload 6, 2) := by decide +kernel
theorem d19_30 : decode jdk_52_method_21_code 30 = .ok (.i2b, 1) := by decide +kernel
theorem d19_31 : decode jdk_52_method_21_code 31 = .ok (.bastore, 1) := by decide +kernel
theorem d19_32 : decode jdk_52_method_21_code 32 = .ok (.iinc 1 1, 3) := by decide +kernel
theorem d19_35 : decode jdk_52_method_21_code 35 = .ok (.iinc 3 1, 3) := by decide +kernel
theorem d19_38 : decode jdk_52_method_21_code 38 = .ok (.iinc 5 1, 3) := by decide +kernel
theorem d19_41 : decode jdk_52_method_21_code 41 = .ok (.goto (-38), 3) := by decide +kernel
set_option maxRecDepth 65536 in
set_option maxHeartbeats 40000000 in
theorem rm19 (l : Launch) (Z : State) (a0 : Array Value) (hw : ∀ d ∈ tables_1, d.before a0 Z = true) (ws : List Jvm.Cond) (v1 : Addr) (kv : ClassId) (dvc : Value) (cs : List Int32) (d1 : Addr) (kd : ClassId) (W0 : List Value) (h0 : Heap) (n0 : Nat) (O0 : Old Z n0 h0) (AV : Arv Z h0 v1 kv .char (Int32.ofNat cs.length) (cs.map Value.int) dvc) (hs : cs.length ≤ 6) (hx1 : ¬ ∀ m < cs.length, ¬ (255 : Int32) < cs.getD m 0) (gd : n0 ≤ d1) (nd : v1 ≠ d1) (AD0 : Arv Z h0 d1 kd .byte (Int32.ofNat cs.length) W0 (.int (0 : Int32))) (hW0 : W0.length = cs.length) :
    MetFree l (⟨"java/lang/StringUTF16", "compress", "([CI[BII)I"⟩ : MethodName) (head1 (Jvm.Cond.code (⟨"java/lang/StringUTF16", "compress", "([CI[BII)I"⟩ : MethodName) jdk_52_method_21_code 7 (some .int) :: ws) ({ frames := 0, cells := 0, slots := 0, locals := 0 } : Room)) (fun a U => a = #[(.ref v1), (.int (0 : Int32)), (.ref d1), (.int (0 : Int32)), (.int (Int32.ofNat cs.length))] ∧ Z.Warmed39 U.vm ∧ U.heap = h0) (fun _ _ _ _ _ => True) (fun _ U o U' => ∃ v L, o = .returned v ∧ Q_rm19 Z v1 kv dvc cs d1 kd W0 h0 n0 v U'.heap L ∧ FrameEnd U o U' L ({ frames := 0, cells := 0, slots := 0, locals := 0 } : Room).cells ({ frames := 0, cells := 0, slots := 0, locals := 0 } : Room).slots) := by
  refine MetFree.of_bodySF (plainFor_of_name pn_0) hisR ?_
  intro p e s m args below meth c s₁ Bd hml0 hP hK
  obtain ⟨rfl, hZ, hh⟩ := hP
  have hx := Bd.exec
  have hby := Bd.bytes
  have hml : c.maxLocals = 7 := hml0
  have hown : s.vm.findClass "java/lang/StringUTF16" = some m.cls := findClass_of_methodNamed Bd.named
  have hnm := (name_of_methodNamed Bd.named Bd.method).1
  have X0 : Stand p l e ({ frames := 0, cells := 0, slots := 0, locals := 0 } : Room) s m #[(.ref v1), (.int (0 : Int32)), (.ref d1), (.int (0 : Int32)), (.int (Int32.ofNat cs.length))] below meth c s₁ [] 0 0 := Stand.of_body Bd
  have e0 : s₁.heap = h0 := by rw [← hh, Bd.state]; rfl
  have N0 := Fr.nil n0
  have Z0 : n0 ≤ h0.size := old_le O0
  have pre0 : ∀ t, Steps p.tables e below (s₁.setTop (mkF m 0 #[.val (.ref v1), .val (.int (0 : Int32)), .val (.ref d1), .val (.int (0 : Int32)), .val (.int (Int32.ofNat cs.length)), .unset, .unset] [])) t → Steps p.tables e below (s₁.setTop (entryFrame m #[(.ref v1), (.int (0 : Int32)), (.ref d1), (.int (0 : Int32)), (.int (Int32.ofNat cs.length))] 7)) t := fun t k => castTop (ef_rm19 m v1 (0 : Int32) d1 (0 : Int32) (Int32.ofNat cs.length)) k
  have S101 : ∀ t, Steps p.tables e below (s₁.setTop (mkF m 3 #[.val (.ref v1), .val (.int (0 : Int32)), .val (.ref d1), .val (.int (0 : Int32)), .val (.int (Int32.ofNat cs.length)), .val (.int (0 : Int32)), .unset] [])) t → Steps p.tables e below (s₁.setTop (entryFrame m #[(.ref v1), (.int (0 : Int32)), (.ref d1), (.int (0 : Int32)), (.int (Int32.ofNat cs.length))] 7)) t := fun t k => by
    refine pre0 t ?_
    show Steps p.tables e below (s₁.setTop (mkF m 0 #[.val (.ref v1), .val (.int (0 : Int32)), .val (.ref d1), .val (.int (0 : Int32)), .val (.int (Int32.ofNat cs.length)), .unset, .unset] [])) _
    refine XS.iconst X0.here hx rfl (hb hby d19_0) ?_
    refine XS.istore X0.here hx rfl (hb hby d19_1) rfl (l' := #[.val (.ref v1), .val (.int (0 : Int32)), .val (.ref d1), .val (.int (0 : Int32)), .val (.int (Int32.ofNat cs.length)), .val (.int (0 : Int32)), .unset]) rfl ?_
    exact k
  refine (?lp102 : ∀ (k : Nat) (j : Nat) (W1 : List Value) (z : Slot) (T : State) (L : List Loc) (h : Heap), Stand p l e ({ frames := 0, cells := 0, slots := 0, locals := 0 } : Room) s m #[(.ref v1), (.int (0 : Int32)), (.ref d1), (.int (0 : Int32)), (.int (Int32.ofNat cs.length))] below meth c T L 0 0 → T.heap = h → Fr n0 L → Keep h0 h [d1] → (∀ t, Steps p.tables e below (T.setTop (mkF m 3 #[.val (.ref v1), .val (.int (Int32.ofNat j)), .val (.ref d1), .val (.int (Int32.ofNat j)), .val (.int (Int32.ofNat cs.length)), .val (.int (Int32.ofNat j)), z] [])) t → Steps p.tables e below (s₁.setTop (entryFrame m #[(.ref v1), (.int (0 : Int32)), (.ref d1), (.int (0 : Int32)), (.int (Int32.ofNat cs.length))] 7)) t) → (Arv Z h d1 kd .byte (Int32.ofNat cs.length) W1 (.int (0 : Int32))) → (j ≤ cs.length) → (∀ m < j, ¬ (255 : Int32) < cs.getD m 0) → (W1.length = cs.length) → (z = Slot.unset ∨ ∃ w, z = Slot.val w ∧ w.category = 1) → (cs.length - j) = k → _) _ (0) (W0) (Slot.unset) s₁ _ _ X0 e0 N0 (Keep.refl h0 [d1]) S101 AD0 (Nat.zero_le _) (fun m h => absurd h (Nat.not_lt_zero m)) hW0 (Or.inl rfl) rfl
  intro k
  induction k using Nat.strongRecOn with
  | _ k ihlp102 =>
    intro j W1 z Tlp102 Llp102 hlp102 Xlp102 elp102 Nlp102 Klp102 Slp102 AD1 ij iv iw hz hklp102
    have S104 : ∀ t, Steps p.tables e below (Tlp102.setTop (mkF m 7 #[.val (.ref v1), .val (.int (Int32.ofNat j)), .val (.ref d1), .val (.int (Int32.ofNat j)), .val (.int (Int32.ofNat cs.length)), .val (.int (Int32.ofNat j)), z] [(.int (Int32.ofNat cs.length)), (.int (Int32.ofNat j))])) t → Steps p.tables e below (s₁.setTop (entryFrame m #[(.ref v1), (.int (0 : Int32)), (.ref d1), (.int (0 : Int32)), (.int (Int32.ofNat cs.length))] 7)) t := fun t k => by
      refine Slp102 t ?_
      show Steps p.tables e below (Tlp102.setTop (mkF m 3 #[.val (.ref v1), .val (.int (Int32.ofNat j)), .val (.ref d1), .val (.int (Int32.ofNat j)), .val (.int (Int32.ofNat cs.length)), .val (.int (Int32.ofNat j)), z] [])) _
      refine XS.iload Xlp102.here hx rfl (hb hby d19_3) rfl ?_
      refine XS.iload Xlp102.here hx rfl (hb hby d19_5) rfl ?_
      exact k
    by_cases hc103 : (Int32.ofNat j) < (Int32.ofNat cs.length)
    · have c105 : Arv Z hlp102 v1 kv .char (Int32.ofNat cs.length) (cs.map Value.int) dvc := (Arv.keep AV Klp102 (ninS nd nin0))
      obtain ⟨clq106, Arq106, kqq106, Szq106, Nnq106, Hsq106, Gsq106⟩ := id c105
      have hinq106 : ¬ ((Int32.ofNat j) < 0 ∨ clq106.slots.size ≤ ((Int32.ofNat j)).toNatClampNeg) := inb_of Szq106 (own_inb ((own_lt (show j < 16 by omega) (show cs.length < 16 by omega)).mp hc103) (by omega))
      have S108 : ∀ t, Steps p.tables e below (Tlp102.setTop (mkF m 20 #[.val (.ref v1), .val (.int (Int32.ofNat j)), .val (.ref d1), .val (.int (Int32.ofNat j)), .val (.int (Int32.ofNat cs.length)), .val (.int (Int32.ofNat j)), .val (.int (cs.getD j 0))] [(.int (255 : Int32)), (.int (cs.getD j 0))])) t → Steps p.tables e below (s₁.setTop (entryFrame m #[(.ref v1), (.int (0 : Int32)), (.ref d1), (.int (0 : Int32)), (.int (Int32.ofNat cs.length))] 7)) t := fun t k => by
        refine S104 t ?_
        show Steps p.tables e below (Tlp102.setTop (mkF m 7 #[.val (.ref v1), .val (.int (Int32.ofNat j)), .val (.ref d1), .val (.int (Int32.ofNat j)), .val (.int (Int32.ofNat cs.length)), .val (.int (Int32.ofNat j)), z] [(.int (Int32.ofNat cs.length)), (.int (Int32.ofNat j))])) _
        refine XS.icmpNo Xlp102.here hx rfl (hb hby d19_7) rfl (tlt hc103).2.1 ?_
        show Steps p.tables e below (Tlp102.setTop (mkF m 10 #[.val (.ref v1), .val (.int (Int32.ofNat j)), .val (.ref d1), .val (.int (Int32.ofNat j)), .val (.int (Int32.ofNat cs.length)), .val (.int (Int32.ofNat j)), z] [])) _
        refine XS.aloadN Xlp102.here hx rfl (hb hby d19_10) rfl rfl ?_
        refine XS.iloadN Xlp102.here hx rfl (hb hby d19_11) rfl ?_
        show Steps p.tables e below (Tlp102.setTop (mkF m 12 #[.val (.ref v1), .val (.int (Int32.ofNat j)), .val (.ref d1), .val (.int (Int32.ofNat j)), .val (.int (Int32.ofNat cs.length)), .val (.int (Int32.ofNat j)), z] [(.int (Int32.ofNat j)), (.ref v1)])) _
        refine Xlp102.caload hx (j := (Int32.ofNat j)) (v := (.int (cs.getD j 0))) (by rw [elp102]; exact Arq106.1) (State.isArrayOf_alike hZ.alike Arq106.2.1) Arq106.2.2 hinq106 (Has.at Hsq106 hinq106 (own_cm ((own_lt (show j < 16 by omega) (show cs.length < 16 by omega)).mp hc103) hs)) (g := (mkF m 12 #[.val (.ref v1), .val (.int (Int32.ofNat j)), .val (.ref d1), .val (.int (Int32.ofNat j)), .val (.int (Int32.ofNat cs.length)), .val (.int (Int32.ofNat j)), z] [(.int (Int32.ofNat j)), (.ref v1)])) rfl rfl (hb hby d19_12) _ ?_
        show Steps p.tables e below (Tlp102.setTop (mkF m 13 #[.val (.ref v1), .val (.int (Int32.ofNat j)), .val (.ref d1), .val (.int (Int32.ofNat j)), .val (.int (Int32.ofNat cs.length)), .val (.int (Int32.ofNat j)), z] [(.int (cs.getD j 0))])) _
        refine XS.istore Xlp102.here hx rfl (hb hby d19_13) rfl (l' := #[.val (.ref v1), .val (.int (Int32.ofNat j)), .val (.ref d1), .val (.int (Int32.ofNat j)), .val (.int (Int32.ofNat cs.length)), .val (.int (Int32.ofNat j)), .val (.int (cs.getD j 0))]) (XS.store1 (o := z) rfl hz rfl) ?_
        show Steps p.tables e below (Tlp102.setTop (mkF m 15 #[.val (.ref v1), .val (.int (Int32.ofNat j)), .val (.ref d1), .val (.int (Int32.ofNat j)), .val (.int (Int32.ofNat cs.length)), .val (.int (Int32.ofNat j)), .val (.int (cs.getD j 0))] [])) _
        refine XS.iload Xlp102.here hx rfl (hb hby d19_15) rfl ?_
        refine XS.sipush Xlp102.here hx rfl (hb hby d19_17) ?_
        exact k
      by_cases hc107 : (255 : Int32) < (cs.getD j 0)
      · have K109 : Keep h0 hlp102 [d1] := Keep.trans (Keep.refl h0 [d1]) Klp102 (allS (Or.inl (List.mem_of_getElem? (i := 0) rfl)) all0)
        obtain ⟨fs, hr, hrun, hended, hW, hsame⟩ := Xlp102.leave (v := some (.int (Int32.ofNat j))) (fun h => by rw [Bd.returns] at h; cases h)
        refine ⟨_, _, S108 _ ?_, hrun, hended, _, _, rfl, ?_, ⟨_, rfl⟩, hW, hsame.mono (by decide) (by decide)⟩
        · show Steps p.tables e below (Tlp102.setTop (mkF m 20 #[.val (.ref v1), .val (.int (Int32.ofNat j)), .val (.ref d1), .val (.int (Int32.ofNat j)), .val (.int (Int32.ofNat cs.length)), .val (.int (Int32.ofNat j)), .val (.int (cs.getD j 0))] [(.int (255 : Int32)), (.int (cs.getD j 0))])) _
          refine XS.icmpNo Xlp102.here hx rfl (hb hby d19_20) rfl (tlt hc107).2.2.2 ?_
          show Steps p.tables e below (Tlp102.setTop (mkF m 23 #[.val (.ref v1), .val (.int (Int32.ofNat j)), .val (.ref d1), .val (.int (Int32.ofNat j)), .val (.int (Int32.ofNat cs.length)), .val (.int (Int32.ofNat j)), .val (.int (cs.getD j 0))] [])) _
          refine XS.iload Xlp102.here hx rfl (hb hby d19_23) rfl ?_
          show Steps p.tables e below (Tlp102.setTop (mkF m 25 #[.val (.ref v1), .val (.int (Int32.ofNat j)), .val (.ref d1), .val (.int (Int32.ofNat j)), .val (.int (Int32.ofNat cs.length)), .val (.int (Int32.ofNat j)), .val (.int (cs.getD j 0))] [(.int (Int32.ofNat j))])) _
          exact Jvm.RoadKit.retOut Xlp102 hx Bd.returns rfl (Or.inl ⟨rfl, by simp, _, rfl⟩) (hb hby d19_25) hr
        · show Q_rm19 Z v1 kv dvc cs d1 kd W0 h0 n0 _ Tlp102.heap _
          rw [elp102]
          unfold Q_rm19
          exact ⟨j, rfl, Nlp102, K109, ((own_lt (show j < 16 by omega) (show cs.length < 16 by omega)).mp hc103), hc107⟩
      · obtain ⟨clq110, Arq110, kqq110, Szq110, Nnq110, Hsq110, Gsq110⟩ := id AD1
        have hinq110 : ¬ ((Int32.ofNat j) < 0 ∨ clq110.slots.size ≤ ((Int32.ofNat j)).toNatClampNeg) := inb_of Szq110 (own_inb ((own_lt (show j < 16 by omega) (show cs.length < 16 by omega)).mp hc103) (by omega))
        obtain ⟨T111, h111, X111, e111, W111, st111⟩ := stB Xlp102 hx hZ elp102 Arq110 (j := (Int32.ofNat j)) hinq110 (g := (mkF m 31 #[.val (.ref v1), .val (.int (Int32.ofNat j)), .val (.ref d1), .val (.int (Int32.ofNat j)), .val (.int (Int32.ofNat cs.length)), .val (.int (Int32.ofNat j)), .val (.int (cs.getD j 0))] [(.int ((cs.getD j 0).toInt8.toInt32)), (.int (Int32.ofNat j)), (.ref d1)])) rfl rfl (hb hby d19_31)
        have V111 : Arv Z h111 d1 kd .byte (Int32.ofNat cs.length) (List.set W1 j (.int (nar .byte ((cs.getD j 0).toInt8.toInt32)))) (.int (0 : Int32)) := Arv.set Arq110 kqq110 Szq110 Nnq110 Hsq110 Gsq110 (fits_nar_byte _) W111 j (own_nat (by omega)) (by have := ((own_lt (show j < 16 by omega) (show cs.length < 16 by omega)).mp hc103); omega)
        have N111 := Fr.snoc X111 Nlp102 gd
        have S112 : ∀ t, Steps p.tables e below (T111.setTop (mkF m 3 #[.val (.ref v1), .val (.int (Int32.ofNat (j + 1))), .val (.ref d1), .val (.int (Int32.ofNat (j + 1))), .val (.int (Int32.ofNat cs.length)), .val (.int (Int32.ofNat (j + 1))), .val (.int (cs.getD j 0))] [])) t → Steps p.tables e below (s₁.setTop (entryFrame m #[(.ref v1), (.int (0 : Int32)), (.ref d1), (.int (0 : Int32)), (.int (Int32.ofNat cs.length))] 7)) t := fun t k => by
          refine S108 t ?_
          show Steps p.tables e below (Tlp102.setTop (mkF m 20 #[.val (.ref v1), .val (.int (Int32.ofNat j)), .val (.ref d1), .val (.int (Int32.ofNat j)), .val (.int (Int32.ofNat cs.length)), .val (.int (Int32.ofNat j)), .val (.int (cs.getD j 0))] [(.int (255 : Int32)), (.int (cs.getD j 0))])) _
          refine XS.icmpYes Xlp102.here hx rfl (pc0 := 20) (pc' := 26) rfl (hb hby d19_20) rfl (flt hc107).2.2.2 (by decide) (by decide) ?_
          show Steps p.tables e below (Tlp102.setTop (mkF m 26 #[.val (.ref v1), .val (.int (Int32.ofNat j)), .val (.ref d1), .val (.int (Int32.ofNat j)), .val (.int (Int32.ofNat cs.length)), .val (.int (Int32.ofNat j)), .val (.int (cs.getD j 0))] [])) _
          refine XS.aloadN Xlp102.here hx rfl (hb hby d19_26) rfl rfl ?_
          refine XS.iloadN Xlp102.here hx rfl (hb hby d19_27) rfl ?_
          refine XS.iload Xlp102.here hx rfl (hb hby d19_28) rfl ?_
          refine XS.i2b Xlp102.here hx rfl (hb hby d19_30) rfl ?_
          show Steps p.tables e below (Tlp102.setTop (mkF m 31 #[.val (.ref v1), .val (.int (Int32.ofNat j)), .val (.ref d1), .val (.int (Int32.ofNat j)), .val (.int (Int32.ofNat cs.length)), .val (.int (Int32.ofNat j)), .val (.int (cs.getD j 0))] [(.int ((cs.getD j 0).toInt8.toInt32)), (.int (Int32.ofNat j)), (.ref d1)])) _
          refine st111 _ ?_
          show Steps p.tables e below (T111.setTop (mkF m 32 #[.val (.ref v1), .val (.int (Int32.ofNat j)), .val (.ref d1), .val (.int (Int32.ofNat j)), .val (.int (Int32.ofNat cs.length)), .val (.int (Int32.ofNat j)), .val (.int (cs.getD j 0))] [])) _
          refine XS.iinc X111.here hx rfl (hb hby d19_32) rfl (l' := #[.val (.ref v1), .val (.int ((Int32.ofNat j) + (1 : Int32))), .val (.ref d1), .val (.int (Int32.ofNat j)), .val (.int (Int32.ofNat cs.length)), .val (.int (Int32.ofNat j)), .val (.int (cs.getD j 0))]) rfl ?_
          show Steps p.tables e below (T111.setTop (mkF m 35 #[.val (.ref v1), .val (.int ((Int32.ofNat j) + (1 : Int32))), .val (.ref d1), .val (.int (Int32.ofNat j)), .val (.int (Int32.ofNat cs.length)), .val (.int (Int32.ofNat j)), .val (.int (cs.getD j 0))] [])) _
          refine XS.iinc X111.here hx rfl (hb hby d19_35) rfl (l' := #[.val (.ref v1), .val (.int ((Int32.ofNat j) + (1 : Int32))), .val (.ref d1), .val (.int ((Int32.ofNat j) + (1 : Int32))), .val (.int (Int32.ofNat cs.length)), .val (.int (Int32.ofNat j)), .val (.int (cs.getD j 0))]) rfl ?_
          show Steps p.tables e below (T111.setTop (mkF m 38 #[.val (.ref v1), .val (.int ((Int32.ofNat j) + (1 : Int32))), .val (.ref d1), .val (.int ((Int32.ofNat j) + (1 : Int32))), .val (.int (Int32.ofNat cs.length)), .val (.int (Int32.ofNat j)), .val (.int (cs.getD j 0))] [])) _
          refine XS.iinc X111.here hx rfl (hb hby d19_38) rfl (l' := #[.val (.ref v1), .val (.int ((Int32.ofNat j) + (1 : Int32))), .val (.ref d1), .val (.int ((Int32.ofNat j) + (1 : Int32))), .val (.int (Int32.ofNat cs.length)), .val (.int ((Int32.ofNat j) + (1 : Int32))), .val (.int (cs.getD j 0))]) rfl ?_
          show Steps p.tables e below (T111.setTop (mkF m 41 #[.val (.ref v1), .val (.int ((Int32.ofNat j) + (1 : Int32))), .val (.ref d1), .val (.int ((Int32.ofNat j) + (1 : Int32))), .val (.int (Int32.ofNat cs.length)), .val (.int ((Int32.ofNat j) + (1 : Int32))), .val (.int (cs.getD j 0))] [])) _
          refine XS.goto X111.here hx rfl (pc0 := 41) (pc' := 3) rfl (hb hby d19_41) (by decide) (by decide) ?_
          show Steps p.tables e below (T111.setTop (mkF m 3 #[.val (.ref v1), .val (.int ((Int32.ofNat j) + (1 : Int32))), .val (.ref d1), .val (.int ((Int32.ofNat j) + (1 : Int32))), .val (.int (Int32.ofNat cs.length)), .val (.int ((Int32.ofNat j) + (1 : Int32))), .val (.int (cs.getD j 0))] [])) _
          rw [own_succ]
          exact k
        have K113 : Keep h0 hlp102 [d1] := Keep.trans (Keep.refl h0 [d1]) Klp102 (allS (Or.inl (List.mem_of_getElem? (i := 0) rfl)) all0)
        have K114 : Keep h0 h111 [d1] := Keep.wr K113 W111 (Or.inl (List.mem_of_getElem? (i := 0) rfl))
        exact ihlp102 _ (by have := ((own_lt (show j < 16 by omega) (show cs.length < 16 by omega)).mp hc103); omega) (j + 1) ((List.set W1 j (.int (nar .byte ((cs.getD j 0).toInt8.toInt32))))) (Slot.val (.int (cs.getD j 0))) T111 _ _ X111 e111 N111 K114 S112 V111 ((own_lt (show j < 16 by omega) (show cs.length < 16 by omega)).mp hc103) (own_step iv hc107) (by rw [List.length_set]; exact iw) (Or.inr ⟨_, rfl, rfl⟩) rfl
    · exact absurd (own_all iv ij (by omega) hc103) hx1
theorem ef_rm18 (m : MethodId) (x0 : Addr) (x1 : Int32) (x2 : Int32) : entryFrame m #[(.ref x0), (.int x1), (.int x2)] 6 = mkF m 0 #[.val (.ref x0), .val (.int x1), .val (.int x2), .unset, .unset, .unset] [] := by first | (simp [entryFrame, mkF, argsToLocals, Value.category]; done) | rfl
def Q_rm18 (Z : State) (v1 : Addr) (kv : ClassId) (dvc : Value) (cs : List Int32) (h0 : Heap) (n0 : Nat) (v : Option Value) (h : Heap) (L : List Loc) : Prop := ∃ o : Addr, ∃ ko : ClassId, (v = some (.ref o)) ∧ (Fr n0 L) ∧ (Keep h0 h []) ∧ (h0.size ≤ o) ∧ (Arv Z h o ko .byte (Int32.ofNat (2 * cs.length)) (wideBytes cs) (.int (0 : Int32)))
theorem d18_0 : decode jdk_52_method_16_code 0 = .ok (.iload_n 2, 1) := by decide +kernel
theorem d18_1 : decode jdk_52_method_16_code 1 = .ok (.newarray .byte, 2) := by decide +kernel
theorem d18_3 : decode jdk_52_method_16_code 3 = .ok (.astore_n 3, 1) := by decide +kernel
theorem d18_4 : decode jdk_52_method_16_code 4 = .ok (.aload_n 0, 1) := by decide +kernel
theorem d18_5 : decode jdk_52_method_16_code 5 = .ok (.iload_n 1, 1) := by decide +kernel
theorem d18_6 : decode jdk_52_method_16_code 6 = .ok (.aload_n 3, 1) := by decide +kernel
theorem d18_7 : decode jdk_52_method_16_code 7 = .ok (.iconst 0, 1) := by decide +kernel
theorem d18_8 : decode jdk_52_method_16_code 8 = .ok (.iload_n 2, 1) := by decide +kernel
theorem d18_9 : decode jdk_52_method_16_code 9 = .ok (.invokestatic 115, 3) := by decide +kernel
theorem pd_19 : parseMethodDescriptor "([CI[BII)I" = some ⟨[(.array .char), .int, (.array .byte), .int, .int], some .int⟩ := by decide +kernel
theorem d18_12 : decode jdk_52_method_16_code 12 = .ok (.istore 4, 2) := by decide +kernel
theorem d18_14 : decode jdk_52_method_16_code 14 = .ok (.iload 4, 2) := by decide +kernel
theorem d18_16 : decode jdk_52_method_16_code 16 = .ok (.iload_n 2, 1) := by decide +kernel
theorem d18_17 : decode jdk_52_method_16_code 17 = .ok (.if_icmp .eq 40, 3) := by decide +kernel
theorem d18_20 : decode jdk_52_method_16_code 20 = .ok (.aload_n 0, 1) := by decide +kernel
theorem d18_21 : decode jdk_52_method_16_code 21 = .ok (.iload_n 1, 1) := by decide +kernel
theorem d18_22 : decode jdk_52_method_16_code 22 = .ok (.iload_n 2, 1) := by decide +kernel
theorem d18_23 : decode jdk_52_method_16_code 23 = .ok (.invokestatic 119, 3) := by decide +kernel
theorem pd_20 : parseMethodDescriptor "([CII)[B" = some ⟨[(.array .char), .int, .int], some (.array .byte)⟩ := by decide +kernel
theorem d18_26 : decode jdk_52_method_16_code 26 = .ok (.astore 5, 2) := by decide +kernel
theorem d18_28 : decode jdk_52_method_16_code 28 = .ok (.aload 5, 2) := by decide +kernel
theorem d18_30 : decode jdk_52_method_16_code 30 = .ok (.iload 4, 2) := by decide +kernel
theorem d18_32 : decode jdk_52_method_16_code 32 = .ok (.invokestatic 71, 3) := by decide +kernel
theorem d18_35 : decode jdk_52_method_16_code 35 = .ok (.sipush 255, 3) := by decide +kernel
theorem d18_38 : decode jdk_52_method_16_code 38 = .ok (.if_icmp .gt 16, 3) := by decide +kernel
theorem d18_54 : decode jdk_52_method_16_code 54 = .ok (.aload 5, 2) := by decide +kernel
theorem d18_56 : decode jdk_52_method_16_code 56 = .ok (.areturn, 1) := by decide +kernel
set_option maxRecDepth 65536 in
set_option maxHeartbeats 40000000 in
theorem rm18 (l : Launch) (Z : State) (a0 : Array Value) (hw : ∀ d ∈ tables_1, d.before a0 Z = true) (ws : List Jvm.Cond) (v1 : Addr) (kv : ClassId) (dvc : Value) (cs : List Int32) (h0 : Heap) (n0 : Nat) (O0 : Old Z n0 h0) (AV : Arv Z h0 v1 kv .char (Int32.ofNat cs.length) (cs.map Value.int) dvc) (hs : cs.length ≤ 6) (hq : ∀ c ∈ cs, C16 c) (hx1 : ¬ ∀ m < cs.length, ¬ (255 : Int32) < cs.getD m 0) (SA : Sta Z Z.heap "java/lang/StringUTF16" "$assertionsDisabled" "Z" (.int (1 : Int32))) (SH : Sta Z Z.heap "java/lang/StringUTF16" "HI_BYTE_SHIFT" "I" (.int (0 : Int32))) (SL : Sta Z Z.heap "java/lang/StringUTF16" "LO_BYTE_SHIFT" "I" (.int (8 : Int32))) :
    MetFree l (⟨"java/lang/StringUTF16", "compress", "([CII)[B"⟩ : MethodName) (head1 (Jvm.Cond.code (⟨"java/lang/StringUTF16", "compress", "([CII)[B"⟩ : MethodName) jdk_52_method_16_code 6 (some (.array .byte)) :: ws) ({ frames := 3, cells := 2, slots := 18, locals := 40 } : Room)) (fun a U => a = #[(.ref v1), (.int (0 : Int32)), (.int (Int32.ofNat cs.length))] ∧ Z.Warmed39 U.vm ∧ U.heap = h0) (fun _ _ _ _ _ => True) (fun _ U o U' => ∃ v L, o = .returned v ∧ Q_rm18 Z v1 kv dvc cs h0 n0 v U'.heap L ∧ FrameEnd U o U' L ({ frames := 3, cells := 2, slots := 18, locals := 40 } : Room).cells ({ frames := 3, cells := 2, slots := 18, locals := 40 } : Room).slots) := by
  refine MetFree.of_bodySF (plainFor_of_name pn_0) hisR ?_
  intro p e s m args below meth c s₁ Bd hml0 hP hK
  obtain ⟨rfl, hZ, hh⟩ := hP
  have hx := Bd.exec
  have hby := Bd.bytes
  have hml : c.maxLocals = 6 := hml0
  have hown : s.vm.findClass "java/lang/StringUTF16" = some m.cls := findClass_of_methodNamed Bd.named
  have hnm := (name_of_methodNamed Bd.named Bd.method).1
  have X0 : Stand p l e ({ frames := 3, cells := 2, slots := 18, locals := 40 } : Room) s m #[(.ref v1), (.int (0 : Int32)), (.int (Int32.ofNat cs.length))] below meth c s₁ [] 0 0 := Stand.of_body Bd
  have e0 : s₁.heap = h0 := by rw [← hh, Bd.state]; rfl
  have N0 := Fr.nil n0
  have Z0 : n0 ≤ h0.size := old_le O0
  have pre0 : ∀ t, Steps p.tables e below (s₁.setTop (mkF m 0 #[.val (.ref v1), .val (.int (0 : Int32)), .val (.int (Int32.ofNat cs.length)), .unset, .unset, .unset] [])) t → Steps p.tables e below (s₁.setTop (entryFrame m #[(.ref v1), (.int (0 : Int32)), (.int (Int32.ofNat cs.length))] 6)) t := fun t k => castTop (ef_rm18 m v1 (0 : Int32) (Int32.ofNat cs.length)) k
  obtain ⟨T101, h101, k101, X101, e101, E101, A101, st101⟩ := newP X0 hx hZ (hwk hw 21 rfl) e0 (g := (mkF m 1 #[.val (.ref v1), .val (.int (0 : Int32)), .val (.int (Int32.ofNat cs.length)), .unset, .unset, .unset] [(.int (Int32.ofNat cs.length))])) rfl (hb hby d18_1) rfl (own_ge0 (by omega)) (cap := 6) (by rw [own_nat (by omega)]; omega) (by decide) (by decide) (by decide)
  obtain ⟨b101, g101⟩ : ∃ z, z = h0.size := ⟨_, rfl⟩
  rw [← g101] at A101 st101
  have g_b101 : n0 ≤ b101 := Nat.le_trans (old_le O0) (Nat.le_of_eq g101.symm)
  have V101 : Arv Z h101 b101 k101 .byte (Int32.ofNat cs.length) (List.replicate (Int32.ofNat cs.length).toNatClampNeg (.int (0 : Int32))) (.int (0 : Int32)) := (Arv.new A101 (own_ge0 (by omega))).pad (pad_rep [] (.int (0 : Int32)) (Int32.ofNat cs.length).toNatClampNeg)
  have c102 : Arv Z h101 v1 kv .char (Int32.ofNat cs.length) (cs.map Value.int) dvc := (AV.ext E101)
  have O103 : Old Z n0 h101 := Old.ext O0 E101
  obtain ⟨_, _, ⟨T104, L104, k104, n104⟩, -, X104, ⟨Lc104, hQ104, l104, y104, z104⟩, st104⟩ := Jvm.LawKit.callS X101 hx (y := (⟨"java/lang/StringUTF16", "compress", "([CI[BII)I"⟩ : MethodName)) hown (mvT hZ (hwk hw 86 rfl)) (mvT hZ (hwk hw 87 rfl)) (mvT hZ (hwk hw 84 rfl)) (mvT hZ (hwk hw 88 rfl)) (by decide) (backOf (W := 0) (rm19 l Z a0 hw [] v1 kv dvc cs b101 k101 (List.replicate (Int32.ofNat cs.length).toNatClampNeg (.int (0 : Int32))) h101 n0 O103 c102 hs hx1 g_b101 (Nat.ne_of_lt (Nat.lt_of_lt_of_le (AV).lt (Nat.le_of_eq g101.symm))) V101 (by rw [List.length_replicate, own_nat (by omega)])) hZ (hwk hw 88 rfl) (hwk hw 84 rfl) (by decide) (by decide)) (g := (mkF m 9 #[.val (.ref v1), .val (.int (0 : Int32)), .val (.int (Int32.ofNat cs.length)), .val (.ref b101), .unset, .unset] [(.int (Int32.ofNat cs.length)), (.int (0 : Int32)), (.ref b101), (.int (0 : Int32)), (.ref v1)])) rfl (by rw [hml]; rfl) (argsL := [(.ref v1), (.int (0 : Int32)), (.ref b101), (.int (0 : Int32)), (.int (Int32.ofNat cs.length))]) (rest := []) (lenOf pd_19 rfl) rfl (by show 2 * 0 + _ ≤ _; exact Nat.le_of_eq rfl) (hb hby d18_9) (fun _ _ => ⟨rfl, e101, (by decide : 1 + 0 ≤ _), (by decide : 6 + 0 ≤ _)⟩)
  dsimp only [Pt.U, Pt.locs, Pt.cells, Pt.slots] at X104 l104 y104 z104 st104 hQ104
  subst l104 y104 z104
  unfold Q_rm19 at hQ104
  obtain ⟨kx_104, rfl, N104q, K104, f104_0, f104_1⟩ := hQ104
  have N104 := Fr.app N0 N104q
  have c105 : Arv Z T104.heap v1 kv .char (Int32.ofNat cs.length) (cs.map Value.int) dvc := (Arv.keep c102 K104 (ninS (Nat.ne_of_lt (Nat.lt_of_lt_of_le (AV).lt (Nat.le_of_eq g101.symm))) nin0))
  have O106 : Old Z n0 T104.heap := Old.keep O103 K104 (allS g_b101 all0)
  obtain ⟨_, _, ⟨T107, L107, k107, n107⟩, -, X107, ⟨Lc107, hQ107, l107, y107, z107⟩, st107⟩ := Jvm.LawKit.callS X104 hx (y := (⟨"java/lang/StringUTF16", "toBytes", "([CII)[B"⟩ : MethodName)) hown (mvT hZ (hwk hw 114 rfl)) (mvT hZ (hwk hw 115 rfl)) (mvT hZ (hwk hw 84 rfl)) (mvT hZ (hwk hw 116 rfl)) (by decide) (backOf (W := 0) (rm27 l Z a0 hw [] v1 kv dvc cs T104.heap n0 O106 c105 hs SA SH SL) hZ (hwk hw 116 rfl) (hwk hw 84 rfl) (by decide) (by decide)) (g := (mkF m 23 #[.val (.ref v1), .val (.int (0 : Int32)), .val (.int (Int32.ofNat cs.length)), .val (.ref b101), .val (.int (Int32.ofNat kx_104)), .unset] [(.int (Int32.ofNat cs.length)), (.int (0 : Int32)), (.ref v1)])) rfl (by rw [hml]; rfl) (argsL := [(.ref v1), (.int (0 : Int32)), (.int (Int32.ofNat cs.length))]) (rest := []) (lenOf pd_20 rfl) rfl (by show 2 * 0 + _ ≤ _; exact Nat.le_of_eq rfl) (hb hby d18_23) (fun _ _ => ⟨rfl, (rfl : T104.heap = T104.heap), (by decide : 1 + 1 ≤ _), (by decide : 6 + 12 ≤ _)⟩)
  dsimp only [Pt.U, Pt.locs, Pt.cells, Pt.slots] at X107 l107 y107 z107 st107 hQ107
  subst l107 y107 z107
  unfold Q_rm27 at hQ107
  obtain ⟨o_107, ko_107, rfl, N107q, K107, ge_o_107, f107_0⟩ := hQ107
  have N107 := Fr.app N104 N107q
  have g_o_107 : n0 ≤ o_107 := Nat.le_trans (old_le O106) ge_o_107
  have O108 : Old Z n0 T107.heap := Old.keep O106 K107 all0
  obtain ⟨_, _, ⟨T109, L109, k109, n109⟩, -, X109, ⟨Lc109, hQ109, l109, y109, z109⟩, st109⟩ := Jvm.LawKit.callS X107 hx (y := (⟨"java/lang/StringUTF16", "getChar", "([BI)C"⟩ : MethodName)) hown (mvT hZ (hwk hw 130 rfl)) (mvT hZ (hwk hw 131 rfl)) (mvT hZ (hwk hw 84 rfl)) (mvT hZ (hwk hw 132 rfl)) (by decide) (backOf (W := 0) (rm31 l Z a0 hw [] kx_104 o_107 ko_107 cs T107.heap n0 O108 f107_0 hs hq f104_0 SA SH SL) hZ (hwk hw 132 rfl) (hwk hw 84 rfl) (by decide) (by decide)) (g := (mkF m 32 #[.val (.ref v1), .val (.int (0 : Int32)), .val (.int (Int32.ofNat cs.length)), .val (.ref b101), .val (.int (Int32.ofNat kx_104)), .val (.ref o_107)] [(.int (Int32.ofNat kx_104)), (.ref o_107)])) rfl (by rw [hml]; rfl) (argsL := [(.ref o_107), (.int (Int32.ofNat kx_104))]) (rest := []) (lenOf pd_4 rfl) rfl (by show 2 * 0 + _ ≤ _; exact Nat.le_of_eq rfl) (hb hby d18_32) (fun _ _ => ⟨rfl, (rfl : T107.heap = T107.heap), (by decide : 2 + 0 ≤ _), (by decide : 18 + 0 ≤ _)⟩)
  dsimp only [Pt.U, Pt.locs, Pt.cells, Pt.slots] at X109 l109 y109 z109 st109 hQ109
  subst l109 y109 z109
  unfold Q_rm31 at hQ109
  obtain ⟨rfl, N109q, e109⟩ := hQ109
  have N109 := Fr.app N107 N109q
  have K110 : Keep h0 h101 [] := Keep.ext (Keep.refl h0 []) E101
  have K111 : Keep h0 T104.heap [] := Keep.trans K110 K104 (allS (Or.inr (Nat.le_trans (Nat.le_refl _) (Nat.le_of_eq g101.symm))) all0)
  have K112 : Keep h0 T107.heap [] := Keep.trans K111 K107 all0
  obtain ⟨fs, hr, hrun, hended, hW, hsame⟩ := X109.leave (v := some (.ref o_107)) (fun h => by rw [Bd.returns] at h; cases h)
  refine ⟨_, _, pre0 _ ?_, hrun, hended, _, _, rfl, ?_, ⟨_, rfl⟩, hW, hsame.mono (by decide) (by decide)⟩
  · show Steps p.tables e below (s₁.setTop (mkF m 0 #[.val (.ref v1), .val (.int (0 : Int32)), .val (.int (Int32.ofNat cs.length)), .unset, .unset, .unset] [])) _
    refine XS.iloadN X0.here hx rfl (hb hby d18_0) rfl ?_
    show Steps p.tables e below (s₁.setTop (mkF m 1 #[.val (.ref v1), .val (.int (0 : Int32)), .val (.int (Int32.ofNat cs.length)), .unset, .unset, .unset] [(.int (Int32.ofNat cs.length))])) _
    refine st101 _ ?_
    show Steps p.tables e below (T101.setTop (mkF m 3 #[.val (.ref v1), .val (.int (0 : Int32)), .val (.int (Int32.ofNat cs.length)), .unset, .unset, .unset] [(.ref b101)])) _
    refine XS.astoreN X101.here hx rfl (hb hby d18_3) rfl rfl (l' := #[.val (.ref v1), .val (.int (0 : Int32)), .val (.int (Int32.ofNat cs.length)), .val (.ref b101), .unset, .unset]) rfl ?_
    show Steps p.tables e below (T101.setTop (mkF m 4 #[.val (.ref v1), .val (.int (0 : Int32)), .val (.int (Int32.ofNat cs.length)), .val (.ref b101), .unset, .unset] [])) _
    refine XS.aloadN X101.here hx rfl (hb hby d18_4) rfl rfl ?_
    refine XS.iloadN X101.here hx rfl (hb hby d18_5) rfl ?_
    refine XS.aloadN X101.here hx rfl (hb hby d18_6) rfl rfl ?_
    refine XS.iconst X101.here hx rfl (hb hby d18_7) ?_
    show Steps p.tables e below (T101.setTop (mkF m 8 #[.val (.ref v1), .val (.int (0 : Int32)), .val (.int (Int32.ofNat cs.length)), .val (.ref b101), .unset, .unset] [(.int (0 : Int32)), (.ref b101), (.int (0 : Int32)), (.ref v1)])) _
    refine XS.iloadN X101.here hx rfl (hb hby d18_8) rfl ?_
    show Steps p.tables e below (T101.setTop (mkF m 9 #[.val (.ref v1), .val (.int (0 : Int32)), .val (.int (Int32.ofNat cs.length)), .val (.ref b101), .unset, .unset] [(.int (Int32.ofNat cs.length)), (.int (0 : Int32)), (.ref b101), (.int (0 : Int32)), (.ref v1)])) _
    refine st104 _ ?_
    show Steps p.tables e below (T104.setTop (mkF m 12 #[.val (.ref v1), .val (.int (0 : Int32)), .val (.int (Int32.ofNat cs.length)), .val (.ref b101), .unset, .unset] [(.int (Int32.ofNat kx_104))])) _
    refine XS.istore X104.here hx rfl (hb hby d18_12) rfl (l' := #[.val (.ref v1), .val (.int (0 : Int32)), .val (.int (Int32.ofNat cs.length)), .val (.ref b101), .val (.int (Int32.ofNat kx_104)), .unset]) rfl ?_
    show Steps p.tables e below (T104.setTop (mkF m 14 #[.val (.ref v1), .val (.int (0 : Int32)), .val (.int (Int32.ofNat cs.length)), .val (.ref b101), .val (.int (Int32.ofNat kx_104)), .unset] [])) _
    refine XS.iload X104.here hx rfl (hb hby d18_14) rfl ?_
    refine XS.iloadN X104.here hx rfl (hb hby d18_16) rfl ?_
    refine XS.icmpNo X104.here hx rfl (hb hby d18_17) rfl (feq ((own_neq f104_0 hs) : ¬ ((Int32.ofNat kx_104) = (Int32.ofNat cs.length)))).1 ?_
    show Steps p.tables e below (T104.setTop (mkF m 20 #[.val (.ref v1), .val (.int (0 : Int32)), .val (.int (Int32.ofNat cs.length)), .val (.ref b101), .val (.int (Int32.ofNat kx_104)), .unset] [])) _
    refine XS.aloadN X104.here hx rfl (hb hby d18_20) rfl rfl ?_
    refine XS.iloadN X104.here hx rfl (hb hby d18_21) rfl ?_
    refine XS.iloadN X104.here hx rfl (hb hby d18_22) rfl ?_
    show Steps p.tables e below (T104.setTop (mkF m 23 #[.val (.ref v1), .val (.int (0 : Int32)), .val (.int (Int32.ofNat cs.length)), .val (.ref b101), .val (.int (Int32.ofNat kx_104)), .unset] [(.int (Int32.ofNat cs.length)), (.int (0 : Int32)), (.ref v1)])) _
    refine st107 _ ?_
    show Steps p.tables e below (T107.setTop (mkF m 26 #[.val (.ref v1), .val (.int (0 : Int32)), .val (.int (Int32.ofNat cs.length)), .val (.ref b101), .val (.int (Int32.ofNat kx_104)), .unset] [(.ref o_107)])) _
    refine XS.astore X107.here hx rfl (hb hby d18_26) rfl rfl (l' := #[.val (.ref v1), .val (.int (0 : Int32)), .val (.int (Int32.ofNat cs.length)), .val (.ref b101), .val (.int (Int32.ofNat kx_104)), .val (.ref o_107)]) rfl ?_
    show Steps p.tables e below (T107.setTop (mkF m 28 #[.val (.ref v1), .val (.int (0 : Int32)), .val (.int (Int32.ofNat cs.length)), .val (.ref b101), .val (.int (Int32.ofNat kx_104)), .val (.ref o_107)] [])) _
    refine XS.aload X107.here hx rfl (hb hby d18_28) rfl rfl ?_
    refine XS.iload X107.here hx rfl (hb hby d18_30) rfl ?_
    show Steps p.tables e below (T107.setTop (mkF m 32 #[.val (.ref v1), .val (.int (0 : Int32)), .val (.int (Int32.ofNat cs.length)), .val (.ref b101), .val (.int (Int32.ofNat kx_104)), .val (.ref o_107)] [(.int (Int32.ofNat kx_104)), (.ref o_107)])) _
    refine st109 _ ?_
    show Steps p.tables e below (T109.setTop (mkF m 35 #[.val (.ref v1), .val (.int (0 : Int32)), .val (.int (Int32.ofNat cs.length)), .val (.ref b101), .val (.int (Int32.ofNat kx_104)), .val (.ref o_107)] [(.int (cs.getD kx_104 0))])) _
    refine XS.sipush X109.here hx rfl (hb hby d18_35) ?_
    refine XS.icmpYes X109.here hx rfl (pc0 := 38) (pc' := 54) rfl (hb hby d18_38) rfl (tlt (f104_1 : (255 : Int32) < (cs.getD kx_104 0))).2.2.1 (by decide) (by decide) ?_
    show Steps p.tables e below (T109.setTop (mkF m 54 #[.val (.ref v1), .val (.int (0 : Int32)), .val (.int (Int32.ofNat cs.length)), .val (.ref b101), .val (.int (Int32.ofNat kx_104)), .val (.ref o_107)] [])) _
    refine XS.aload X109.here hx rfl (hb hby d18_54) rfl rfl ?_
    show Steps p.tables e below (T109.setTop (mkF m 56 #[.val (.ref v1), .val (.int (0 : Int32)), .val (.int (Int32.ofNat cs.length)), .val (.ref b101), .val (.int (Int32.ofNat kx_104)), .val (.ref o_107)] [(.ref o_107)])) _
    exact Jvm.RoadKit.retOut X109 hx Bd.returns rfl (Or.inr (Or.inr (Or.inr (Or.inr ⟨rfl, rfl, rfl⟩)))) (hb hby d18_56) hr
  · show Q_rm18 Z v1 kv dvc cs h0 n0 _ T109.heap _
    rw [e109]
    unfold Q_rm18
    exact ⟨o_107, ko_107, rfl, N109, K112, (Nat.le_trans (Nat.le_trans (Nat.le_trans (Nat.le_refl _) E101.1) K104.1) ge_o_107), f107_0⟩
theorem ef_w3 (m : MethodId) (x0 : Addr) (x1 : Addr) (x2 : Int32) (x3 : Int32) : entryFrame m #[(.ref x0), (.ref x1), (.int x2), (.int x3), .null] 6 = mkF m 0 #[.val (.ref x0), .val (.ref x1), .val (.int x2), .val (.int x3), .val .null, .unset] [] := by first | (simp [entryFrame, mkF, argsToLocals, Value.category]; done) | rfl
def Q_w3 (Z : State) (a1 : Addr) (v1 : Addr) (kv : ClassId) (dvc : Value) (cs : List Int32) (zc : Int32) (h0 : Heap) (n0 : Nat) (v : Option Value) (h : Heap) (L : List Loc) : Prop := ∃ o : Addr, ∃ ko : ClassId, (v = none) ∧ (Fr n0 L) ∧ (Keep h0 h [a1]) ∧ (Exa Z h a1 "java/lang/String") ∧ (Fld Z h a1 "java/lang/String" "coder" "B" (.int (1 : Int32))) ∧ (Fld Z h a1 "java/lang/String" "value" "[B" (.ref o)) ∧ (Arv Z h o ko .byte (Int32.ofNat (2 * cs.length)) (wideBytes cs) (.int (0 : Int32)))
theorem d3_0 : decode jdk_42_method_149_code 0 = .ok (.aload_n 0, 1) := by decide +kernel
theorem d3_1 : decode jdk_42_method_149_code 1 = .ok (.invokespecial 1, 3) := by decide +kernel
theorem d3_4 : decode jdk_42_method_149_code 4 = .ok (.iload_n 3, 1) := by decide +kernel
theorem d3_5 : decode jdk_42_method_149_code 5 = .ok (.ifCond .ne 22, 3) := by decide +kernel
theorem d3_27 : decode jdk_42_method_149_code 27 = .ok (.getstatic 38, 3) := by decide +kernel
theorem d3_30 : decode jdk_42_method_149_code 30 = .ok (.ifCond .eq 28, 3) := by decide +kernel
theorem d3_33 : decode jdk_42_method_149_code 33 = .ok (.aload_n 1, 1) := by decide +kernel
theorem d3_34 : decode jdk_42_method_149_code 34 = .ok (.iload_n 2, 1) := by decide +kernel
theorem d3_35 : decode jdk_42_method_149_code 35 = .ok (.iload_n 3, 1) := by decide +kernel
theorem d3_36 : decode jdk_42_method_149_code 36 = .ok (.invokestatic 177, 3) := by decide +kernel
theorem d3_39 : decode jdk_42_method_149_code 39 = .ok (.astore 5, 2) := by decide +kernel
theorem d3_41 : decode jdk_42_method_149_code 41 = .ok (.aload_n 0, 1) := by decide +kernel
theorem d3_42 : decode jdk_42_method_149_code 42 = .ok (.aload 5, 2) := by decide +kernel
theorem d3_44 : decode jdk_42_method_149_code 44 = .ok (.iload_n 3, 1) := by decide +kernel
theorem d3_45 : decode jdk_42_method_149_code 45 = .ok (.invokestatic 47, 3) := by decide +kernel
theorem pd_21 : parseMethodDescriptor "([BI)B" = some ⟨[(.array .byte), .int], some .byte⟩ := by decide +kernel
theorem d3_48 : decode jdk_42_method_149_code 48 = .ok (.putfield 15, 3) := by decide +kernel
theorem d3_51 : decode jdk_42_method_149_code 51 = .ok (.aload_n 0, 1) := by decide +kernel
theorem d3_52 : decode jdk_42_method_149_code 52 = .ok (.aload 5, 2) := by decide +kernel
theorem d3_54 : decode jdk_42_method_149_code 54 = .ok (.putfield 9, 3) := by decide +kernel
theorem d3_57 : decode jdk_42_method_149_code 57 = .ok (.return_, 1) := by decide +kernel
set_option maxRecDepth 65536 in
set_option maxHeartbeats 40000000 in
theorem w3 (l : Launch) (Z : State) (a0 : Array Value) (hw : ∀ d ∈ tables_1, d.before a0 Z = true) (ws : List Jvm.Cond) (a1 : Addr) (v1 : Addr) (kv : ClassId) (dvc : Value) (cs : List Int32) (zc : Int32) (h0 : Heap) (n0 : Nat) (O0 : Old Z n0 h0) (E1 : Exa Z h0 a1 "java/lang/String") (ga : n0 ≤ a1) (F1 : Fld Z h0 a1 "java/lang/String" "value" "[B" .null) (F2 : Fld Z h0 a1 "java/lang/String" "coder" "B" (.int (0 : Int32))) (nv : v1 ≠ a1) (AV : Arv Z h0 v1 kv .char (Int32.ofNat cs.length) (cs.map Value.int) dvc) (hs : cs.length ≤ 6) (hq : ∀ c ∈ cs, C16 c) (hx1 : ¬ ∀ m < cs.length, ¬ (255 : Int32) < cs.getD m 0) (h0l : 0 < cs.length) (SZ : Sta Z Z.heap "java/lang/String" "COMPACT_STRINGS" "Z" (.int zc)) (PZ : ¬ (zc = (0 : Int32))) (SA : Sta Z Z.heap "java/lang/StringUTF16" "$assertionsDisabled" "Z" (.int (1 : Int32))) (SH : Sta Z Z.heap "java/lang/StringUTF16" "HI_BYTE_SHIFT" "I" (.int (0 : Int32))) (SL : Sta Z Z.heap "java/lang/StringUTF16" "LO_BYTE_SHIFT" "I" (.int (8 : Int32))) :
    MetFree l (⟨"java/lang/String", "<init>", "([CIILjava/lang/Void;)V"⟩ : MethodName) (head1 (Jvm.Cond.code (⟨"java/lang/String", "<init>", "([CIILjava/lang/Void;)V"⟩ : MethodName) jdk_42_method_149_code 6 none :: ws) ({ frames := 4, cells := 2, slots := 18, locals := 57 } : Room)) (fun a U => a = #[(.ref a1), (.ref v1), (.int (0 : Int32)), (.int (Int32.ofNat cs.length)), .null] ∧ Z.Warmed39 U.vm ∧ U.heap = h0) (fun _ _ _ _ _ => True) (fun _ U o U' => ∃ v L, o = .returned v ∧ Q_w3 Z a1 v1 kv dvc cs zc h0 n0 v U'.heap L ∧ FrameEnd U o U' L ({ frames := 4, cells := 2, slots := 18, locals := 57 } : Room).cells ({ frames := 4, cells := 2, slots := 18, locals := 57 } : Room).slots) := by
  refine MetFree.of_bodySF (plainFor_of_name pn_2) hisR ?_
  intro p e s m args below meth c s₁ Bd hml0 hP hK
  obtain ⟨rfl, hZ, hh⟩ := hP
  have hx := Bd.exec
  have hby := Bd.bytes
  have hml : c.maxLocals = 6 := hml0
  have hown : s.vm.findClass "java/lang/String" = some m.cls := findClass_of_methodNamed Bd.named
  have hnm := (name_of_methodNamed Bd.named Bd.method).1
  have X0 : Stand p l e ({ frames := 4, cells := 2, slots := 18, locals := 57 } : Room) s m #[(.ref a1), (.ref v1), (.int (0 : Int32)), (.int (Int32.ofNat cs.length)), .null] below meth c s₁ [] 0 0 := Stand.of_body Bd
  have e0 : s₁.heap = h0 := by rw [← hh, Bd.state]; rfl
  have N0 := Fr.nil n0
  have Z0 : n0 ≤ h0.size := old_le O0
  have pre0 : ∀ t, Steps p.tables e below (s₁.setTop (mkF m 0 #[.val (.ref a1), .val (.ref v1), .val (.int (0 : Int32)), .val (.int (Int32.ofNat cs.length)), .val .null, .unset] [])) t → Steps p.tables e below (s₁.setTop (entryFrame m #[(.ref a1), (.ref v1), (.int (0 : Int32)), (.int (Int32.ofNat cs.length)), .null] 6)) t := fun t k => castTop (ef_w3 m a1 v1 (0 : Int32) (Int32.ofNat cs.length)) k
  obtain ⟨T101, X101, e101, st101⟩ := initO X0 hx hZ hown (hwk hw 17 rfl) (hwk hw 18 rfl) (hwk hw 19 rfl) e0 (g := (mkF m 1 #[.val (.ref a1), .val (.ref v1), .val (.int (0 : Int32)), .val (.int (Int32.ofNat cs.length)), .val .null, .unset] [(.ref a1)])) rfl (by rw [hml]; rfl) rfl (hb hby d3_1) (by decide) (W := 0) (by show 2 * 0 + _ ≤ _; exact Nat.le_of_eq rfl) (by decide)
  have c102 : Sta Z h0 "java/lang/String" "COMPACT_STRINGS" "Z" (.int zc) := Sta.ext (O0).2 SZ
  obtain ⟨T103, X103, e103, st103⟩ := getS2 X101 hx hZ hown (host := "") (Or.inl (hwk hw 53 rfl)) Via.refl e101 c102 (g := (mkF m 27 #[.val (.ref a1), .val (.ref v1), .val (.int (0 : Int32)), .val (.int (Int32.ofNat cs.length)), .val .null, .unset] [])) rfl (hb hby d3_27)
  obtain ⟨_, _, ⟨T104, L104, k104, n104⟩, -, X104, ⟨Lc104, hQ104, l104, y104, z104⟩, st104⟩ := Jvm.LawKit.callS X103 hx (y := (⟨"java/lang/StringUTF16", "compress", "([CII)[B"⟩ : MethodName)) hown (mvT hZ (hwk hw 82 rfl)) (mvT hZ (hwk hw 83 rfl)) (mvT hZ (hwk hw 84 rfl)) (mvT hZ (hwk hw 85 rfl)) (by decide) (backOf (W := 0) (rm18 l Z a0 hw [] v1 kv dvc cs h0 n0 O0 AV hs hq hx1 SA SH SL) hZ (hwk hw 85 rfl) (hwk hw 84 rfl) (by decide) (by decide)) (g := (mkF m 36 #[.val (.ref a1), .val (.ref v1), .val (.int (0 : Int32)), .val (.int (Int32.ofNat cs.length)), .val .null, .unset] [(.int (Int32.ofNat cs.length)), (.int (0 : Int32)), (.ref v1)])) rfl (by rw [hml]; rfl) (argsL := [(.ref v1), (.int (0 : Int32)), (.int (Int32.ofNat cs.length))]) (rest := []) (lenOf pd_20 rfl) rfl (by show 2 * 0 + _ ≤ _; exact Nat.le_of_eq rfl) (hb hby d3_36) (fun _ _ => ⟨rfl, e103, (by decide : 0 + 2 ≤ _), (by decide : 0 + 18 ≤ _)⟩)
  dsimp only [Pt.U, Pt.locs, Pt.cells, Pt.slots] at X104 l104 y104 z104 st104 hQ104
  subst l104 y104 z104
  unfold Q_rm18 at hQ104
  obtain ⟨o_104, ko_104, rfl, N104q, K104, ge_o_104, f104_0⟩ := hQ104
  have N104 := Fr.app N0 N104q
  have g_o_104 : n0 ≤ o_104 := Nat.le_trans (old_le O0) ge_o_104
  have O105 : Old Z n0 T104.heap := Old.keep O0 K104 all0
  obtain ⟨_, _, ⟨T106, L106, k106, n106⟩, -, X106, ⟨Lc106, hQ106, l106, y106, z106⟩, st106⟩ := Jvm.LawKit.callS X104 hx (y := (⟨"java/lang/StringUTF16", "coderFromArrayLen", "([BI)B"⟩ : MethodName)) hown (mvT hZ (hwk hw 89 rfl)) (mvT hZ (hwk hw 90 rfl)) (mvT hZ (hwk hw 84 rfl)) (mvT hZ (hwk hw 91 rfl)) (by decide) (backOf (W := 1) (rm20 l Z a0 hw [] o_104 ko_104 cs T104.heap n0 O105 f104_0 hs h0l) hZ (hwk hw 91 rfl) (hwk hw 84 rfl) (by decide) (by decide)) (g := (mkF m 45 #[.val (.ref a1), .val (.ref v1), .val (.int (0 : Int32)), .val (.int (Int32.ofNat cs.length)), .val .null, .val (.ref o_104)] [(.int (Int32.ofNat cs.length)), (.ref o_104), (.ref a1)])) rfl (by rw [hml]; rfl) (argsL := [(.ref o_104), (.int (Int32.ofNat cs.length))]) (rest := [(.ref a1)]) (lenOf pd_21 rfl) rfl (by show 2 * 0 + _ ≤ _; exact Nat.le_of_eq rfl) (hb hby d3_45) (fun _ _ => ⟨rfl, (rfl : T104.heap = T104.heap), (by decide : 2 + 0 ≤ _), (by decide : 18 + 0 ≤ _)⟩)
  dsimp only [Pt.U, Pt.locs, Pt.cells, Pt.slots] at X106 l106 y106 z106 st106 hQ106
  subst l106 y106 z106
  unfold Q_rm20 at hQ106
  obtain ⟨rfl, N106q, e106⟩ := hQ106
  have N106 := Fr.app N104 N106q
  have c107 : Exa Z T104.heap a1 "java/lang/String" := (Exa.keep E1 K104)
  have c108 : Fld Z T104.heap a1 "java/lang/String" "coder" "B" (.int (0 : Int32)) := (Fld.keep F2 K104 nin0)
  obtain ⟨T109, h109, X109, e109, W109, st109⟩ := putF X106 hx hZ hown (host := "") (Or.inl (hwk hw 27 rfl)) Via.refl e106 c108 c107 (Or.inr ⟨(hwk hw 23 rfl), rfl, hnm⟩) (hwk hw 7 rfl) (ty := .byte) (by decide) rfl rfl (g := (mkF m 48 #[.val (.ref a1), .val (.ref v1), .val (.int (0 : Int32)), .val (.int (Int32.ofNat cs.length)), .val .null, .val (.ref o_104)] [(.int (1 : Int32)), (.ref a1)])) rfl rfl (hb hby d3_48)
  have F109 : Fld Z h109 a1 "java/lang/String" "coder" "B" (.int (1 : Int32)) := Fld.same W109 c108
  have N109 := Fr.snoc X109 N106 ga
  have c110 : Exa Z h109 a1 "java/lang/String" := (Exa.wr W109 c107)
  have c111 : Fld Z h109 a1 "java/lang/String" "value" "[B" .null := (Fld.other W109 (Fld.keep F1 K104 nin0) (Or.inr (slot_ne (Or.inr (hwk hw 22 rfl)) (Or.inr (hwk hw 23 rfl)) (by decide) (t := (.array .byte)) (t' := .byte) (by decide) (by decide))))
  obtain ⟨T112, h112, X112, e112, W112, st112⟩ := putF X109 hx hZ hown (host := "") (Or.inl (hwk hw 26 rfl)) Via.refl e109 c111 c110 (Or.inr ⟨(hwk hw 22 rfl), rfl, hnm⟩) (hwk hw 7 rfl) (ty := (.array .byte)) (by decide) rfl rfl (g := (mkF m 54 #[.val (.ref a1), .val (.ref v1), .val (.int (0 : Int32)), .val (.int (Int32.ofNat cs.length)), .val .null, .val (.ref o_104)] [(.ref o_104), (.ref a1)])) rfl rfl (hb hby d3_54)
  have F112 : Fld Z h112 a1 "java/lang/String" "value" "[B" (.ref o_104) := Fld.same W112 c111
  have N112 := Fr.snoc X112 N109 ga
  have K113 : Keep h0 T104.heap [a1] := Keep.trans (Keep.refl h0 [a1]) K104 all0
  have K114 : Keep h0 h109 [a1] := Keep.wr K113 W109 (Or.inl (List.mem_of_getElem? (i := 0) rfl))
  have K115 : Keep h0 h112 [a1] := Keep.wr K114 W112 (Or.inl (List.mem_of_getElem? (i := 0) rfl))
  have c116 : Exa Z h112 a1 "java/lang/String" := (Exa.wr W112 c110)
  have c117 : Fld Z h112 a1 "java/lang/String" "coder" "B" (.int (1 : Int32)) := (Fld.other W112 F109 (Or.inr (slot_ne (Or.inr (hwk hw 23 rfl)) (Or.inr (hwk hw 22 rfl)) (by decide) (t := .byte) (t' := (.array .byte)) (by decide) (by decide))))
  have c118 : Arv Z h112 o_104 ko_104 .byte (Int32.ofNat (2 * cs.length)) (wideBytes cs) (.int (0 : Int32)) := (Arv.other (Arv.other f104_0 W109 (Ne.symm (Exa.neArv c107 f104_0 (hwk hw 7 rfl)))) W112 (Ne.symm (Exa.neArv c107 f104_0 (hwk hw 7 rfl))))
  obtain ⟨fs, hr, hrun, hended, hW, hsame⟩ := X112.leave (v := none) (fun _ => rfl)
  refine ⟨_, _, pre0 _ ?_, hrun, hended, _, _, rfl, ?_, ⟨_, rfl⟩, hW, hsame.mono (by decide) (by decide)⟩
  · show Steps p.tables e below (s₁.setTop (mkF m 0 #[.val (.ref a1), .val (.ref v1), .val (.int (0 : Int32)), .val (.int (Int32.ofNat cs.length)), .val .null, .unset] [])) _
    refine XS.aloadN X0.here hx rfl (hb hby d3_0) rfl rfl ?_
    show Steps p.tables e below (s₁.setTop (mkF m 1 #[.val (.ref a1), .val (.ref v1), .val (.int (0 : Int32)), .val (.int (Int32.ofNat cs.length)), .val .null, .unset] [(.ref a1)])) _
    refine st101 _ ?_
    show Steps p.tables e below (T101.setTop (mkF m 4 #[.val (.ref a1), .val (.ref v1), .val (.int (0 : Int32)), .val (.int (Int32.ofNat cs.length)), .val .null, .unset] [])) _
    refine XS.iloadN X101.here hx rfl (hb hby d3_4) rfl ?_
    refine XS.ifYes X101.here hx rfl (pc0 := 5) (pc' := 27) rfl (hb hby d3_5) rfl ((if0 _ _).trans (feq ((own_ne0 h0l hs) : ¬ ((Int32.ofNat cs.length) = (0 : Int32)))).2) (by decide) (by decide) ?_
    show Steps p.tables e below (T101.setTop (mkF m 27 #[.val (.ref a1), .val (.ref v1), .val (.int (0 : Int32)), .val (.int (Int32.ofNat cs.length)), .val .null, .unset] [])) _
    refine st103 _ ?_
    show Steps p.tables e below (T103.setTop (mkF m 30 #[.val (.ref a1), .val (.ref v1), .val (.int (0 : Int32)), .val (.int (Int32.ofNat cs.length)), .val .null, .unset] [(.int zc)])) _
    refine XS.ifNo X103.here hx rfl (hb hby d3_30) rfl ((if0 _ _).trans (feq (PZ : ¬ (zc = (0 : Int32)))).1) ?_
    show Steps p.tables e below (T103.setTop (mkF m 33 #[.val (.ref a1), .val (.ref v1), .val (.int (0 : Int32)), .val (.int (Int32.ofNat cs.length)), .val .null, .unset] [])) _
    refine XS.aloadN X103.here hx rfl (hb hby d3_33) rfl rfl ?_
    refine XS.iloadN X103.here hx rfl (hb hby d3_34) rfl ?_
    refine XS.iloadN X103.here hx rfl (hb hby d3_35) rfl ?_
    show Steps p.tables e below (T103.setTop (mkF m 36 #[.val (.ref a1), .val (.ref v1), .val (.int (0 : Int32)), .val (.int (Int32.ofNat cs.length)), .val .null, .unset] [(.int (Int32.ofNat cs.length)), (.int (0 : Int32)), (.ref v1)])) _
    refine st104 _ ?_
    show Steps p.tables e below (T104.setTop (mkF m 39 #[.val (.ref a1), .val (.ref v1), .val (.int (0 : Int32)), .val (.int (Int32.ofNat cs.length)), .val .null, .unset] [(.ref o_104)])) _
    refine XS.astore X104.here hx rfl (hb hby d3_39) rfl rfl (l' := #[.val (.ref a1), .val (.ref v1), .val (.int (0 : Int32)), .val (.int (Int32.ofNat cs.length)), .val .null, .val (.ref o_104)]) rfl ?_
    show Steps p.tables e below (T104.setTop (mkF m 41 #[.val (.ref a1), .val (.ref v1), .val (.int (0 : Int32)), .val (.int (Int32.ofNat cs.length)), .val .null, .val (.ref o_104)] [])) _
    refine XS.aloadN X104.here hx rfl (hb hby d3_41) rfl rfl ?_
    refine XS.aload X104.here hx rfl (hb hby d3_42) rfl rfl ?_
    refine XS.iloadN X104.here hx rfl (hb hby d3_44) rfl ?_
    show Steps p.tables e below (T104.setTop (mkF m 45 #[.val (.ref a1), .val (.ref v1), .val (.int (0 : Int32)), .val (.int (Int32.ofNat cs.length)), .val .null, .val (.ref o_104)] [(.int (Int32.ofNat cs.length)), (.ref o_104), (.ref a1)])) _
    refine st106 _ ?_
    show Steps p.tables e below (T106.setTop (mkF m 48 #[.val (.ref a1), .val (.ref v1), .val (.int (0 : Int32)), .val (.int (Int32.ofNat cs.length)), .val .null, .val (.ref o_104)] [(.int (1 : Int32)), (.ref a1)])) _
    refine st109 _ ?_
    show Steps p.tables e below (T109.setTop (mkF m 51 #[.val (.ref a1), .val (.ref v1), .val (.int (0 : Int32)), .val (.int (Int32.ofNat cs.length)), .val .null, .val (.ref o_104)] [])) _
    refine XS.aloadN X109.here hx rfl (hb hby d3_51) rfl rfl ?_
    refine XS.aload X109.here hx rfl (hb hby d3_52) rfl rfl ?_
    show Steps p.tables e below (T109.setTop (mkF m 54 #[.val (.ref a1), .val (.ref v1), .val (.int (0 : Int32)), .val (.int (Int32.ofNat cs.length)), .val .null, .val (.ref o_104)] [(.ref o_104), (.ref a1)])) _
    refine st112 _ ?_
    show Steps p.tables e below (T112.setTop (mkF m 57 #[.val (.ref a1), .val (.ref v1), .val (.int (0 : Int32)), .val (.int (Int32.ofNat cs.length)), .val .null, .val (.ref o_104)] [])) _
    exact X112.returnOut hx Bd.returns (hb hby d3_57) hr
  · show Q_w3 Z a1 v1 kv dvc cs zc h0 n0 _ T112.heap _
    rw [e112]
    unfold Q_w3
    exact ⟨o_104, ko_104, rfl, N112, K115, c116, c117, F112, c118⟩
theorem ef_w2 (m : MethodId) (x0 : Addr) (x1 : Addr) : entryFrame m #[(.ref x0), (.ref x1)] 2 = mkF m 0 #[.val (.ref x0), .val (.ref x1)] [] := by first | (simp [entryFrame, mkF, argsToLocals, Value.category]; done) | rfl
def Q_w2 (Z : State) (a1 : Addr) (v1 : Addr) (kv : ClassId) (dvc : Value) (cs : List Int32) (zc : Int32) (h0 : Heap) (n0 : Nat) (v : Option Value) (h : Heap) (L : List Loc) : Prop := ∃ o : Addr, ∃ ko : ClassId, (v = none) ∧ (Fr n0 L) ∧ (Keep h0 h [a1]) ∧ (Exa Z h a1 "java/lang/String") ∧ (Fld Z h a1 "java/lang/String" "coder" "B" (.int (1 : Int32))) ∧ (Fld Z h a1 "java/lang/String" "value" "[B" (.ref o)) ∧ (Arv Z h o ko .byte (Int32.ofNat (2 * cs.length)) (wideBytes cs) (.int (0 : Int32)))
theorem d2_0 : decode jdk_42_method_3_code 0 = .ok (.aload_n 0, 1) := by decide +kernel
theorem d2_1 : decode jdk_42_method_3_code 1 = .ok (.aload_n 1, 1) := by decide +kernel
theorem d2_2 : decode jdk_42_method_3_code 2 = .ok (.iconst 0, 1) := by decide +kernel
theorem d2_3 : decode jdk_42_method_3_code 3 = .ok (.aload_n 1, 1) := by decide +kernel
theorem d2_4 : decode jdk_42_method_3_code 4 = .ok (.arraylength, 1) := by decide +kernel
theorem d2_5 : decode jdk_42_method_3_code 5 = .ok (.aconst_null, 1) := by decide +kernel
theorem d2_6 : decode jdk_42_method_3_code 6 = .ok (.invokespecial 27, 3) := by decide +kernel
theorem pd_22 : parseMethodDescriptor "([CIILjava/lang/Void;)V" = some ⟨[(.array .char), .int, .int, (.object "java/lang/Void")], none⟩ := by decide +kernel
theorem d2_9 : decode jdk_42_method_3_code 9 = .ok (.return_, 1) := by decide +kernel
set_option maxRecDepth 65536 in
set_option maxHeartbeats 40000000 in
theorem w2 (l : Launch) (Z : State) (a0 : Array Value) (hw : ∀ d ∈ tables_1, d.before a0 Z = true) (ws : List Jvm.Cond) (a1 : Addr) (v1 : Addr) (kv : ClassId) (dvc : Value) (cs : List Int32) (zc : Int32) (h0 : Heap) (n0 : Nat) (O0 : Old Z n0 h0) (E1 : Exa Z h0 a1 "java/lang/String") (ga : n0 ≤ a1) (F1 : Fld Z h0 a1 "java/lang/String" "value" "[B" .null) (F2 : Fld Z h0 a1 "java/lang/String" "coder" "B" (.int (0 : Int32))) (nv : v1 ≠ a1) (AV : Arv Z h0 v1 kv .char (Int32.ofNat cs.length) (cs.map Value.int) dvc) (hs : cs.length ≤ 6) (hq : ∀ c ∈ cs, C16 c) (hx1 : ¬ ∀ m < cs.length, ¬ (255 : Int32) < cs.getD m 0) (h0l : 0 < cs.length) (SZ : Sta Z Z.heap "java/lang/String" "COMPACT_STRINGS" "Z" (.int zc)) (PZ : ¬ (zc = (0 : Int32))) (SA : Sta Z Z.heap "java/lang/StringUTF16" "$assertionsDisabled" "Z" (.int (1 : Int32))) (SH : Sta Z Z.heap "java/lang/StringUTF16" "HI_BYTE_SHIFT" "I" (.int (0 : Int32))) (SL : Sta Z Z.heap "java/lang/StringUTF16" "LO_BYTE_SHIFT" "I" (.int (8 : Int32))) :
    MetFree l (⟨"java/lang/String", "<init>", "([C)V"⟩ : MethodName) (head1 (Jvm.Cond.code (⟨"java/lang/String", "<init>", "([C)V"⟩ : MethodName) jdk_42_method_3_code 2 none :: ws) ({ frames := 5, cells := 2, slots := 18, locals := 74 } : Room)) (fun a U => a = #[(.ref a1), (.ref v1)] ∧ Z.Warmed39 U.vm ∧ U.heap = h0) (fun _ _ _ _ _ => True) (fun _ U o U' => ∃ v L, o = .returned v ∧ Q_w2 Z a1 v1 kv dvc cs zc h0 n0 v U'.heap L ∧ FrameEnd U o U' L ({ frames := 5, cells := 2, slots := 18, locals := 74 } : Room).cells ({ frames := 5, cells := 2, slots := 18, locals := 74 } : Room).slots) := by
  refine MetFree.of_bodySF (plainFor_of_name pn_2) hisR ?_
  intro p e s m args below meth c s₁ Bd hml0 hP hK
  obtain ⟨rfl, hZ, hh⟩ := hP
  have hx := Bd.exec
  have hby := Bd.bytes
  have hml : c.maxLocals = 2 := hml0
  have hown : s.vm.findClass "java/lang/String" = some m.cls := findClass_of_methodNamed Bd.named
  have hnm := (name_of_methodNamed Bd.named Bd.method).1
  have X0 : Stand p l e ({ frames := 5, cells := 2, slots := 18, locals := 74 } : Room) s m #[(.ref a1), (.ref v1)] below meth c s₁ [] 0 0 := Stand.of_body Bd
  have e0 : s₁.heap = h0 := by rw [← hh, Bd.state]; rfl
  have N0 := Fr.nil n0
  have Z0 : n0 ≤ h0.size := old_le O0
  have pre0 : ∀ t, Steps p.tables e below (s₁.setTop (mkF m 0 #[.val (.ref a1), .val (.ref v1)] [])) t → Steps p.tables e below (s₁.setTop (entryFrame m #[(.ref a1), (.ref v1)] 2)) t := fun t k => castTop (ef_w2 m a1 v1) k
  obtain ⟨cl101, Ar101, -, Sz101, Nn101, -, -⟩ := id AV
  obtain ⟨_, _, ⟨T102, L102, k102, n102⟩, -, X102, ⟨Lc102, hQ102, l102, y102, z102⟩, st102⟩ := X0.specialBack hx (y := (⟨"java/lang/String", "<init>", "([CIILjava/lang/Void;)V"⟩ : MethodName)) rfl hown (mvT hZ (hwk hw 13 rfl)) (mvT hZ (hwk hw 14 rfl)) (mvT hZ (hwk hw 16 rfl)) (by decide) (backOf (W := 0) (w3 l Z a0 hw [] a1 v1 kv dvc cs zc h0 n0 O0 E1 ga F1 F2 nv AV hs hq hx1 h0l SZ PZ SA SH SL) hZ (hwk hw 16 rfl) (hwk hw 8 rfl) (by decide) (by decide)) (g := (mkF m 6 #[.val (.ref a1), .val (.ref v1)] [.null, (.int (Int32.ofNat cs.length)), (.int (0 : Int32)), (.ref v1), (.ref a1)])) rfl (by rw [hml]; rfl) (Steps.refl _) (a := a1) (argsL := [(.ref v1), (.int (0 : Int32)), (.int (Int32.ofNat cs.length)), .null]) (rest := []) (lenOf pd_22 rfl) rfl (by show 2 * 0 + _ ≤ _; exact Nat.le_of_eq rfl) (hb hby d2_6) (fun _ _ => ⟨rfl, e0, (by decide : 0 + 2 ≤ _), (by decide : 0 + 18 ≤ _)⟩)
  dsimp only [Pt.U, Pt.locs, Pt.cells, Pt.slots] at X102 l102 y102 z102 st102 hQ102
  subst l102 y102 z102
  unfold Q_w3 at hQ102
  obtain ⟨o_102, ko_102, rfl, N102q, K102, f102_0, f102_1, f102_2, f102_3⟩ := hQ102
  have N102 := Fr.app N0 N102q
  have K103 : Keep h0 T102.heap [a1] := Keep.trans (Keep.refl h0 [a1]) K102 (allS (Or.inl (List.mem_of_getElem? (i := 0) rfl)) all0)
  obtain ⟨fs, hr, hrun, hended, hW, hsame⟩ := X102.leave (v := none) (fun _ => rfl)
  refine ⟨_, _, pre0 _ ?_, hrun, hended, _, _, rfl, ?_, ⟨_, rfl⟩, hW, hsame.mono (by decide) (by decide)⟩
  · show Steps p.tables e below (s₁.setTop (mkF m 0 #[.val (.ref a1), .val (.ref v1)] [])) _
    refine XS.aloadN X0.here hx rfl (hb hby d2_0) rfl rfl ?_
    refine XS.aloadN X0.here hx rfl (hb hby d2_1) rfl rfl ?_
    refine XS.iconst X0.here hx rfl (hb hby d2_2) ?_
    refine XS.aloadN X0.here hx rfl (hb hby d2_3) rfl rfl ?_
    show Steps p.tables e below (s₁.setTop (mkF m 4 #[.val (.ref a1), .val (.ref v1)] [(.ref v1), (.int (0 : Int32)), (.ref v1), (.ref a1)])) _
    refine X0.arraylength hx (by rw [e0]; exact Ar101.1) (State.isArrayOf_alike hZ.alike Ar101.2.1) (g := (mkF m 4 #[.val (.ref a1), .val (.ref v1)] [(.ref v1), (.int (0 : Int32)), (.ref v1), (.ref a1)])) rfl rfl (hb hby d2_4) _ ?_
    rw [len_of Sz101 Nn101]
    show Steps p.tables e below (s₁.setTop (mkF m 5 #[.val (.ref a1), .val (.ref v1)] [(.int (Int32.ofNat cs.length)), (.int (0 : Int32)), (.ref v1), (.ref a1)])) _
    refine XS.aconstNull X0.here hx rfl (hb hby d2_5) ?_
    show Steps p.tables e below (s₁.setTop (mkF m 6 #[.val (.ref a1), .val (.ref v1)] [.null, (.int (Int32.ofNat cs.length)), (.int (0 : Int32)), (.ref v1), (.ref a1)])) _
    refine st102.trans ?_
    show Steps p.tables e below (T102.setTop (mkF m 9 #[.val (.ref a1), .val (.ref v1)] [])) _
    exact X102.returnOut hx Bd.returns (hb hby d2_9) hr
  · show Q_w2 Z a1 v1 kv dvc cs zc h0 n0 _ T102.heap _
    unfold Q_w2
    exact ⟨o_102, ko_102, rfl, N102, K103, f102_0, f102_1, f102_2, f102_3⟩
def CS (n d0 d1 d2 d3 d4 d5 : Int32) : List Int32 := if n = 0 then [] else if n = 1 then [d0] else if n = 2 then [d0, d1] else if n = 3 then [d0, d1, d2] else if n = 4 then [d0, d1, d2, d3] else if n = 5 then [d0, d1, d2, d3, d4] else [d0, d1, d2, d3, d4, d5]
theorem own_nex {l : List Int32} (h : ¬ ∀ c ∈ l, ¬ (255 : Int32) < c) : ∃ c ∈ l, (255 : Int32) < c := by
  by_cases q : ∃ c ∈ l, (255 : Int32) < c
  · exact q
  · exact absurd (fun c hc r => q ⟨c, hc, r⟩) h
theorem own_nall {l : List Int32} (h : ¬ ∀ c ∈ l, ¬ (255 : Int32) < c) : ¬ ∀ m < l.length, ¬ (255 : Int32) < l.getD m 0 := fun q => h fun c hc => by
  obtain ⟨j, hj, rfl⟩ := List.getElem_of_mem hc
  have := q j hj
  rwa [own_gE hj] at this
theorem own_csl (n d0 d1 d2 d3 d4 d5 : Int32) : (CS n d0 d1 d2 d3 d4 d5).length ≤ 6 := by
  unfold CS
  repeat' split
  all_goals exact Nat.le_of_ble_eq_true rfl
theorem own_csq {n d0 d1 d2 d3 d4 d5 : Int32} (g0 : C16 d0) (g1 : C16 d1) (g2 : C16 d2) (g3 : C16 d3) (g4 : C16 d4) (g5 : C16 d5) : ∀ c ∈ CS n d0 d1 d2 d3 d4 d5, C16 c := by
  unfold CS
  repeat' split
  all_goals intro c hc
  all_goals simp only [List.mem_cons, List.not_mem_nil, or_false, or_self] at hc
  all_goals (try rcases hc with rfl | rfl | rfl | rfl | rfl | rfl)
  all_goals (try rcases hc with rfl | rfl | rfl | rfl | rfl)
  all_goals assumption
theorem own_c16i (x : Int32) : C16 (x.toUInt32.toUInt16.toUInt32.toInt32) := by
  have e : (x.toUInt32.toUInt16.toUInt32.toInt32).toBitVec.toNat < 65536 := by
    have q : x.toUInt32.toUInt16.toUInt32.toInt32.toBitVec.toNat = x.toUInt32.toUInt16.toUInt32.toNat := rfl
    rw [q, UInt16.toNat_toUInt32]
    exact x.toUInt32.toUInt16.toNat_lt
  generalize x.toUInt32.toUInt16.toUInt32.toInt32 = c at e
  have e3 : c.toInt = c.toBitVec.toInt := rfl
  have e0 : (0 : Int32).toInt = 0 := by decide
  have e1 : (65535 : Int32).toInt = 65535 := by decide
  constructor <;> rw [Int32.lt_iff_toInt_lt, e3, BitVec.toInt_eq_toNat_cond] <;> split <;> omega
theorem ef_rm3 (m : MethodId) (x0 : Addr) (x1 : Addr) (x2 : Int32) (x3 : Int32) : entryFrame m #[(.ref x0), (.ref x1), (.int x2), (.int x3), .null] 6 = mkF m 0 #[.val (.ref x0), .val (.ref x1), .val (.int x2), .val (.int x3), .val .null, .unset] [] := by first | (simp [entryFrame, mkF, argsToLocals, Value.category]; done) | rfl
def Q_rm3 (Z : State) (a1 : Addr) (c1 : Addr) (h0 : Heap) (n0 : Nat) (v : Option Value) (h : Heap) (L : List Loc) : Prop := ∃ t : Addr, ∃ kb : ClassId, (v = none) ∧ (Fr n0 L) ∧ (Keep h0 h [a1]) ∧ (Exa Z h a1 "java/lang/String") ∧ (Fld Z h a1 "java/lang/String" "coder" "B" (.int (0 : Int32))) ∧ (Fld Z h a1 "java/lang/String" "value" "[B" (.ref t)) ∧ (Arv Z h t kb .byte (0 : Int32) [] (.int (0 : Int32)))
theorem d3_8 : decode jdk_42_method_149_code 8 = .ok (.aload_n 0, 1) := by decide +kernel
theorem d3_9 : decode jdk_42_method_149_code 9 = .ok (.ldc 7, 2) := by decide +kernel
theorem d3_11 : decode jdk_42_method_149_code 11 = .ok (.getfield 9, 3) := by decide +kernel
theorem d3_14 : decode jdk_42_method_149_code 14 = .ok (.putfield 9, 3) := by decide +kernel
theorem d3_17 : decode jdk_42_method_149_code 17 = .ok (.aload_n 0, 1) := by decide +kernel
theorem d3_18 : decode jdk_42_method_149_code 18 = .ok (.ldc 7, 2) := by decide +kernel
theorem d3_20 : decode jdk_42_method_149_code 20 = .ok (.getfield 15, 3) := by decide +kernel
theorem d3_23 : decode jdk_42_method_149_code 23 = .ok (.putfield 15, 3) := by decide +kernel
theorem d3_26 : decode jdk_42_method_149_code 26 = .ok (.return_, 1) := by decide +kernel
set_option maxRecDepth 65536 in
set_option maxHeartbeats 40000000 in
theorem rm3 (l : Launch) (Z : State) (a0 : Array Value) (hw : ∀ d ∈ tables_1, d.before a0 Z = true) (ws : List Jvm.Cond) (a1 : Addr) (c1 : Addr) (h0 : Heap) (n0 : Nat) (O0 : Old Z n0 h0) (E1 : Exa Z h0 a1 "java/lang/String") (ga : n0 ≤ a1) (F1 : Fld Z h0 a1 "java/lang/String" "value" "[B" .null) (F2 : Fld Z h0 a1 "java/lang/String" "coder" "B" (.int (0 : Int32))) :
    MetFree l (⟨"java/lang/String", "<init>", "([CIILjava/lang/Void;)V"⟩ : MethodName) (head1 (Jvm.Cond.code (⟨"java/lang/String", "<init>", "([CIILjava/lang/Void;)V"⟩ : MethodName) jdk_42_method_149_code 6 none :: ws) ({ frames := 1, cells := 4, slots := 8, locals := 12 } : Room)) (fun a U => a = #[(.ref a1), (.ref c1), (.int (0 : Int32)), (.int (0 : Int32)), .null] ∧ Z.Warmed39 U.vm ∧ U.heap = h0 ∧ CHv Z consts_1 U.vm h0 ∧ ∀ x ∈ ([a1] : List Addr), Safe Z consts_1 U.vm h0 x) (fun _ _ _ _ _ => True) (fun _ U o U' => ∃ v L, o = .returned v ∧ Q_rm3 Z a1 c1 h0 n0 v U'.heap L ∧ CHr Z consts_1 U.vm U.heap U'.vm U'.heap ∧ ReturnedEndW U o U' L ({ frames := 1, cells := 4, slots := 8, locals := 12 } : Room).cells ({ frames := 1, cells := 4, slots := 8, locals := 12 } : Room).slots) := by
  refine MetFree.of_bodySF (plainFor_of_name pn_2) hisR ?_
  intro p e s m args below meth c s₁ Bd hml0 hP hK
  obtain ⟨rfl, hZ, hh, hH0, hSf⟩ := hP
  have hx := Bd.exec
  have hby := Bd.bytes
  have hml : c.maxLocals = 6 := hml0
  have hEL : EW Z a0 consts_1 := own_EW hw
  have CR0 : CHr Z consts_1 s.vm h0 s.vm h0 := CHr.refl hH0
  have hown : s.vm.findClass "java/lang/String" = some m.cls := findClass_of_methodNamed Bd.named
  have hnm := (name_of_methodNamed Bd.named Bd.method).1
  have hS0 : s.Since s.vm h0.size := (State.WarmedH.refl s).since _
  have hstr : ∀ a ∈ Bundle.stringAtoms, a.before a0 Z = true := own_str hw
  have X0 : Stand p l e ({ frames := 1, cells := 4, slots := 8, locals := 12 } : Room) (s.setVm s.vm) m #[(.ref a1), (.ref c1), (.int (0 : Int32)), (.int (0 : Int32)), .null] below meth c s₁ [] 0 0 := Stand.of_body Bd
  have e0 : s₁.heap = h0 := by rw [← hh, Bd.state]; rfl
  have N0 := Fr.nil n0
  have Z0 : n0 ≤ h0.size := old_le O0
  have pre0 : ∀ t, Steps p.tables e below (s₁.setTop (mkF m 0 #[.val (.ref a1), .val (.ref c1), .val (.int (0 : Int32)), .val (.int (0 : Int32)), .val .null, .unset] [])) t → Steps p.tables e below (s₁.setTop (entryFrame m #[(.ref a1), (.ref c1), (.int (0 : Int32)), (.int (0 : Int32)), .null] 6)) t := fun t k => castTop (ef_rm3 m a1 c1 (0 : Int32) (0 : Int32)) k
  obtain ⟨T101, X101, e101, st101⟩ := initO X0 hx hZ hown (hwk hw 17 rfl) (hwk hw 18 rfl) (hwk hw 19 rfl) e0 (g := (mkF m 1 #[.val (.ref a1), .val (.ref c1), .val (.int (0 : Int32)), .val (.int (0 : Int32)), .val .null, .unset] [(.ref a1)])) rfl (by rw [hml]; rfl) rfl (hb hby d3_1) (by decide) (W := 0) (by show 2 * 0 + _ ≤ _; exact Nat.le_of_eq rfl) (by decide)
  obtain ⟨a102, T102, h102, k102, b102, kc102, X102, e102, E102, hS102, hk102, hZ102, hown102, Ex102, Fc102, Fv102, Av102, la102, lb102, CX102, Lt102, Sn102, st102⟩ := ldcCH X101 hx hZ hown (hwk hw 20 rfl) hstr e101 hS0 (Nat.le_refl _) hEL (by decide) CR0.1 (vs := []) (z := (0 : Int32)) ⟨by decide, by decide⟩ (by decide) rfl (g := (mkF m 9 #[.val (.ref a1), .val (.ref c1), .val (.int (0 : Int32)), .val (.int (0 : Int32)), .val .null, .unset] [(.ref a1)])) rfl (hb hby d3_9) (n := 0) (by decide) (by decide) (by decide) (by decide)
  obtain ⟨T103, X103, e103, st103⟩ := getF X102 hx hZ102 hown102 (host := "") (Or.inl (hwk hw 26 rfl)) Via.refl e102 Fv102 (g := (mkF m 11 #[.val (.ref a1), .val (.ref c1), .val (.int (0 : Int32)), .val (.int (0 : Int32)), .val .null, .unset] [(.ref a102), (.ref a1)])) rfl rfl (hb hby d3_11)
  have c104 : Exa Z h102 a1 "java/lang/String" := (Exa.ext E102 E1)
  have c105 : Fld Z h102 a1 "java/lang/String" "value" "[B" .null := (Fld.ext E102 F1)
  obtain ⟨T106, h106, X106, e106, W106, st106⟩ := putF X103 hx hZ102 hown102 (host := "") (Or.inl (hwk hw 26 rfl)) Via.refl e103 c105 c104 (Or.inr ⟨(hwk hw 22 rfl), rfl, hnm⟩) (hwk hw 7 rfl) (ty := (.array .byte)) (by decide) rfl rfl (g := (mkF m 14 #[.val (.ref a1), .val (.ref c1), .val (.int (0 : Int32)), .val (.int (0 : Int32)), .val .null, .unset] [(.ref b102), (.ref a1)])) rfl rfl (hb hby d3_14)
  have F106 : Fld Z h106 a1 "java/lang/String" "value" "[B" (.ref b102) := Fld.same W106 c105
  have N106 := Fr.snoc X106 N0 ga
  have CR107 : CHr Z consts_1 s.vm h0 T102.vm h102 := CHr.trans CR0 CX102
  have Sf108 : Safe Z consts_1 T102.vm h102 a1 := (CHr.safe CX102 (E1).lt (hSf _ (List.mem_of_getElem? (i := 0) rfl)))
  have CR109 : CHr Z consts_1 s.vm h0 T102.vm h106 := CHr.trans CR107 (CHr.wr W106 Sf108 CR107.1)
  obtain ⟨a110, T110, h110, k110, b110, kc110, X110, e110, E110, hS110, hk110, hZ110, hown110, Ex110, Fc110, Fv110, Av110, la110, lb110, CX110, Lt110, Sn110, st110⟩ := ldcCH X106 hx hZ102 hown102 (hwk hw 20 rfl) hstr e106 hS102 (Nat.le_trans hk102 (Nat.le_trans (Nat.le_refl _) (Nat.le_of_eq W106.size.symm))) hEL (by decide) CR109.1 (vs := []) (z := (0 : Int32)) ⟨by decide, by decide⟩ (by decide) rfl (g := (mkF m 18 #[.val (.ref a1), .val (.ref c1), .val (.int (0 : Int32)), .val (.int (0 : Int32)), .val .null, .unset] [(.ref a1)])) rfl (hb hby d3_18) (n := 0) (by decide) (by decide) (by decide) (by decide)
  obtain ⟨T111, X111, e111, st111⟩ := getF X110 hx hZ110 hown110 (host := "") (Or.inl (hwk hw 27 rfl)) Via.refl e110 Fc110 (g := (mkF m 20 #[.val (.ref a1), .val (.ref c1), .val (.int (0 : Int32)), .val (.int (0 : Int32)), .val .null, .unset] [(.ref a110), (.ref a1)])) rfl rfl (hb hby d3_20)
  have c112 : Exa Z h110 a1 "java/lang/String" := (Exa.ext E110 (Exa.wr W106 c104))
  have c113 : Fld Z h110 a1 "java/lang/String" "coder" "B" (.int (0 : Int32)) := (Fld.ext E110 (Fld.other W106 (Fld.ext E102 F2) (Or.inr (slot_ne (Or.inr (hwk hw 23 rfl)) (Or.inr (hwk hw 22 rfl)) (by decide) (t := .byte) (t' := (.array .byte)) (by decide) (by decide)))))
  obtain ⟨T114, h114, X114, e114, W114, st114⟩ := putF X111 hx hZ110 hown110 (host := "") (Or.inl (hwk hw 27 rfl)) Via.refl e111 c113 c112 (Or.inr ⟨(hwk hw 23 rfl), rfl, hnm⟩) (hwk hw 7 rfl) (ty := .byte) (by decide) rfl rfl (g := (mkF m 23 #[.val (.ref a1), .val (.ref c1), .val (.int (0 : Int32)), .val (.int (0 : Int32)), .val .null, .unset] [(.int (0 : Int32)), (.ref a1)])) rfl rfl (hb hby d3_23)
  have F114 : Fld Z h114 a1 "java/lang/String" "coder" "B" (.int (0 : Int32)) := Fld.same W114 c113
  have N114 := Fr.snoc X114 N106 ga
  have K115 : Keep h0 h102 [a1] := Keep.ext (Keep.refl h0 [a1]) E102
  have K116 : Keep h0 h106 [a1] := Keep.wr K115 W106 (Or.inl (List.mem_of_getElem? (i := 0) rfl))
  have K117 : Keep h0 h110 [a1] := Keep.ext K116 E110
  have K118 : Keep h0 h114 [a1] := Keep.wr K117 W114 (Or.inl (List.mem_of_getElem? (i := 0) rfl))
  have c119 : Exa Z h114 a1 "java/lang/String" := (Exa.wr W114 c112)
  have c120 : Fld Z h114 a1 "java/lang/String" "value" "[B" (.ref b102) := (Fld.other W114 (Fld.ext E110 F106) (Or.inr (slot_ne (Or.inr (hwk hw 22 rfl)) (Or.inr (hwk hw 23 rfl)) (by decide) (t := (.array .byte)) (t' := .byte) (by decide) (by decide))))
  have c121 : Arv Z h114 b102 kc102 .byte (0 : Int32) [] (.int 0) := (Arv.other ((Arv.other Av102 W106 (Ne.symm ((Sn102 a1 Sf108).2))).ext E110) W114 (Ne.symm ((Sn102 a1 Sf108).2)))
  have CR122 : CHr Z consts_1 s.vm h0 T110.vm h110 := CHr.trans CR109 CX110
  have Sf123 : Safe Z consts_1 T110.vm h110 a1 := (CHr.safe CX110 (F106).lt (Safe.wr W106 Sf108 CR107.1 Sf108))
  have CR124 : CHr Z consts_1 s.vm h0 T110.vm h114 := CHr.trans CR122 (CHr.wr W114 Sf123 CR122.1)
  obtain ⟨fs, hr, hrun, hended, hRE⟩ := X114.leaveW hS110 (show _ ≤ T114.heap.size from by rw [e114]; exact (Nat.le_trans hk110 (Nat.le_trans (Nat.le_refl _) (Nat.le_of_eq W114.size.symm)))) (v := none) (fun _ => rfl)
  have CRl : CHr Z consts_1 s.vm s.heap (T114.setFrames fs).vm (T114.setFrames fs).heap := by
    have q := CHr.trans CR124 (CHv.at X114 hZ110 hEL CR124.1)
    rw [← hh, ← e114] at q
    exact q
  refine ⟨_, _, pre0 _ ?_, hrun, hended, _, _, rfl, ?_, CRl, hRE.1, hRE.2.1, hRE.2.2.1, hRE.2.2.2.mono (by decide) (by decide)⟩
  · show Steps p.tables e below (s₁.setTop (mkF m 0 #[.val (.ref a1), .val (.ref c1), .val (.int (0 : Int32)), .val (.int (0 : Int32)), .val .null, .unset] [])) _
    refine XS.aloadN X0.here hx rfl (hb hby d3_0) rfl rfl ?_
    show Steps p.tables e below (s₁.setTop (mkF m 1 #[.val (.ref a1), .val (.ref c1), .val (.int (0 : Int32)), .val (.int (0 : Int32)), .val .null, .unset] [(.ref a1)])) _
    refine st101 _ ?_
    show Steps p.tables e below (T101.setTop (mkF m 4 #[.val (.ref a1), .val (.ref c1), .val (.int (0 : Int32)), .val (.int (0 : Int32)), .val .null, .unset] [])) _
    refine XS.iloadN X101.here hx rfl (hb hby d3_4) rfl ?_
    refine XS.ifNo X101.here hx rfl (hb hby d3_5) rfl ((if0 _ _).trans (teq (by decide : (0 : Int32) = (0 : Int32))).2) ?_
    show Steps p.tables e below (T101.setTop (mkF m 8 #[.val (.ref a1), .val (.ref c1), .val (.int (0 : Int32)), .val (.int (0 : Int32)), .val .null, .unset] [])) _
    refine XS.aloadN X101.here hx rfl (hb hby d3_8) rfl rfl ?_
    show Steps p.tables e below (T101.setTop (mkF m 9 #[.val (.ref a1), .val (.ref c1), .val (.int (0 : Int32)), .val (.int (0 : Int32)), .val .null, .unset] [(.ref a1)])) _
    refine st102 _ ?_
    show Steps p.tables e below (T102.setTop (mkF m 11 #[.val (.ref a1), .val (.ref c1), .val (.int (0 : Int32)), .val (.int (0 : Int32)), .val .null, .unset] [(.ref a102), (.ref a1)])) _
    refine st103 _ ?_
    show Steps p.tables e below (T103.setTop (mkF m 14 #[.val (.ref a1), .val (.ref c1), .val (.int (0 : Int32)), .val (.int (0 : Int32)), .val .null, .unset] [(.ref b102), (.ref a1)])) _
    refine st106 _ ?_
    show Steps p.tables e below (T106.setTop (mkF m 17 #[.val (.ref a1), .val (.ref c1), .val (.int (0 : Int32)), .val (.int (0 : Int32)), .val .null, .unset] [])) _
    refine XS.aloadN X106.here hx rfl (hb hby d3_17) rfl rfl ?_
    show Steps p.tables e below (T106.setTop (mkF m 18 #[.val (.ref a1), .val (.ref c1), .val (.int (0 : Int32)), .val (.int (0 : Int32)), .val .null, .unset] [(.ref a1)])) _
    refine st110 _ ?_
    show Steps p.tables e below (T110.setTop (mkF m 20 #[.val (.ref a1), .val (.ref c1), .val (.int (0 : Int32)), .val (.int (0 : Int32)), .val .null, .unset] [(.ref a110), (.ref a1)])) _
    refine st111 _ ?_
    show Steps p.tables e below (T111.setTop (mkF m 23 #[.val (.ref a1), .val (.ref c1), .val (.int (0 : Int32)), .val (.int (0 : Int32)), .val .null, .unset] [(.int (0 : Int32)), (.ref a1)])) _
    refine st114 _ ?_
    show Steps p.tables e below (T114.setTop (mkF m 26 #[.val (.ref a1), .val (.ref c1), .val (.int (0 : Int32)), .val (.int (0 : Int32)), .val .null, .unset] [])) _
    exact X114.returnOut hx Bd.returns (hb hby d3_26) hr
  · show Q_rm3 Z a1 c1 h0 n0 _ T114.heap _
    rw [e114]
    unfold Q_rm3
    exact ⟨b102, kc102, rfl, N114, K118, c119, F114, c120, c121⟩
theorem ef_rm2 (m : MethodId) (x0 : Addr) (x1 : Addr) : entryFrame m #[(.ref x0), (.ref x1)] 2 = mkF m 0 #[.val (.ref x0), .val (.ref x1)] [] := by first | (simp [entryFrame, mkF, argsToLocals, Value.category]; done) | rfl
def Q_rm2 (Z : State) (a1 : Addr) (c1 : Addr) (kc : ClassId) (dv : Value) (h0 : Heap) (n0 : Nat) (v : Option Value) (h : Heap) (L : List Loc) : Prop := ∃ t : Addr, ∃ kb : ClassId, (v = none) ∧ (Fr n0 L) ∧ (Keep h0 h [a1]) ∧ (Exa Z h a1 "java/lang/String") ∧ (Fld Z h a1 "java/lang/String" "coder" "B" (.int (0 : Int32))) ∧ (Fld Z h a1 "java/lang/String" "value" "[B" (.ref t)) ∧ (Arv Z h t kb .byte (0 : Int32) [] (.int (0 : Int32)))
set_option maxRecDepth 65536 in
set_option maxHeartbeats 40000000 in
theorem rm2 (l : Launch) (Z : State) (a0 : Array Value) (hw : ∀ d ∈ tables_1, d.before a0 Z = true) (ws : List Jvm.Cond) (a1 : Addr) (c1 : Addr) (kc : ClassId) (dv : Value) (h0 : Heap) (n0 : Nat) (O0 : Old Z n0 h0) (E1 : Exa Z h0 a1 "java/lang/String") (ga : n0 ≤ a1) (F1 : Fld Z h0 a1 "java/lang/String" "value" "[B" .null) (F2 : Fld Z h0 a1 "java/lang/String" "coder" "B" (.int (0 : Int32))) (A1 : Arv Z h0 c1 kc .char (0 : Int32) [] dv) :
    MetFree l (⟨"java/lang/String", "<init>", "([C)V"⟩ : MethodName) (head1 (Jvm.Cond.code (⟨"java/lang/String", "<init>", "([C)V"⟩ : MethodName) jdk_42_method_3_code 2 none :: ws) ({ frames := 2, cells := 4, slots := 8, locals := 29 } : Room)) (fun a U => a = #[(.ref a1), (.ref c1)] ∧ Z.Warmed39 U.vm ∧ U.heap = h0 ∧ CHv Z consts_1 U.vm h0 ∧ ∀ x ∈ ([a1] : List Addr), Safe Z consts_1 U.vm h0 x) (fun _ _ _ _ _ => True) (fun _ U o U' => ∃ v L, o = .returned v ∧ Q_rm2 Z a1 c1 kc dv h0 n0 v U'.heap L ∧ CHr Z consts_1 U.vm U.heap U'.vm U'.heap ∧ ReturnedEndW U o U' L ({ frames := 2, cells := 4, slots := 8, locals := 29 } : Room).cells ({ frames := 2, cells := 4, slots := 8, locals := 29 } : Room).slots) := by
  refine MetFree.of_bodySF (plainFor_of_name pn_2) hisR ?_
  intro p e s m args below meth c s₁ Bd hml0 hP hK
  obtain ⟨rfl, hZ, hh, hH0, hSf⟩ := hP
  have hx := Bd.exec
  have hby := Bd.bytes
  have hml : c.maxLocals = 2 := hml0
  have hEL : EW Z a0 consts_1 := own_EW hw
  have CR0 : CHr Z consts_1 s.vm h0 s.vm h0 := CHr.refl hH0
  have hown : s.vm.findClass "java/lang/String" = some m.cls := findClass_of_methodNamed Bd.named
  have hnm := (name_of_methodNamed Bd.named Bd.method).1
  have hS0 : s.Since s.vm h0.size := (State.WarmedH.refl s).since _
  have hstr : ∀ a ∈ Bundle.stringAtoms, a.before a0 Z = true := own_str hw
  have X0 : Stand p l e ({ frames := 2, cells := 4, slots := 8, locals := 29 } : Room) (s.setVm s.vm) m #[(.ref a1), (.ref c1)] below meth c s₁ [] 0 0 := Stand.of_body Bd
  have e0 : s₁.heap = h0 := by rw [← hh, Bd.state]; rfl
  have N0 := Fr.nil n0
  have Z0 : n0 ≤ h0.size := old_le O0
  have pre0 : ∀ t, Steps p.tables e below (s₁.setTop (mkF m 0 #[.val (.ref a1), .val (.ref c1)] [])) t → Steps p.tables e below (s₁.setTop (entryFrame m #[(.ref a1), (.ref c1)] 2)) t := fun t k => castTop (ef_rm2 m a1 c1) k
  obtain ⟨cl101, Ar101, -, Sz101, Nn101, -, -⟩ := id A1
  obtain ⟨_, _, ⟨T102, L102, k102, n102⟩, -, X102, hs102', hg102', ⟨Lc102, hQ102, l102, y102, z102, CX102⟩, st102⟩ := X0.specialBackS hx (y := (⟨"java/lang/String", "<init>", "([CIILjava/lang/Void;)V"⟩ : MethodName)) rfl hown (mvT hZ (hwk hw 13 rfl)) (mvT hZ (hwk hw 14 rfl)) (mvT hZ (hwk hw 16 rfl)) (by decide) (own_backSH (W := 0) (rm3 l Z a0 hw [] a1 c1 h0 n0 O0 E1 ga F1 F2) hZ (hwk hw 16 rfl) (hwk hw 8 rfl) (by decide) (by decide) hEL CR0.1 (own_sf ⟨(E1).lt, (hSf _ (List.mem_of_getElem? (i := 0) rfl))⟩ (fun _ q => nomatch q))) (g := (mkF m 6 #[.val (.ref a1), .val (.ref c1)] [.null, (.int (0 : Int32)), (.int (0 : Int32)), (.ref c1), (.ref a1)])) rfl (by rw [hml]; rfl) (Steps.refl _) (a := a1) (argsL := [(.ref c1), (.int (0 : Int32)), (.int (0 : Int32)), .null]) (rest := []) (lenOf pd_22 rfl) rfl (by show 2 * 0 + _ ≤ _; exact Nat.le_of_eq rfl) (hb hby d2_6) (fun _ _ => ⟨rfl, e0, (by decide : 0 + 4 ≤ _), (by decide : 0 + 8 ≤ _)⟩)
  dsimp only [Pt.U, Pt.locs, Pt.cells, Pt.slots] at X102 l102 y102 z102 st102 hQ102 hs102' hg102' CX102
  subst l102 y102 z102
  obtain ⟨X102b, hS102, hZ102, hown102⟩ := rebS hS0 (show _ ≤ s₁.heap.size from by rw [e0]; exact (Nat.le_refl _)) X102 hs102' hg102' hZ hown
  unfold Q_rm3 at hQ102
  obtain ⟨t_102, kb_102, rfl, N102q, K102, f102_0, f102_1, f102_2, f102_3⟩ := hQ102
  have N102 := Fr.app N0 N102q
  have K103 : Keep h0 T102.heap [a1] := Keep.trans (Keep.refl h0 [a1]) K102 (allS (Or.inl (List.mem_of_getElem? (i := 0) rfl)) all0)
  have CR104 : CHr Z consts_1 s.vm h0 T102.vm T102.heap := CHr.trans CR0 CX102
  obtain ⟨fs, hr, hrun, hended, hRE⟩ := X102b.leaveW hS102 (show _ ≤ T102.heap.size from by rw [(rfl : T102.heap = T102.heap)]; exact (Nat.le_refl _)) (v := none) (fun _ => rfl)
  have CRl : CHr Z consts_1 s.vm s.heap (T102.setFrames fs).vm (T102.setFrames fs).heap := by
    have q := CHr.trans CR104 (CHv.at X102b hZ102 hEL CR104.1)
    rw [← hh, ← (rfl : T102.heap = T102.heap)] at q
    exact q
  refine ⟨_, _, pre0 _ ?_, hrun, hended, _, _, rfl, ?_, CRl, hRE.1, hRE.2.1, hRE.2.2.1, hRE.2.2.2.mono (by decide) (by decide)⟩
  · show Steps p.tables e below (s₁.setTop (mkF m 0 #[.val (.ref a1), .val (.ref c1)] [])) _
    refine XS.aloadN X0.here hx rfl (hb hby d2_0) rfl rfl ?_
    refine XS.aloadN X0.here hx rfl (hb hby d2_1) rfl rfl ?_
    refine XS.iconst X0.here hx rfl (hb hby d2_2) ?_
    refine XS.aloadN X0.here hx rfl (hb hby d2_3) rfl rfl ?_
    show Steps p.tables e below (s₁.setTop (mkF m 4 #[.val (.ref a1), .val (.ref c1)] [(.ref c1), (.int (0 : Int32)), (.ref c1), (.ref a1)])) _
    refine X0.arraylength hx (by rw [e0]; exact Ar101.1) (State.isArrayOf_alike hZ.alike Ar101.2.1) (g := (mkF m 4 #[.val (.ref a1), .val (.ref c1)] [(.ref c1), (.int (0 : Int32)), (.ref c1), (.ref a1)])) rfl rfl (hb hby d2_4) _ ?_
    rw [len_of Sz101 Nn101]
    show Steps p.tables e below (s₁.setTop (mkF m 5 #[.val (.ref a1), .val (.ref c1)] [(.int (0 : Int32)), (.int (0 : Int32)), (.ref c1), (.ref a1)])) _
    refine XS.aconstNull X0.here hx rfl (hb hby d2_5) ?_
    show Steps p.tables e below (s₁.setTop (mkF m 6 #[.val (.ref a1), .val (.ref c1)] [.null, (.int (0 : Int32)), (.int (0 : Int32)), (.ref c1), (.ref a1)])) _
    refine st102.trans ?_
    show Steps p.tables e below (T102.setTop (mkF m 9 #[.val (.ref a1), .val (.ref c1)] [])) _
    exact X102b.returnOut hx Bd.returns (hb hby d2_9) hr
  · show Q_rm2 Z a1 c1 kc dv h0 n0 _ T102.heap _
    unfold Q_rm2
    exact ⟨t_102, kb_102, rfl, N102, K103, f102_0, f102_1, f102_2, f102_3⟩
theorem ef_rm1 (m : MethodId) (x0 : Int32) (x1 : Int32) (x2 : Int32) (x3 : Int32) (x4 : Int32) (x5 : Int32) (x6 : Int32) : entryFrame m #[(.int x0), (.int x1), (.int x2), (.int x3), (.int x4), (.int x5), (.int x6)] 7 = mkF m 0 #[.val (.int x0), .val (.int x1), .val (.int x2), .val (.int x3), .val (.int x4), .val (.int x5), .val (.int x6)] [] := by first | (simp [entryFrame, mkF, argsToLocals, Value.category]; done) | rfl
def Q_rm1 (Z : State) (p0 : Int32) (d0 : Int32) (d1 : Int32) (d2 : Int32) (d3 : Int32) (d4 : Int32) (d5 : Int32) (zc : Int32) (h0 : Heap) (n0 : Nat) (v : Option Value) (h : Heap) (L : List Loc) : Prop := ∃ o : Addr, ∃ t : Addr, ∃ kb : ClassId, ∃ cd : Int32, ∃ N9 : Int32, ∃ vs : List Value, (v = some (.ref o)) ∧ (Fr n0 L) ∧ (Keep h0 h []) ∧ (h0.size ≤ o) ∧ (Exa Z h o "java/lang/String") ∧ (Fld Z h o "java/lang/String" "value" "[B" (.ref t)) ∧ (Fld Z h o "java/lang/String" "coder" "B" (.int cd)) ∧ (Arv Z h t kb .byte N9 vs (.int (0 : Int32))) ∧ (CodA (CS p0 d0 d1 d2 d3 d4 d5) cd N9 vs)
theorem d1_0 : decode method_6_code 0 = .ok (.iload_n 0, 1) := by decide +kernel
theorem d1_1 : decode method_6_code 1 = .ok (.ifCond .ne 14, 3) := by decide +kernel
theorem d1_4 : decode method_6_code 4 = .ok (.new 33, 3) := by decide +kernel
theorem d1_7 : decode method_6_code 7 = .ok (.dup, 1) := by decide +kernel
theorem d1_8 : decode method_6_code 8 = .ok (.iconst 0, 1) := by decide +kernel
theorem d1_9 : decode method_6_code 9 = .ok (.newarray .char, 2) := by decide +kernel
theorem d1_11 : decode method_6_code 11 = .ok (.invokespecial 35, 3) := by decide +kernel
theorem pd_23 : parseMethodDescriptor "([C)V" = some ⟨[(.array .char)], none⟩ := by decide +kernel
theorem d1_14 : decode method_6_code 14 = .ok (.areturn, 1) := by decide +kernel
theorem d1_15 : decode method_6_code 15 = .ok (.iload_n 0, 1) := by decide +kernel
theorem d1_16 : decode method_6_code 16 = .ok (.iconst 1, 1) := by decide +kernel
theorem d1_17 : decode method_6_code 17 = .ok (.if_icmp .ne 18, 3) := by decide +kernel
theorem d1_20 : decode method_6_code 20 = .ok (.new 33, 3) := by decide +kernel
theorem d1_23 : decode method_6_code 23 = .ok (.dup, 1) := by decide +kernel
theorem d1_24 : decode method_6_code 24 = .ok (.iconst 1, 1) := by decide +kernel
theorem d1_25 : decode method_6_code 25 = .ok (.newarray .char, 2) := by decide +kernel
theorem d1_27 : decode method_6_code 27 = .ok (.dup, 1) := by decide +kernel
theorem d1_28 : decode method_6_code 28 = .ok (.iconst 0, 1) := by decide +kernel
theorem d1_29 : decode method_6_code 29 = .ok (.iload_n 1, 1) := by decide +kernel
theorem d1_30 : decode method_6_code 30 = .ok (.castore, 1) := by decide +kernel
theorem d1_31 : decode method_6_code 31 = .ok (.invokespecial 35, 3) := by decide +kernel
theorem d1_34 : decode method_6_code 34 = .ok (.areturn, 1) := by decide +kernel
theorem d1_35 : decode method_6_code 35 = .ok (.iload_n 0, 1) := by decide +kernel
theorem d1_36 : decode method_6_code 36 = .ok (.iconst 2, 1) := by decide +kernel
theorem d1_37 : decode method_6_code 37 = .ok (.if_icmp .ne 22, 3) := by decide +kernel
theorem d1_40 : decode method_6_code 40 = .ok (.new 33, 3) := by decide +kernel
theorem d1_43 : decode method_6_code 43 = .ok (.dup, 1) := by decide +kernel
theorem d1_44 : decode method_6_code 44 = .ok (.iconst 2, 1) := by decide +kernel
theorem d1_45 : decode method_6_code 45 = .ok (.newarray .char, 2) := by decide +kernel
theorem d1_47 : decode method_6_code 47 = .ok (.dup, 1) := by decide +kernel
theorem d1_48 : decode method_6_code 48 = .ok (.iconst 0, 1) := by decide +kernel
theorem d1_49 : decode method_6_code 49 = .ok (.iload_n 1, 1) := by decide +kernel
theorem d1_50 : decode method_6_code 50 = .ok (.castore, 1) := by decide +kernel
theorem d1_51 : decode method_6_code 51 = .ok (.dup, 1) := by decide +kernel
theorem d1_52 : decode method_6_code 52 = .ok (.iconst 1, 1) := by decide +kernel
theorem d1_53 : decode method_6_code 53 = .ok (.iload_n 2, 1) := by decide +kernel
theorem d1_54 : decode method_6_code 54 = .ok (.castore, 1) := by decide +kernel
theorem d1_55 : decode method_6_code 55 = .ok (.invokespecial 35, 3) := by decide +kernel
theorem d1_58 : decode method_6_code 58 = .ok (.areturn, 1) := by decide +kernel
theorem d1_59 : decode method_6_code 59 = .ok (.iload_n 0, 1) := by decide +kernel
theorem d1_60 : decode method_6_code 60 = .ok (.iconst 3, 1) := by decide +kernel
theorem d1_61 : decode method_6_code 61 = .ok (.if_icmp .ne 26, 3) := by decide +kernel
theorem d1_64 : decode method_6_code 64 = .ok (.new 33, 3) := by decide +kernel
theorem d1_67 : decode method_6_code 67 = .ok (.dup, 1) := by decide +kernel
theorem d1_68 : decode method_6_code 68 = .ok (.iconst 3, 1) := by decide +kernel
theorem d1_69 : decode method_6_code 69 = .ok (.newarray .char, 2) := by decide +kernel
theorem d1_71 : decode method_6_code 71 = .ok (.dup, 1) := by decide +kernel
theorem d1_72 : decode method_6_code 72 = .ok (.iconst 0, 1) := by decide +kernel
theorem d1_73 : decode method_6_code 73 = .ok (.iload_n 1, 1) := by decide +kernel
theorem d1_74 : decode method_6_code 74 = .ok (.castore, 1) := by decide +kernel
theorem d1_75 : decode method_6_code 75 = .ok (.dup, 1) := by decide +kernel
theorem d1_76 : decode method_6_code 76 = .ok (.iconst 1, 1) := by decide +kernel
theorem d1_77 : decode method_6_code 77 = .ok (.iload_n 2, 1) := by decide +kernel
theorem d1_78 : decode method_6_code 78 = .ok (.castore, 1) := by decide +kernel
theorem d1_79 : decode method_6_code 79 = .ok (.dup, 1) := by decide +kernel
theorem d1_80 : decode method_6_code 80 = .ok (.iconst 2, 1) := by decide +kernel
theorem d1_81 : decode method_6_code 81 = .ok (.iload_n 3, 1) := by decide +kernel
theorem d1_82 : decode method_6_code 82 = .ok (.castore, 1) := by decide +kernel
theorem d1_83 : decode method_6_code 83 = .ok (.invokespecial 35, 3) := by decide +kernel
theorem d1_86 : decode method_6_code 86 = .ok (.areturn, 1) := by decide +kernel
theorem d1_87 : decode method_6_code 87 = .ok (.iload_n 0, 1) := by decide +kernel
theorem d1_88 : decode method_6_code 88 = .ok (.iconst 4, 1) := by decide +kernel
theorem d1_89 : decode method_6_code 89 = .ok (.if_icmp .ne 31, 3) := by decide +kernel
theorem d1_92 : decode method_6_code 92 = .ok (.new 33, 3) := by decide +kernel
theorem d1_95 : decode method_6_code 95 = .ok (.dup, 1) := by decide +kernel
theorem d1_96 : decode method_6_code 96 = .ok (.iconst 4, 1) := by decide +kernel
theorem d1_97 : decode method_6_code 97 = .ok (.newarray .char, 2) := by decide +kernel
theorem d1_99 : decode method_6_code 99 = .ok (.dup, 1) := by decide +kernel
theorem d1_100 : decode method_6_code 100 = .ok (.iconst 0, 1) := by decide +kernel
theorem d1_101 : decode method_6_code 101 = .ok (.iload_n 1, 1) := by decide +kernel
theorem d1_102 : decode method_6_code 102 = .ok (.castore, 1) := by decide +kernel
theorem d1_103 : decode method_6_code 103 = .ok (.dup, 1) := by decide +kernel
theorem d1_104 : decode method_6_code 104 = .ok (.iconst 1, 1) := by decide +kernel
theorem d1_105 : decode method_6_code 105 = .ok (.iload_n 2, 1) := by decide +kernel
theorem d1_106 : decode method_6_code 106 = .ok (.castore, 1) := by decide +kernel
theorem d1_107 : decode method_6_code 107 = .ok (.dup, 1) := by decide +kernel
theorem d1_108 : decode method_6_code 108 = .ok (.iconst 2, 1) := by decide +kernel
theorem d1_109 : decode method_6_code 109 = .ok (.iload_n 3, 1) := by decide +kernel
theorem d1_110 : decode method_6_code 110 = .ok (.castore, 1) := by decide +kernel
theorem d1_111 : decode method_6_code 111 = .ok (.dup, 1) := by decide +kernel
theorem d1_112 : decode method_6_code 112 = .ok (.iconst 3, 1) := by decide +kernel
theorem d1_113 : decode method_6_code 113 = .ok (.iload 4, 2) := by decide +kernel
theorem d1_115 : decode method_6_code 115 = .ok (.castore, 1) := by decide +kernel
theorem d1_116 : decode method_6_code 116 = .ok (.invokespecial 35, 3) := by decide +kernel
theorem d1_119 : decode method_6_code 119 = .ok (.areturn, 1) := by decide +kernel
theorem d1_120 : decode method_6_code 120 = .ok (.iload_n 0, 1) := by decide +kernel
theorem d1_121 : decode method_6_code 121 = .ok (.iconst 5, 1) := by decide +kernel
theorem d1_122 : decode method_6_code 122 = .ok (.if_icmp .ne 36, 3) := by decide +kernel
theorem d1_125 : decode method_6_code 125 = .ok (.new 33, 3) := by decide +kernel
theorem d1_128 : decode method_6_code 128 = .ok (.dup, 1) := by decide +kernel
theorem d1_129 : decode method_6_code 129 = .ok (.iconst 5, 1) := by decide +kernel
theorem d1_130 : decode method_6_code 130 = .ok (.newarray .char, 2) := by decide +kernel
theorem d1_132 : decode method_6_code 132 = .ok (.dup, 1) := by decide +kernel
theorem d1_133 : decode method_6_code 133 = .ok (.iconst 0, 1) := by decide +kernel
theorem d1_134 : decode method_6_code 134 = .ok (.iload_n 1, 1) := by decide +kernel
theorem d1_135 : decode method_6_code 135 = .ok (.castore, 1) := by decide +kernel
theorem d1_136 : decode method_6_code 136 = .ok (.dup, 1) := by decide +kernel
theorem d1_137 : decode method_6_code 137 = .ok (.iconst 1, 1) := by decide +kernel
theorem d1_138 : decode method_6_code 138 = .ok (.iload_n 2, 1) := by decide +kernel
theorem d1_139 : decode method_6_code 139 = .ok (.castore, 1) := by decide +kernel
theorem d1_140 : decode method_6_code 140 = .ok (.dup, 1) := by decide +kernel
theorem d1_141 : decode method_6_code 141 = .ok (.iconst 2, 1) := by decide +kernel
theorem d1_142 : decode method_6_code 142 = .ok (.iload_n 3, 1) := by decide +kernel
theorem d1_143 : decode method_6_code 143 = .ok (.castore, 1) := by decide +kernel
theorem d1_144 : decode method_6_code 144 = .ok (.dup, 1) := by decide +kernel
theorem d1_145 : decode method_6_code 145 = .ok (.iconst 3, 1) := by decide +kernel
theorem d1_146 : decode method_6_code 146 = .ok (.iload 4, 2) := by decide +kernel
theorem d1_148 : decode method_6_code 148 = .ok (.castore, 1) := by decide +kernel
theorem d1_149 : decode method_6_code 149 = .ok (.dup, 1) := by decide +kernel
theorem d1_150 : decode method_6_code 150 = .ok (.iconst 4, 1) := by decide +kernel
theorem d1_151 : decode method_6_code 151 = .ok (.iload 5, 2) := by decide +kernel
theorem d1_153 : decode method_6_code 153 = .ok (.castore, 1) := by decide +kernel
theorem d1_154 : decode method_6_code 154 = .ok (.invokespecial 35, 3) := by decide +kernel
theorem d1_157 : decode method_6_code 157 = .ok (.areturn, 1) := by decide +kernel
theorem d1_158 : decode method_6_code 158 = .ok (.new 33, 3) := by decide +kernel
theorem d1_161 : decode method_6_code 161 = .ok (.dup, 1) := by decide +kernel
theorem d1_162 : decode method_6_code 162 = .ok (.bipush 6, 2) := by decide +kernel
theorem d1_164 : decode method_6_code 164 = .ok (.newarray .char, 2) := by decide +kernel
theorem d1_166 : decode method_6_code 166 = .ok (.dup, 1) := by decide +kernel
theorem d1_167 : decode method_6_code 167 = .ok (.iconst 0, 1) := by decide +kernel
theorem d1_168 : decode method_6_code 168 = .ok (.iload_n 1, 1) := by decide +kernel
theorem d1_169 : decode method_6_code 169 = .ok (.castore, 1) := by decide +kernel
theorem d1_170 : decode method_6_code 170 = .ok (.dup, 1) := by decide +kernel
theorem d1_171 : decode method_6_code 171 = .ok (.iconst 1, 1) := by decide +kernel
theorem d1_172 : decode method_6_code 172 = .ok (.iload_n 2, 1) := by decide +kernel
theorem d1_173 : decode method_6_code 173 = .ok (.castore, 1) := by decide +kernel
theorem d1_174 : decode method_6_code 174 = .ok (.dup, 1) := by decide +kernel
theorem d1_175 : decode method_6_code 175 = .ok (.iconst 2, 1) := by decide +kernel
theorem d1_176 : decode method_6_code 176 = .ok (.iload_n 3, 1) := by decide +kernel
theorem d1_177 : decode method_6_code 177 = .ok (.castore, 1) := by decide +kernel
theorem d1_178 : decode method_6_code 178 = .ok (.dup, 1) := by decide +kernel
theorem d1_179 : decode method_6_code 179 = .ok (.iconst 3, 1) := by decide +kernel
theorem d1_180 : decode method_6_code 180 = .ok (.iload 4, 2) := by decide +kernel
theorem d1_182 : decode method_6_code 182 = .ok (.castore, 1) := by decide +kernel
theorem d1_183 : decode method_6_code 183 = .ok (.dup, 1) := by decide +kernel
theorem d1_184 : decode method_6_code 184 = .ok (.iconst 4, 1) := by decide +kernel
theorem d1_185 : decode method_6_code 185 = .ok (.iload 5, 2) := by decide +kernel
theorem d1_187 : decode method_6_code 187 = .ok (.castore, 1) := by decide +kernel
theorem d1_188 : decode method_6_code 188 = .ok (.dup, 1) := by decide +kernel
theorem d1_189 : decode method_6_code 189 = .ok (.iconst 5, 1) := by decide +kernel
theorem d1_190 : decode method_6_code 190 = .ok (.iload 6, 2) := by decide +kernel
theorem d1_192 : decode method_6_code 192 = .ok (.castore, 1) := by decide +kernel
theorem d1_193 : decode method_6_code 193 = .ok (.invokespecial 35, 3) := by decide +kernel
theorem d1_196 : decode method_6_code 196 = .ok (.areturn, 1) := by decide +kernel
set_option maxRecDepth 65536 in
set_option maxHeartbeats 40000000 in
theorem rm1 (l : Launch) (Z : State) (a0 : Array Value) (hw : ∀ d ∈ tables_1, d.before a0 Z = true) (ws : List Jvm.Cond) (p0 : Int32) (d0 : Int32) (d1 : Int32) (d2 : Int32) (d3 : Int32) (d4 : Int32) (d5 : Int32) (zc : Int32) (h0 : Heap) (n0 : Nat) (O0 : Old Z n0 h0) (g0 : C16 d0) (g1 : C16 d1) (g2 : C16 d2) (g3 : C16 d3) (g4 : C16 d4) (g5 : C16 d5) (SZ : Sta Z Z.heap "java/lang/String" "COMPACT_STRINGS" "Z" (.int zc)) (PZ : ¬ (zc = (0 : Int32))) (SA : Sta Z Z.heap "java/lang/StringUTF16" "$assertionsDisabled" "Z" (.int (1 : Int32))) (SH : Sta Z Z.heap "java/lang/StringUTF16" "HI_BYTE_SHIFT" "I" (.int (0 : Int32))) (SL : Sta Z Z.heap "java/lang/StringUTF16" "LO_BYTE_SHIFT" "I" (.int (8 : Int32))) :
    MetFree l (⟨"com/example/vestwright/vestwright/InputTextIsPlainDecimalPinLaw", "make", "(ICCCCCC)Ljava/lang/String;"⟩ : MethodName) (head1 (Jvm.Cond.code (⟨"com/example/vestwright/vestwright/InputTextIsPlainDecimalPinLaw", "make", "(ICCCCCC)Ljava/lang/String;"⟩ : MethodName) method_6_code 7 (some (.object "java/lang/String")) :: ws) ({ frames := 6, cells := 6, slots := 28, locals := 88 } : Room)) (fun a U => a = #[(.int p0), (.int d0), (.int d1), (.int d2), (.int d3), (.int d4), (.int d5)] ∧ Z.Warmed39 U.vm ∧ U.heap = h0 ∧ CHv Z consts_1 U.vm h0 ∧ ∀ x ∈ ([] : List Addr), Safe Z consts_1 U.vm h0 x) (fun _ _ _ _ _ => True) (fun _ U o U' => ∃ v L, o = .returned v ∧ Q_rm1 Z p0 d0 d1 d2 d3 d4 d5 zc h0 n0 v U'.heap L ∧ CHr Z consts_1 U.vm U.heap U'.vm U'.heap ∧ ReturnedEndW U o U' L ({ frames := 6, cells := 6, slots := 28, locals := 88 } : Room).cells ({ frames := 6, cells := 6, slots := 28, locals := 88 } : Room).slots) := by
  refine MetFree.of_bodySF (plainFor_of_name pn_5) hisR ?_
  intro p e s m args below meth c s₁ Bd hml0 hP hK
  obtain ⟨rfl, hZ, hh, hH0, hSf⟩ := hP
  have hx := Bd.exec
  have hby := Bd.bytes
  have hml : c.maxLocals = 7 := hml0
  have hEL : EW Z a0 consts_1 := own_EW hw
  have CR0 : CHr Z consts_1 s.vm h0 s.vm h0 := CHr.refl hH0
  have hown : s.vm.findClass "com/example/vestwright/vestwright/InputTextIsPlainDecimalPinLaw" = some m.cls := findClass_of_methodNamed Bd.named
  have hnm := (name_of_methodNamed Bd.named Bd.method).1
  have hS0 : s.Since s.vm h0.size := (State.WarmedH.refl s).since _
  have hstr : ∀ a ∈ Bundle.stringAtoms, a.before a0 Z = true := own_str hw
  have X0 : Stand p l e ({ frames := 6, cells := 6, slots := 28, locals := 88 } : Room) (s.setVm s.vm) m #[(.int p0), (.int d0), (.int d1), (.int d2), (.int d3), (.int d4), (.int d5)] below meth c s₁ [] 0 0 := Stand.of_body Bd
  have e0 : s₁.heap = h0 := by rw [← hh, Bd.state]; rfl
  have N0 := Fr.nil n0
  have Z0 : n0 ≤ h0.size := old_le O0
  have pre0 : ∀ t, Steps p.tables e below (s₁.setTop (mkF m 0 #[.val (.int p0), .val (.int d0), .val (.int d1), .val (.int d2), .val (.int d3), .val (.int d4), .val (.int d5)] [])) t → Steps p.tables e below (s₁.setTop (entryFrame m #[(.int p0), (.int d0), (.int d1), (.int d2), (.int d3), (.int d4), (.int d5)] 7)) t := fun t k => castTop (ef_rm1 m p0 d0 d1 d2 d3 d4 d5) k
  have S102 : ∀ t, Steps p.tables e below (s₁.setTop (mkF m 1 #[.val (.int p0), .val (.int d0), .val (.int d1), .val (.int d2), .val (.int d3), .val (.int d4), .val (.int d5)] [(.int p0)])) t → Steps p.tables e below (s₁.setTop (entryFrame m #[(.int p0), (.int d0), (.int d1), (.int d2), (.int d3), (.int d4), (.int d5)] 7)) t := fun t k => by
    refine pre0 t ?_
    show Steps p.tables e below (s₁.setTop (mkF m 0 #[.val (.int p0), .val (.int d0), .val (.int d1), .val (.int d2), .val (.int d3), .val (.int d4), .val (.int d5)] [])) _
    refine XS.iloadN X0.here hx rfl (hb hby d1_0) rfl ?_
    exact k
  by_cases hc101 : p0 = (0 : Int32)
  · obtain ⟨T103, h103, X103, e103, E103, A103, D103, -, st103⟩ := newO X0 hx hZ hown (hwk hw 6 rfl) (hwk hw 7 rfl) (hwk hw 8 rfl) e0 (g := (mkF m 4 #[.val (.int p0), .val (.int d0), .val (.int d1), .val (.int d2), .val (.int d3), .val (.int d4), .val (.int d5)] [])) rfl (hb hby d1_4) (by decide) (by decide)
    obtain ⟨b103, g103⟩ : ∃ z, z = h0.size := ⟨_, rfl⟩
    rw [← g103] at A103 D103 st103
    have g_b103 : n0 ≤ b103 := Nat.le_trans (old_le O0) (Nat.le_of_eq g103.symm)
    have O104 : Old Z n0 h103 := Old.ext O0 E103
    obtain ⟨T105, h105, k105, X105, e105, E105, A105, st105⟩ := newP X103 hx hZ (hwk hw 9 rfl) e103 (g := (mkF m 9 #[.val (.int p0), .val (.int d0), .val (.int d1), .val (.int d2), .val (.int d3), .val (.int d4), .val (.int d5)] [(.int (0 : Int32)), (.ref b103), (.ref b103)])) rfl (hb hby d1_9) rfl (by decide) (cap := 0) (by decide) (by decide) (by decide) (by decide)
    obtain ⟨b105, g105⟩ : ∃ z, z = h103.size := ⟨_, rfl⟩
    rw [← g105] at A105 st105
    have g_b105 : n0 ≤ b105 := Nat.le_trans (old_le O104) (Nat.le_of_eq g105.symm)
    have V105 : Arv Z h105 b105 k105 .char (0 : Int32) [] (.int (0 : Int32)) := (Arv.new A105 (by decide)).pad (pad_rep [] (.int (0 : Int32)) 0)
    have c106 : Exa Z h105 b103 "java/lang/String" := (Exa.ext E105 A103)
    have c107 : Fld Z h105 b103 "java/lang/String" "value" "[B" .null := (Fld.ext E105 (show Fld Z h103 b103 "java/lang/String" "value" "[B" .null from D103 (Or.inr (hwk hw 22 rfl)) (ty := (.array .byte)) (by decide)))
    have c108 : Fld Z h105 b103 "java/lang/String" "coder" "B" (.int (0 : Int32)) := (Fld.ext E105 (show Fld Z h103 b103 "java/lang/String" "coder" "B" (.int (0 : Int32)) from D103 (Or.inr (hwk hw 23 rfl)) (ty := .byte) (by decide)))
    have O109 : Old Z n0 h105 := Old.ext O104 E105
    have Sf111 : Safe Z consts_1 s.vm h0 b103 := Safe.new (Nat.le_of_eq g103.symm)
    have CR112 : CHr Z consts_1 s.vm h0 s.vm h103 := CHr.trans CR0 (CHr.ext E103 CR0.1)
    have Sf113 : Safe Z consts_1 s.vm h105 b103 := (Safe.ext E105 CR112.1 (Safe.ext E103 CR0.1 Sf111))
    have CR114 : CHr Z consts_1 s.vm h0 s.vm h105 := CHr.trans CR112 (CHr.ext E105 CR112.1)
    obtain ⟨_, _, ⟨T110, L110, k110, n110⟩, -, X110, hs110', hg110', ⟨Lc110, hQ110, l110, y110, z110, CX110⟩, st110⟩ := X105.specialBackS hx (y := (⟨"java/lang/String", "<init>", "([C)V"⟩ : MethodName)) rfl hown (mvT hZ (hwk hw 10 rfl)) (mvT hZ (hwk hw 11 rfl)) (mvT hZ (hwk hw 12 rfl)) (by decide) (own_backSH (W := 1) (rm2 l Z a0 hw [] b103 b105 k105 (.int (0 : Int32)) h105 n0 O109 c106 g_b103 c107 c108 V105) hZ (hwk hw 12 rfl) (hwk hw 8 rfl) (by decide) (by decide) hEL CR114.1 (own_sf ⟨(c106).lt, Sf113⟩ (fun _ q => nomatch q))) (g := (mkF m 11 #[.val (.int p0), .val (.int d0), .val (.int d1), .val (.int d2), .val (.int d3), .val (.int d4), .val (.int d5)] [(.ref b105), (.ref b103), (.ref b103)])) rfl (by rw [hml]; rfl) (Steps.refl _) (a := b103) (argsL := [(.ref b105)]) (rest := [(.ref b103)]) (lenOf pd_23 rfl) rfl (by show 2 * 0 + _ ≤ _; exact Nat.le_of_eq rfl) (hb hby d1_11) (fun _ _ => ⟨rfl, e105, (by decide : 2 + 4 ≤ _), (by decide : 4 + 8 ≤ _)⟩)
    dsimp only [Pt.U, Pt.locs, Pt.cells, Pt.slots] at X110 l110 y110 z110 st110 hQ110 hs110' hg110' CX110
    subst l110 y110 z110
    obtain ⟨X110b, hS110, hZ110, hown110⟩ := rebS hS0 (show _ ≤ T105.heap.size from by rw [e105]; exact (Nat.le_trans (Nat.le_refl _) (Nat.le_trans (Nat.le_trans (Nat.le_refl _) E103.1) E105.1))) X110 hs110' hg110' hZ hown
    unfold Q_rm2 at hQ110
    obtain ⟨t_110, kb_110, rfl, N110q, K110, f110_0, f110_1, f110_2, f110_3⟩ := hQ110
    have N110 := Fr.app N0 N110q
    have K115 : Keep h0 h103 [] := Keep.ext (Keep.refl h0 []) E103
    have K116 : Keep h0 h105 [] := Keep.ext K115 E105
    have K117 : Keep h0 T110.heap [] := Keep.trans K116 K110 (allS (Or.inr (Nat.le_trans (Nat.le_refl _) (Nat.le_of_eq g103.symm))) all0)
    have CR118 : CHr Z consts_1 s.vm h0 T110.vm T110.heap := CHr.trans CR114 CX110
    obtain ⟨fs, hr, hrun, hended, hRE⟩ := X110b.leaveW hS110 (show _ ≤ T110.heap.size from by rw [(rfl : T110.heap = T110.heap)]; exact (Nat.le_refl _)) (v := some (.ref b103)) (fun h => by rw [Bd.returns] at h; cases h)
    have CRl : CHr Z consts_1 s.vm s.heap (T110.setFrames fs).vm (T110.setFrames fs).heap := by
      have q := CHr.trans CR118 (CHv.at X110b hZ110 hEL CR118.1)
      rw [← hh, ← (rfl : T110.heap = T110.heap)] at q
      exact q
    refine ⟨_, _, S102 _ ?_, hrun, hended, _, _, rfl, ?_, CRl, hRE.1, hRE.2.1, hRE.2.2.1, hRE.2.2.2.mono (by decide) (by decide)⟩
    · show Steps p.tables e below (s₁.setTop (mkF m 1 #[.val (.int p0), .val (.int d0), .val (.int d1), .val (.int d2), .val (.int d3), .val (.int d4), .val (.int d5)] [(.int p0)])) _
      refine XS.ifNo X0.here hx rfl (hb hby d1_1) rfl ((if0 _ _).trans (teq hc101).2) ?_
      show Steps p.tables e below (s₁.setTop (mkF m 4 #[.val (.int p0), .val (.int d0), .val (.int d1), .val (.int d2), .val (.int d3), .val (.int d4), .val (.int d5)] [])) _
      refine st103 _ ?_
      show Steps p.tables e below (T103.setTop (mkF m 7 #[.val (.int p0), .val (.int d0), .val (.int d1), .val (.int d2), .val (.int d3), .val (.int d4), .val (.int d5)] [(.ref b103)])) _
      refine XS.dup X103.here hx rfl (hb hby d1_7) rfl rfl ?_
      show Steps p.tables e below (T103.setTop (mkF m 8 #[.val (.int p0), .val (.int d0), .val (.int d1), .val (.int d2), .val (.int d3), .val (.int d4), .val (.int d5)] [(.ref b103), (.ref b103)])) _
      refine XS.iconst X103.here hx rfl (hb hby d1_8) ?_
      show Steps p.tables e below (T103.setTop (mkF m 9 #[.val (.int p0), .val (.int d0), .val (.int d1), .val (.int d2), .val (.int d3), .val (.int d4), .val (.int d5)] [(.int (0 : Int32)), (.ref b103), (.ref b103)])) _
      refine st105 _ ?_
      show Steps p.tables e below (T105.setTop (mkF m 11 #[.val (.int p0), .val (.int d0), .val (.int d1), .val (.int d2), .val (.int d3), .val (.int d4), .val (.int d5)] [(.ref b105), (.ref b103), (.ref b103)])) _
      refine st110.trans ?_
      show Steps p.tables e below (T110.setTop (mkF m 14 #[.val (.int p0), .val (.int d0), .val (.int d1), .val (.int d2), .val (.int d3), .val (.int d4), .val (.int d5)] [(.ref b103)])) _
      exact Jvm.RoadKit.retOut X110b hx Bd.returns rfl (Or.inr (Or.inr (Or.inr (Or.inr ⟨rfl, rfl, rfl⟩)))) (hb hby d1_14) hr
    · show Q_rm1 Z p0 d0 d1 d2 d3 d4 d5 zc h0 n0 _ T110.heap _
      unfold Q_rm1
      exact ⟨b103, t_110, kb_110, (0 : Int32), (0 : Int32), [], rfl, N110, K117, (Nat.le_trans (Nat.le_refl _) (Nat.le_of_eq g103.symm)), f110_0, f110_2, f110_1, f110_3, (by rw [show (CS p0 d0 d1 d2 d3 d4 d5) = [] from (by unfold CS; rw [if_pos hc101])]; exact Or.inl ⟨rfl, rfl, rfl, fun c hc => nomatch hc⟩)⟩
  · have S120 : ∀ t, Steps p.tables e below (s₁.setTop (mkF m 17 #[.val (.int p0), .val (.int d0), .val (.int d1), .val (.int d2), .val (.int d3), .val (.int d4), .val (.int d5)] [(.int (1 : Int32)), (.int p0)])) t → Steps p.tables e below (s₁.setTop (entryFrame m #[(.int p0), (.int d0), (.int d1), (.int d2), (.int d3), (.int d4), (.int d5)] 7)) t := fun t k => by
      refine S102 t ?_
      show Steps p.tables e below (s₁.setTop (mkF m 1 #[.val (.int p0), .val (.int d0), .val (.int d1), .val (.int d2), .val (.int d3), .val (.int d4), .val (.int d5)] [(.int p0)])) _
      refine XS.ifYes X0.here hx rfl (pc0 := 1) (pc' := 15) rfl (hb hby d1_1) rfl ((if0 _ _).trans (feq hc101).2) (by decide) (by decide) ?_
      show Steps p.tables e below (s₁.setTop (mkF m 15 #[.val (.int p0), .val (.int d0), .val (.int d1), .val (.int d2), .val (.int d3), .val (.int d4), .val (.int d5)] [])) _
      refine XS.iloadN X0.here hx rfl (hb hby d1_15) rfl ?_
      refine XS.iconst X0.here hx rfl (hb hby d1_16) ?_
      exact k
    by_cases hc119 : p0 = (1 : Int32)
    · obtain ⟨T121, h121, X121, e121, E121, A121, D121, -, st121⟩ := newO X0 hx hZ hown (hwk hw 6 rfl) (hwk hw 7 rfl) (hwk hw 8 rfl) e0 (g := (mkF m 20 #[.val (.int p0), .val (.int d0), .val (.int d1), .val (.int d2), .val (.int d3), .val (.int d4), .val (.int d5)] [])) rfl (hb hby d1_20) (by decide) (by decide)
      obtain ⟨b121, g121⟩ : ∃ z, z = h0.size := ⟨_, rfl⟩
      rw [← g121] at A121 D121 st121
      have g_b121 : n0 ≤ b121 := Nat.le_trans (old_le O0) (Nat.le_of_eq g121.symm)
      have O122 : Old Z n0 h121 := Old.ext O0 E121
      obtain ⟨T123, h123, k123, X123, e123, E123, A123, st123⟩ := newP X121 hx hZ (hwk hw 9 rfl) e121 (g := (mkF m 25 #[.val (.int p0), .val (.int d0), .val (.int d1), .val (.int d2), .val (.int d3), .val (.int d4), .val (.int d5)] [(.int (1 : Int32)), (.ref b121), (.ref b121)])) rfl (hb hby d1_25) rfl (by decide) (cap := 1) (by decide) (by decide) (by decide) (by decide)
      obtain ⟨b123, g123⟩ : ∃ z, z = h121.size := ⟨_, rfl⟩
      rw [← g123] at A123 st123
      have g_b123 : n0 ≤ b123 := Nat.le_trans (old_le O122) (Nat.le_of_eq g123.symm)
      have V123 : Arv Z h123 b123 k123 .char (1 : Int32) [(.int (0 : Int32))] (.int (0 : Int32)) := (Arv.new A123 (by decide)).pad (pad_rep [] (.int (0 : Int32)) 1)
      obtain ⟨clq124, Arq124, kqq124, Szq124, Nnq124, Hsq124, Gsq124⟩ := id V123
      have hinq124 : ¬ ((0 : Int32) < 0 ∨ clq124.slots.size ≤ ((0 : Int32)).toNatClampNeg) := inb_of Szq124 ⟨by decide, by decide⟩
      obtain ⟨T125, h125, X125, e125, W125, st125⟩ := stC X123 hx hZ e123 Arq124 (j := (0 : Int32)) hinq124 (g := (mkF m 30 #[.val (.int p0), .val (.int d0), .val (.int d1), .val (.int d2), .val (.int d3), .val (.int d4), .val (.int d5)] [(.int d0), (.int (0 : Int32)), (.ref b123), (.ref b123), (.ref b121), (.ref b121)])) rfl rfl (hb hby d1_30)
      have V125 : Arv Z h125 b123 k123 .char (1 : Int32) [(.int (nar .char d0))] (.int (0 : Int32)) := Arv.set Arq124 kqq124 Szq124 Nnq124 Hsq124 Gsq124 (fits_nar_char _) W125 0 rfl (Nat.le_of_ble_eq_true rfl)
      have N125 := Fr.snoc X125 N0 g_b123
      have Ac126 : Arv Z h125 b123 k123 .char (1 : Int32) [(.int d0)] (.int (0 : Int32)) := own_arv V125 (by rw [own_nar16 g0])
      have hqm127 : ∀ c ∈ ([d0] : List Int32), C16 c := by
        intro c hc
        simp only [List.mem_cons, List.not_mem_nil, or_false] at hc
        rcases hc with rfl
        · exact g0
      have S129 : ∀ t, Steps p.tables e below (T125.setTop (mkF m 31 #[.val (.int p0), .val (.int d0), .val (.int d1), .val (.int d2), .val (.int d3), .val (.int d4), .val (.int d5)] [(.ref b123), (.ref b121), (.ref b121)])) t → Steps p.tables e below (s₁.setTop (entryFrame m #[(.int p0), (.int d0), (.int d1), (.int d2), (.int d3), (.int d4), (.int d5)] 7)) t := fun t k => by
        refine S120 t ?_
        show Steps p.tables e below (s₁.setTop (mkF m 17 #[.val (.int p0), .val (.int d0), .val (.int d1), .val (.int d2), .val (.int d3), .val (.int d4), .val (.int d5)] [(.int (1 : Int32)), (.int p0)])) _
        refine XS.icmpNo X0.here hx rfl (hb hby d1_17) rfl (teq hc119).2 ?_
        show Steps p.tables e below (s₁.setTop (mkF m 20 #[.val (.int p0), .val (.int d0), .val (.int d1), .val (.int d2), .val (.int d3), .val (.int d4), .val (.int d5)] [])) _
        refine st121 _ ?_
        show Steps p.tables e below (T121.setTop (mkF m 23 #[.val (.int p0), .val (.int d0), .val (.int d1), .val (.int d2), .val (.int d3), .val (.int d4), .val (.int d5)] [(.ref b121)])) _
        refine XS.dup X121.here hx rfl (hb hby d1_23) rfl rfl ?_
        show Steps p.tables e below (T121.setTop (mkF m 24 #[.val (.int p0), .val (.int d0), .val (.int d1), .val (.int d2), .val (.int d3), .val (.int d4), .val (.int d5)] [(.ref b121), (.ref b121)])) _
        refine XS.iconst X121.here hx rfl (hb hby d1_24) ?_
        show Steps p.tables e below (T121.setTop (mkF m 25 #[.val (.int p0), .val (.int d0), .val (.int d1), .val (.int d2), .val (.int d3), .val (.int d4), .val (.int d5)] [(.int (1 : Int32)), (.ref b121), (.ref b121)])) _
        refine st123 _ ?_
        show Steps p.tables e below (T123.setTop (mkF m 27 #[.val (.int p0), .val (.int d0), .val (.int d1), .val (.int d2), .val (.int d3), .val (.int d4), .val (.int d5)] [(.ref b123), (.ref b121), (.ref b121)])) _
        refine XS.dup X123.here hx rfl (hb hby d1_27) rfl rfl ?_
        show Steps p.tables e below (T123.setTop (mkF m 28 #[.val (.int p0), .val (.int d0), .val (.int d1), .val (.int d2), .val (.int d3), .val (.int d4), .val (.int d5)] [(.ref b123), (.ref b123), (.ref b121), (.ref b121)])) _
        refine XS.iconst X123.here hx rfl (hb hby d1_28) ?_
        refine XS.iloadN X123.here hx rfl (hb hby d1_29) rfl ?_
        show Steps p.tables e below (T123.setTop (mkF m 30 #[.val (.int p0), .val (.int d0), .val (.int d1), .val (.int d2), .val (.int d3), .val (.int d4), .val (.int d5)] [(.int d0), (.int (0 : Int32)), (.ref b123), (.ref b123), (.ref b121), (.ref b121)])) _
        refine st125 _ ?_
        exact k
      by_cases hlat128 : ∀ c ∈ ([d0] : List Int32), ¬ (255 : Int32) < c
      · have hp130 : ∀ c ∈ ([d0] : List Int32), ¬ c < 0 ∧ ¬ (255 : Int32) < c := fun c hc => ⟨(hqm127 c hc).1, hlat128 c hc⟩
        have hws131 : ∀ d ∈ StrChars.Road.words, d.before a0 Z = true := fun d hd => hw d ((by decide +kernel : ∀ d ∈ StrChars.Road.words, d ∈ tables_1) d hd)
        have O132 : Old Z n0 h123 := Old.ext O122 E123
        have O133 : Old Z n0 h125 := Old.wr O132 W125 g_b123
        have c134 : Exa Z h125 b121 "java/lang/String" := (Exa.wr W125 (Exa.ext E123 A121))
        have c135 : Fld Z h125 b121 "java/lang/String" "value" "[B" .null := (Fld.other W125 (Fld.ext E123 (show Fld Z h121 b121 "java/lang/String" "value" "[B" .null from D121 (Or.inr (hwk hw 22 rfl)) (ty := (.array .byte)) (by decide))) (Or.inl (Exa.neArv c134 Ac126 (hwk hw 7 rfl))))
        have c136 : Fld Z h125 b121 "java/lang/String" "coder" "B" (.int (0 : Int32)) := (Fld.other W125 (Fld.ext E123 (show Fld Z h121 b121 "java/lang/String" "coder" "B" (.int (0 : Int32)) from D121 (Or.inr (hwk hw 23 rfl)) (ty := .byte) (by decide))) (Or.inl (Exa.neArv c134 Ac126 (hwk hw 7 rfl))))
        have c137 : Sta Z h125 "java/lang/String" "COMPACT_STRINGS" "Z" (.int zc) := Sta.ext (O133).2 SZ
        obtain ⟨_, _, ⟨T138, L138, k138, n138⟩, -, X138, ⟨Lc138, hQ138, l138, y138, z138⟩, st138⟩ := X125.specialBack hx (y := (⟨"java/lang/String", "<init>", "([C)V"⟩ : MethodName)) rfl hown (mvT hZ (hwk hw 10 rfl)) (mvT hZ (hwk hw 11 rfl)) (mvT hZ (hwk hw 12 rfl)) (by decide) (StrChars.Road.backV (W := 1) hZ hws131 (kI := 4) (hwk hw 7 rfl) (cs := ([d0] : List Int32)) (bs := (([d0] : List Int32)).map (fun c => c.toInt8.toInt32)) (n := 1) g_b121 (old_le O133) c134 c135 c136 Ac126 c137 PZ rfl rfl (by decide) (by decide) hp130 rfl (by decide) (by decide)) (g := (mkF m 31 #[.val (.int p0), .val (.int d0), .val (.int d1), .val (.int d2), .val (.int d3), .val (.int d4), .val (.int d5)] [(.ref b123), (.ref b121), (.ref b121)])) rfl (by rw [hml]; rfl) (Steps.refl _) (a := b121) (argsL := [(.ref b123)]) (rest := [(.ref b121)]) (lenOf pd_23 rfl) rfl (by show 2 * 0 + _ ≤ _; exact Nat.le_of_eq rfl) (hb hby d1_31) (fun _ _ => ⟨rfl, e125, (by decide : 2 + 1 ≤ _), (by decide : 5 + 1 ≤ _)⟩)
        dsimp only [Pt.U, Pt.locs, Pt.cells, Pt.slots] at X138 l138 y138 z138 st138 hQ138
        subst l138 y138 z138
        unfold StrChars.Road.QV at hQ138
        obtain ⟨rfl, N138q, K138, E138x, C138, t138, kb138, g_t138, ge_t138, ne138, V138, A138⟩ := hQ138
        have N138 := Fr.app N125 N138q
        have K139 : Keep h0 h121 [] := Keep.ext (Keep.refl h0 []) E121
        have K140 : Keep h0 h123 [] := Keep.ext K139 E123
        have K141 : Keep h0 h125 [] := Keep.wr K140 W125 (Or.inr (Nat.le_trans (Nat.le_trans (Nat.le_refl _) E121.1) (Nat.le_of_eq g123.symm)))
        have K142 : Keep h0 T138.heap [] := Keep.trans K141 K138 (allS (Or.inr (Nat.le_trans (Nat.le_refl _) (Nat.le_of_eq g121.symm))) all0)
        have CR143 : CHr Z consts_1 s.vm h0 s.vm h121 := CHr.trans CR0 (CHr.ext E121 CR0.1)
        have CR144 : CHr Z consts_1 s.vm h0 s.vm h123 := CHr.trans CR143 (CHr.ext E123 CR143.1)
        have Sf145 : Safe Z consts_1 s.vm h121 b123 := Safe.new (Nat.le_of_eq g123.symm)
        have Sf146 : Safe Z consts_1 s.vm h123 b123 := (Safe.ext E123 CR143.1 Sf145)
        have CR147 : CHr Z consts_1 s.vm h0 s.vm h125 := CHr.trans CR144 (CHr.wr W125 Sf146 CR144.1)
        have Sf148 : Safe Z consts_1 s.vm h0 b121 := Safe.new (Nat.le_of_eq g121.symm)
        have Sf149 : Safe Z consts_1 s.vm h125 b121 := (Safe.wr W125 Sf146 CR144.1 (Safe.ext E123 CR143.1 (Safe.ext E121 CR0.1 Sf148)))
        have CR150 : CHr Z consts_1 s.vm h0 s.vm T138.heap := CHr.trans CR147 (CHr.keep K138 (allS Sf149 all0) CR147.1)
        obtain ⟨fs, hr, hrun, hended, hRE⟩ := X138.leaveW hS0 (show _ ≤ T138.heap.size from by rw [(rfl : T138.heap = T138.heap)]; exact (Nat.le_trans (Nat.le_refl _) (Nat.le_trans (Nat.le_trans (Nat.le_trans (Nat.le_trans (Nat.le_refl _) E121.1) E123.1) (Nat.le_of_eq W125.size.symm)) K138.1))) (v := some (.ref b121)) (fun h => by rw [Bd.returns] at h; cases h)
        have CRl : CHr Z consts_1 s.vm s.heap (T138.setFrames fs).vm (T138.setFrames fs).heap := by
          have q := CHr.trans CR150 (CHv.at X138 hZ hEL CR150.1)
          rw [← hh, ← (rfl : T138.heap = T138.heap)] at q
          exact q
        refine ⟨_, _, S129 _ ?_, hrun, hended, _, _, rfl, ?_, CRl, hRE.1, hRE.2.1, hRE.2.2.1, hRE.2.2.2.mono (by decide) (by decide)⟩
        · show Steps p.tables e below (T125.setTop (mkF m 31 #[.val (.int p0), .val (.int d0), .val (.int d1), .val (.int d2), .val (.int d3), .val (.int d4), .val (.int d5)] [(.ref b123), (.ref b121), (.ref b121)])) _
          refine st138.trans ?_
          show Steps p.tables e below (T138.setTop (mkF m 34 #[.val (.int p0), .val (.int d0), .val (.int d1), .val (.int d2), .val (.int d3), .val (.int d4), .val (.int d5)] [(.ref b121)])) _
          exact Jvm.RoadKit.retOut X138 hx Bd.returns rfl (Or.inr (Or.inr (Or.inr (Or.inr ⟨rfl, rfl, rfl⟩)))) (hb hby d1_34) hr
        · show Q_rm1 Z p0 d0 d1 d2 d3 d4 d5 zc h0 n0 _ T138.heap _
          unfold Q_rm1
          exact ⟨b121, t138, kb138, (0 : Int32), (1 : Int32), (((([d0] : List Int32)).map (fun c => c.toInt8.toInt32)).map Value.int), rfl, N138, K142, (Nat.le_trans (Nat.le_refl _) (Nat.le_of_eq g121.symm)), E138x, V138, C138, A138, (by rw [show (CS p0 d0 d1 d2 d3 d4 d5) = ([d0] : List Int32) from (by unfold CS; rw [if_neg hc101, if_pos hc119])]; exact StrChars.Road.codOf rfl hlat128)⟩
      · have c151 : Exa Z h125 b121 "java/lang/String" := (Exa.wr W125 (Exa.ext E123 A121))
        have c152 : Fld Z h125 b121 "java/lang/String" "value" "[B" .null := (Fld.other W125 (Fld.ext E123 (show Fld Z h121 b121 "java/lang/String" "value" "[B" .null from D121 (Or.inr (hwk hw 22 rfl)) (ty := (.array .byte)) (by decide))) (Or.inl (Exa.neArv c151 Ac126 (hwk hw 7 rfl))))
        have c153 : Fld Z h125 b121 "java/lang/String" "coder" "B" (.int (0 : Int32)) := (Fld.other W125 (Fld.ext E123 (show Fld Z h121 b121 "java/lang/String" "coder" "B" (.int (0 : Int32)) from D121 (Or.inr (hwk hw 23 rfl)) (ty := .byte) (by decide))) (Or.inl (Exa.neArv c151 Ac126 (hwk hw 7 rfl))))
        have O154 : Old Z n0 h123 := Old.ext O122 E123
        have O155 : Old Z n0 h125 := Old.wr O154 W125 g_b123
        obtain ⟨_, _, ⟨T156, L156, k156, n156⟩, -, X156, ⟨Lc156, hQ156, l156, y156, z156⟩, st156⟩ := X125.specialBack hx (y := (⟨"java/lang/String", "<init>", "([C)V"⟩ : MethodName)) rfl hown (mvT hZ (hwk hw 10 rfl)) (mvT hZ (hwk hw 11 rfl)) (mvT hZ (hwk hw 12 rfl)) (by decide) (backOf (W := 1) (w2 l Z a0 hw [] b121 b123 k123 (.int (0 : Int32)) ([d0] : List Int32) zc h125 n0 O155 c151 g_b121 c152 c153 (Ne.symm (Exa.neArv c151 Ac126 (hwk hw 7 rfl))) Ac126 (Nat.le_of_ble_eq_true rfl) hqm127 (own_nall hlat128) (Nat.le_of_ble_eq_true rfl) SZ PZ SA SH SL) hZ (hwk hw 12 rfl) (hwk hw 8 rfl) (by decide) (by decide)) (g := (mkF m 31 #[.val (.int p0), .val (.int d0), .val (.int d1), .val (.int d2), .val (.int d3), .val (.int d4), .val (.int d5)] [(.ref b123), (.ref b121), (.ref b121)])) rfl (by rw [hml]; rfl) (Steps.refl _) (a := b121) (argsL := [(.ref b123)]) (rest := [(.ref b121)]) (lenOf pd_23 rfl) rfl (by show 2 * 0 + _ ≤ _; exact Nat.le_of_eq rfl) (hb hby d1_31) (fun _ _ => ⟨rfl, e125, (by decide : 2 + 2 ≤ _), (by decide : 5 + 18 ≤ _)⟩)
        dsimp only [Pt.U, Pt.locs, Pt.cells, Pt.slots] at X156 l156 y156 z156 st156 hQ156
        subst l156 y156 z156
        unfold Q_w2 at hQ156
        obtain ⟨o_156, ko_156, rfl, N156q, K156, f156_0, f156_1, f156_2, f156_3⟩ := hQ156
        have N156 := Fr.app N125 N156q
        have K157 : Keep h0 h121 [] := Keep.ext (Keep.refl h0 []) E121
        have K158 : Keep h0 h123 [] := Keep.ext K157 E123
        have K159 : Keep h0 h125 [] := Keep.wr K158 W125 (Or.inr (Nat.le_trans (Nat.le_trans (Nat.le_refl _) E121.1) (Nat.le_of_eq g123.symm)))
        have K160 : Keep h0 T156.heap [] := Keep.trans K159 K156 (allS (Or.inr (Nat.le_trans (Nat.le_refl _) (Nat.le_of_eq g121.symm))) all0)
        have CR161 : CHr Z consts_1 s.vm h0 s.vm h121 := CHr.trans CR0 (CHr.ext E121 CR0.1)
        have CR162 : CHr Z consts_1 s.vm h0 s.vm h123 := CHr.trans CR161 (CHr.ext E123 CR161.1)
        have Sf163 : Safe Z consts_1 s.vm h121 b123 := Safe.new (Nat.le_of_eq g123.symm)
        have Sf164 : Safe Z consts_1 s.vm h123 b123 := (Safe.ext E123 CR161.1 Sf163)
        have CR165 : CHr Z consts_1 s.vm h0 s.vm h125 := CHr.trans CR162 (CHr.wr W125 Sf164 CR162.1)
        have Sf166 : Safe Z consts_1 s.vm h0 b121 := Safe.new (Nat.le_of_eq g121.symm)
        have Sf167 : Safe Z consts_1 s.vm h125 b121 := (Safe.wr W125 Sf164 CR162.1 (Safe.ext E123 CR161.1 (Safe.ext E121 CR0.1 Sf166)))
        have CR168 : CHr Z consts_1 s.vm h0 s.vm T156.heap := CHr.trans CR165 (CHr.keep K156 (allS Sf167 all0) CR165.1)
        obtain ⟨fs, hr, hrun, hended, hRE⟩ := X156.leaveW hS0 (show _ ≤ T156.heap.size from by rw [(rfl : T156.heap = T156.heap)]; exact (Nat.le_trans (Nat.le_refl _) (Nat.le_trans (Nat.le_trans (Nat.le_trans (Nat.le_trans (Nat.le_refl _) E121.1) E123.1) (Nat.le_of_eq W125.size.symm)) K156.1))) (v := some (.ref b121)) (fun h => by rw [Bd.returns] at h; cases h)
        have CRl : CHr Z consts_1 s.vm s.heap (T156.setFrames fs).vm (T156.setFrames fs).heap := by
          have q := CHr.trans CR168 (CHv.at X156 hZ hEL CR168.1)
          rw [← hh, ← (rfl : T156.heap = T156.heap)] at q
          exact q
        refine ⟨_, _, S129 _ ?_, hrun, hended, _, _, rfl, ?_, CRl, hRE.1, hRE.2.1, hRE.2.2.1, hRE.2.2.2.mono (by decide) (by decide)⟩
        · show Steps p.tables e below (T125.setTop (mkF m 31 #[.val (.int p0), .val (.int d0), .val (.int d1), .val (.int d2), .val (.int d3), .val (.int d4), .val (.int d5)] [(.ref b123), (.ref b121), (.ref b121)])) _
          refine st156.trans ?_
          show Steps p.tables e below (T156.setTop (mkF m 34 #[.val (.int p0), .val (.int d0), .val (.int d1), .val (.int d2), .val (.int d3), .val (.int d4), .val (.int d5)] [(.ref b121)])) _
          exact Jvm.RoadKit.retOut X156 hx Bd.returns rfl (Or.inr (Or.inr (Or.inr (Or.inr ⟨rfl, rfl, rfl⟩)))) (hb hby d1_34) hr
        · show Q_rm1 Z p0 d0 d1 d2 d3 d4 d5 zc h0 n0 _ T156.heap _
          unfold Q_rm1
          exact ⟨b121, o_156, ko_156, (1 : Int32), (Int32.ofNat (2 * ([d0] : List Int32).length)), (wideBytes ([d0] : List Int32)), rfl, N156, K160, (Nat.le_trans (Nat.le_refl _) (Nat.le_of_eq g121.symm)), f156_0, f156_2, f156_1, f156_3, (by rw [show (CS p0 d0 d1 d2 d3 d4 d5) = ([d0] : List Int32) from (by unfold CS; rw [if_neg hc101, if_pos hc119])]; exact Or.inr ⟨rfl, rfl, rfl, own_nex hlat128⟩)⟩
    · have S170 : ∀ t, Steps p.tables e below (s₁.setTop (mkF m 37 #[.val (.int p0), .val (.int d0), .val (.int d1), .val (.int d2), .val (.int d3), .val (.int d4), .val (.int d5)] [(.int (2 : Int32)), (.int p0)])) t → Steps p.tables e below (s₁.setTop (entryFrame m #[(.int p0), (.int d0), (.int d1), (.int d2), (.int d3), (.int d4), (.int d5)] 7)) t := fun t k => by
        refine S120 t ?_
        show Steps p.tables e below (s₁.setTop (mkF m 17 #[.val (.int p0), .val (.int d0), .val (.int d1), .val (.int d2), .val (.int d3), .val (.int d4), .val (.int d5)] [(.int (1 : Int32)), (.int p0)])) _
        refine XS.icmpYes X0.here hx rfl (pc0 := 17) (pc' := 35) rfl (hb hby d1_17) rfl (feq hc119).2 (by decide) (by decide) ?_
        show Steps p.tables e below (s₁.setTop (mkF m 35 #[.val (.int p0), .val (.int d0), .val (.int d1), .val (.int d2), .val (.int d3), .val (.int d4), .val (.int d5)] [])) _
        refine XS.iloadN X0.here hx rfl (hb hby d1_35) rfl ?_
        refine XS.iconst X0.here hx rfl (hb hby d1_36) ?_
        exact k
      by_cases hc169 : p0 = (2 : Int32)
      · obtain ⟨T171, h171, X171, e171, E171, A171, D171, -, st171⟩ := newO X0 hx hZ hown (hwk hw 6 rfl) (hwk hw 7 rfl) (hwk hw 8 rfl) e0 (g := (mkF m 40 #[.val (.int p0), .val (.int d0), .val (.int d1), .val (.int d2), .val (.int d3), .val (.int d4), .val (.int d5)] [])) rfl (hb hby d1_40) (by decide) (by decide)
        obtain ⟨b171, g171⟩ : ∃ z, z = h0.size := ⟨_, rfl⟩
        rw [← g171] at A171 D171 st171
        have g_b171 : n0 ≤ b171 := Nat.le_trans (old_le O0) (Nat.le_of_eq g171.symm)
        have O172 : Old Z n0 h171 := Old.ext O0 E171
        obtain ⟨T173, h173, k173, X173, e173, E173, A173, st173⟩ := newP X171 hx hZ (hwk hw 9 rfl) e171 (g := (mkF m 45 #[.val (.int p0), .val (.int d0), .val (.int d1), .val (.int d2), .val (.int d3), .val (.int d4), .val (.int d5)] [(.int (2 : Int32)), (.ref b171), (.ref b171)])) rfl (hb hby d1_45) rfl (by decide) (cap := 2) (by decide) (by decide) (by decide) (by decide)
        obtain ⟨b173, g173⟩ : ∃ z, z = h171.size := ⟨_, rfl⟩
        rw [← g173] at A173 st173
        have g_b173 : n0 ≤ b173 := Nat.le_trans (old_le O172) (Nat.le_of_eq g173.symm)
        have V173 : Arv Z h173 b173 k173 .char (2 : Int32) [(.int (0 : Int32)), (.int (0 : Int32))] (.int (0 : Int32)) := (Arv.new A173 (by decide)).pad (pad_rep [] (.int (0 : Int32)) 2)
        obtain ⟨clq174, Arq174, kqq174, Szq174, Nnq174, Hsq174, Gsq174⟩ := id V173
        have hinq174 : ¬ ((0 : Int32) < 0 ∨ clq174.slots.size ≤ ((0 : Int32)).toNatClampNeg) := inb_of Szq174 ⟨by decide, by decide⟩
        obtain ⟨T175, h175, X175, e175, W175, st175⟩ := stC X173 hx hZ e173 Arq174 (j := (0 : Int32)) hinq174 (g := (mkF m 50 #[.val (.int p0), .val (.int d0), .val (.int d1), .val (.int d2), .val (.int d3), .val (.int d4), .val (.int d5)] [(.int d0), (.int (0 : Int32)), (.ref b173), (.ref b173), (.ref b171), (.ref b171)])) rfl rfl (hb hby d1_50)
        have V175 : Arv Z h175 b173 k173 .char (2 : Int32) [(.int (nar .char d0)), (.int (0 : Int32))] (.int (0 : Int32)) := Arv.set Arq174 kqq174 Szq174 Nnq174 Hsq174 Gsq174 (fits_nar_char _) W175 0 rfl (Nat.le_of_ble_eq_true rfl)
        have N175 := Fr.snoc X175 N0 g_b173
        obtain ⟨clq176, Arq176, kqq176, Szq176, Nnq176, Hsq176, Gsq176⟩ := id V175
        have hinq176 : ¬ ((1 : Int32) < 0 ∨ clq176.slots.size ≤ ((1 : Int32)).toNatClampNeg) := inb_of Szq176 ⟨by decide, by decide⟩
        obtain ⟨T177, h177, X177, e177, W177, st177⟩ := stC X175 hx hZ e175 Arq176 (j := (1 : Int32)) hinq176 (g := (mkF m 54 #[.val (.int p0), .val (.int d0), .val (.int d1), .val (.int d2), .val (.int d3), .val (.int d4), .val (.int d5)] [(.int d1), (.int (1 : Int32)), (.ref b173), (.ref b173), (.ref b171), (.ref b171)])) rfl rfl (hb hby d1_54)
        have V177 : Arv Z h177 b173 k173 .char (2 : Int32) [(.int (nar .char d0)), (.int (nar .char d1))] (.int (0 : Int32)) := Arv.set Arq176 kqq176 Szq176 Nnq176 Hsq176 Gsq176 (fits_nar_char _) W177 1 rfl (Nat.le_of_ble_eq_true rfl)
        have N177 := Fr.snoc X177 N175 g_b173
        have Ac178 : Arv Z h177 b173 k173 .char (2 : Int32) [(.int d0), (.int d1)] (.int (0 : Int32)) := own_arv V177 (by rw [own_nar16 g0, own_nar16 g1])
        have hqm179 : ∀ c ∈ ([d0, d1] : List Int32), C16 c := by
          intro c hc
          simp only [List.mem_cons, List.not_mem_nil, or_false] at hc
          rcases hc with rfl | rfl
          · exact g0
          · exact g1
        have S181 : ∀ t, Steps p.tables e below (T177.setTop (mkF m 55 #[.val (.int p0), .val (.int d0), .val (.int d1), .val (.int d2), .val (.int d3), .val (.int d4), .val (.int d5)] [(.ref b173), (.ref b171), (.ref b171)])) t → Steps p.tables e below (s₁.setTop (entryFrame m #[(.int p0), (.int d0), (.int d1), (.int d2), (.int d3), (.int d4), (.int d5)] 7)) t := fun t k => by
          refine S170 t ?_
          show Steps p.tables e below (s₁.setTop (mkF m 37 #[.val (.int p0), .val (.int d0), .val (.int d1), .val (.int d2), .val (.int d3), .val (.int d4), .val (.int d5)] [(.int (2 : Int32)), (.int p0)])) _
          refine XS.icmpNo X0.here hx rfl (hb hby d1_37) rfl (teq hc169).2 ?_
          show Steps p.tables e below (s₁.setTop (mkF m 40 #[.val (.int p0), .val (.int d0), .val (.int d1), .val (.int d2), .val (.int d3), .val (.int d4), .val (.int d5)] [])) _
          refine st171 _ ?_
          show Steps p.tables e below (T171.setTop (mkF m 43 #[.val (.int p0), .val (.int d0), .val (.int d1), .val (.int d2), .val (.int d3), .val (.int d4), .val (.int d5)] [(.ref b171)])) _
          refine XS.dup X171.here hx rfl (hb hby d1_43) rfl rfl ?_
          show Steps p.tables e below (T171.setTop (mkF m 44 #[.val (.int p0), .val (.int d0), .val (.int d1), .val (.int d2), .val (.int d3), .val (.int d4), .val (.int d5)] [(.ref b171), (.ref b171)])) _
          refine XS.iconst X171.here hx rfl (hb hby d1_44) ?_
          show Steps p.tables e below (T171.setTop (mkF m 45 #[.val (.int p0), .val (.int d0), .val (.int d1), .val (.int d2), .val (.int d3), .val (.int d4), .val (.int d5)] [(.int (2 : Int32)), (.ref b171), (.ref b171)])) _
          refine st173 _ ?_
          show Steps p.tables e below (T173.setTop (mkF m 47 #[.val (.int p0), .val (.int d0), .val (.int d1), .val (.int d2), .val (.int d3), .val (.int d4), .val (.int d5)] [(.ref b173), (.ref b171), (.ref b171)])) _
          refine XS.dup X173.here hx rfl (hb hby d1_47) rfl rfl ?_
          show Steps p.tables e below (T173.setTop (mkF m 48 #[.val (.int p0), .val (.int d0), .val (.int d1), .val (.int d2), .val (.int d3), .val (.int d4), .val (.int d5)] [(.ref b173), (.ref b173), (.ref b171), (.ref b171)])) _
          refine XS.iconst X173.here hx rfl (hb hby d1_48) ?_
          refine XS.iloadN X173.here hx rfl (hb hby d1_49) rfl ?_
          show Steps p.tables e below (T173.setTop (mkF m 50 #[.val (.int p0), .val (.int d0), .val (.int d1), .val (.int d2), .val (.int d3), .val (.int d4), .val (.int d5)] [(.int d0), (.int (0 : Int32)), (.ref b173), (.ref b173), (.ref b171), (.ref b171)])) _
          refine st175 _ ?_
          show Steps p.tables e below (T175.setTop (mkF m 51 #[.val (.int p0), .val (.int d0), .val (.int d1), .val (.int d2), .val (.int d3), .val (.int d4), .val (.int d5)] [(.ref b173), (.ref b171), (.ref b171)])) _
          refine XS.dup X175.here hx rfl (hb hby d1_51) rfl rfl ?_
          show Steps p.tables e below (T175.setTop (mkF m 52 #[.val (.int p0), .val (.int d0), .val (.int d1), .val (.int d2), .val (.int d3), .val (.int d4), .val (.int d5)] [(.ref b173), (.ref b173), (.ref b171), (.ref b171)])) _
          refine XS.iconst X175.here hx rfl (hb hby d1_52) ?_
          refine XS.iloadN X175.here hx rfl (hb hby d1_53) rfl ?_
          show Steps p.tables e below (T175.setTop (mkF m 54 #[.val (.int p0), .val (.int d0), .val (.int d1), .val (.int d2), .val (.int d3), .val (.int d4), .val (.int d5)] [(.int d1), (.int (1 : Int32)), (.ref b173), (.ref b173), (.ref b171), (.ref b171)])) _
          refine st177 _ ?_
          exact k
        by_cases hlat180 : ∀ c ∈ ([d0, d1] : List Int32), ¬ (255 : Int32) < c
        · have hp182 : ∀ c ∈ ([d0, d1] : List Int32), ¬ c < 0 ∧ ¬ (255 : Int32) < c := fun c hc => ⟨(hqm179 c hc).1, hlat180 c hc⟩
          have hws183 : ∀ d ∈ StrChars.Road.words, d.before a0 Z = true := fun d hd => hw d ((by decide +kernel : ∀ d ∈ StrChars.Road.words, d ∈ tables_1) d hd)
          have O184 : Old Z n0 h173 := Old.ext O172 E173
          have O185 : Old Z n0 h175 := Old.wr O184 W175 g_b173
          have O186 : Old Z n0 h177 := Old.wr O185 W177 g_b173
          have c187 : Exa Z h177 b171 "java/lang/String" := (Exa.wr W177 (Exa.wr W175 (Exa.ext E173 A171)))
          have c188 : Fld Z h177 b171 "java/lang/String" "value" "[B" .null := (Fld.other W177 (Fld.other W175 (Fld.ext E173 (show Fld Z h171 b171 "java/lang/String" "value" "[B" .null from D171 (Or.inr (hwk hw 22 rfl)) (ty := (.array .byte)) (by decide))) (Or.inl (Exa.neArv c187 Ac178 (hwk hw 7 rfl)))) (Or.inl (Exa.neArv c187 Ac178 (hwk hw 7 rfl))))
          have c189 : Fld Z h177 b171 "java/lang/String" "coder" "B" (.int (0 : Int32)) := (Fld.other W177 (Fld.other W175 (Fld.ext E173 (show Fld Z h171 b171 "java/lang/String" "coder" "B" (.int (0 : Int32)) from D171 (Or.inr (hwk hw 23 rfl)) (ty := .byte) (by decide))) (Or.inl (Exa.neArv c187 Ac178 (hwk hw 7 rfl)))) (Or.inl (Exa.neArv c187 Ac178 (hwk hw 7 rfl))))
          have c190 : Sta Z h177 "java/lang/String" "COMPACT_STRINGS" "Z" (.int zc) := Sta.ext (O186).2 SZ
          obtain ⟨_, _, ⟨T191, L191, k191, n191⟩, -, X191, ⟨Lc191, hQ191, l191, y191, z191⟩, st191⟩ := X177.specialBack hx (y := (⟨"java/lang/String", "<init>", "([C)V"⟩ : MethodName)) rfl hown (mvT hZ (hwk hw 10 rfl)) (mvT hZ (hwk hw 11 rfl)) (mvT hZ (hwk hw 12 rfl)) (by decide) (StrChars.Road.backV (W := 1) hZ hws183 (kI := 4) (hwk hw 7 rfl) (cs := ([d0, d1] : List Int32)) (bs := (([d0, d1] : List Int32)).map (fun c => c.toInt8.toInt32)) (n := 2) g_b171 (old_le O186) c187 c188 c189 Ac178 c190 PZ rfl rfl (by decide) (by decide) hp182 rfl (by decide) (by decide)) (g := (mkF m 55 #[.val (.int p0), .val (.int d0), .val (.int d1), .val (.int d2), .val (.int d3), .val (.int d4), .val (.int d5)] [(.ref b173), (.ref b171), (.ref b171)])) rfl (by rw [hml]; rfl) (Steps.refl _) (a := b171) (argsL := [(.ref b173)]) (rest := [(.ref b171)]) (lenOf pd_23 rfl) rfl (by show 2 * 0 + _ ≤ _; exact Nat.le_of_eq rfl) (hb hby d1_55) (fun _ _ => ⟨rfl, e177, (by decide : 2 + 1 ≤ _), (by decide : 6 + 2 ≤ _)⟩)
          dsimp only [Pt.U, Pt.locs, Pt.cells, Pt.slots] at X191 l191 y191 z191 st191 hQ191
          subst l191 y191 z191
          unfold StrChars.Road.QV at hQ191
          obtain ⟨rfl, N191q, K191, E191x, C191, t191, kb191, g_t191, ge_t191, ne191, V191, A191⟩ := hQ191
          have N191 := Fr.app N177 N191q
          have K192 : Keep h0 h171 [] := Keep.ext (Keep.refl h0 []) E171
          have K193 : Keep h0 h173 [] := Keep.ext K192 E173
          have K194 : Keep h0 h175 [] := Keep.wr K193 W175 (Or.inr (Nat.le_trans (Nat.le_trans (Nat.le_refl _) E171.1) (Nat.le_of_eq g173.symm)))
          have K195 : Keep h0 h177 [] := Keep.wr K194 W177 (Or.inr (Nat.le_trans (Nat.le_trans (Nat.le_refl _) E171.1) (Nat.le_of_eq g173.symm)))
          have K196 : Keep h0 T191.heap [] := Keep.trans K195 K191 (allS (Or.inr (Nat.le_trans (Nat.le_refl _) (Nat.le_of_eq g171.symm))) all0)
          have CR197 : CHr Z consts_1 s.vm h0 s.vm h171 := CHr.trans CR0 (CHr.ext E171 CR0.1)
          have CR198 : CHr Z consts_1 s.vm h0 s.vm h173 := CHr.trans CR197 (CHr.ext E173 CR197.1)
          have Sf199 : Safe Z consts_1 s.vm h171 b173 := Safe.new (Nat.le_of_eq g173.symm)
          have Sf200 : Safe Z consts_1 s.vm h173 b173 := (Safe.ext E173 CR197.1 Sf199)
          have CR201 : CHr Z consts_1 s.vm h0 s.vm h175 := CHr.trans CR198 (CHr.wr W175 Sf200 CR198.1)
          have Sf202 : Safe Z consts_1 s.vm h175 b173 := (Safe.wr W175 Sf200 CR198.1 Sf200)
          have CR203 : CHr Z consts_1 s.vm h0 s.vm h177 := CHr.trans CR201 (CHr.wr W177 Sf202 CR201.1)
          have Sf204 : Safe Z consts_1 s.vm h0 b171 := Safe.new (Nat.le_of_eq g171.symm)
          have Sf205 : Safe Z consts_1 s.vm h177 b171 := (Safe.wr W177 Sf202 CR201.1 (Safe.wr W175 Sf200 CR198.1 (Safe.ext E173 CR197.1 (Safe.ext E171 CR0.1 Sf204))))
          have CR206 : CHr Z consts_1 s.vm h0 s.vm T191.heap := CHr.trans CR203 (CHr.keep K191 (allS Sf205 all0) CR203.1)
          obtain ⟨fs, hr, hrun, hended, hRE⟩ := X191.leaveW hS0 (show _ ≤ T191.heap.size from by rw [(rfl : T191.heap = T191.heap)]; exact (Nat.le_trans (Nat.le_refl _) (Nat.le_trans (Nat.le_trans (Nat.le_trans (Nat.le_trans (Nat.le_trans (Nat.le_refl _) E171.1) E173.1) (Nat.le_of_eq W175.size.symm)) (Nat.le_of_eq W177.size.symm)) K191.1))) (v := some (.ref b171)) (fun h => by rw [Bd.returns] at h; cases h)
          have CRl : CHr Z consts_1 s.vm s.heap (T191.setFrames fs).vm (T191.setFrames fs).heap := by
            have q := CHr.trans CR206 (CHv.at X191 hZ hEL CR206.1)
            rw [← hh, ← (rfl : T191.heap = T191.heap)] at q
            exact q
          refine ⟨_, _, S181 _ ?_, hrun, hended, _, _, rfl, ?_, CRl, hRE.1, hRE.2.1, hRE.2.2.1, hRE.2.2.2.mono (by decide) (by decide)⟩
          · show Steps p.tables e below (T177.setTop (mkF m 55 #[.val (.int p0), .val (.int d0), .val (.int d1), .val (.int d2), .val (.int d3), .val (.int d4), .val (.int d5)] [(.ref b173), (.ref b171), (.ref b171)])) _
            refine st191.trans ?_
            show Steps p.tables e below (T191.setTop (mkF m 58 #[.val (.int p0), .val (.int d0), .val (.int d1), .val (.int d2), .val (.int d3), .val (.int d4), .val (.int d5)] [(.ref b171)])) _
            exact Jvm.RoadKit.retOut X191 hx Bd.returns rfl (Or.inr (Or.inr (Or.inr (Or.inr ⟨rfl, rfl, rfl⟩)))) (hb hby d1_58) hr
          · show Q_rm1 Z p0 d0 d1 d2 d3 d4 d5 zc h0 n0 _ T191.heap _
            unfold Q_rm1
            exact ⟨b171, t191, kb191, (0 : Int32), (2 : Int32), (((([d0, d1] : List Int32)).map (fun c => c.toInt8.toInt32)).map Value.int), rfl, N191, K196, (Nat.le_trans (Nat.le_refl _) (Nat.le_of_eq g171.symm)), E191x, V191, C191, A191, (by rw [show (CS p0 d0 d1 d2 d3 d4 d5) = ([d0, d1] : List Int32) from (by unfold CS; rw [if_neg hc101, if_neg hc119, if_pos hc169])]; exact StrChars.Road.codOf rfl hlat180)⟩
        · have c207 : Exa Z h177 b171 "java/lang/String" := (Exa.wr W177 (Exa.wr W175 (Exa.ext E173 A171)))
          have c208 : Fld Z h177 b171 "java/lang/String" "value" "[B" .null := (Fld.other W177 (Fld.other W175 (Fld.ext E173 (show Fld Z h171 b171 "java/lang/String" "value" "[B" .null from D171 (Or.inr (hwk hw 22 rfl)) (ty := (.array .byte)) (by decide))) (Or.inl (Exa.neArv c207 Ac178 (hwk hw 7 rfl)))) (Or.inl (Exa.neArv c207 Ac178 (hwk hw 7 rfl))))
          have c209 : Fld Z h177 b171 "java/lang/String" "coder" "B" (.int (0 : Int32)) := (Fld.other W177 (Fld.other W175 (Fld.ext E173 (show Fld Z h171 b171 "java/lang/String" "coder" "B" (.int (0 : Int32)) from D171 (Or.inr (hwk hw 23 rfl)) (ty := .byte) (by decide))) (Or.inl (Exa.neArv c207 Ac178 (hwk hw 7 rfl)))) (Or.inl (Exa.neArv c207 Ac178 (hwk hw 7 rfl))))
          have O210 : Old Z n0 h173 := Old.ext O172 E173
          have O211 : Old Z n0 h175 := Old.wr O210 W175 g_b173
          have O212 : Old Z n0 h177 := Old.wr O211 W177 g_b173
          obtain ⟨_, _, ⟨T213, L213, k213, n213⟩, -, X213, ⟨Lc213, hQ213, l213, y213, z213⟩, st213⟩ := X177.specialBack hx (y := (⟨"java/lang/String", "<init>", "([C)V"⟩ : MethodName)) rfl hown (mvT hZ (hwk hw 10 rfl)) (mvT hZ (hwk hw 11 rfl)) (mvT hZ (hwk hw 12 rfl)) (by decide) (backOf (W := 1) (w2 l Z a0 hw [] b171 b173 k173 (.int (0 : Int32)) ([d0, d1] : List Int32) zc h177 n0 O212 c207 g_b171 c208 c209 (Ne.symm (Exa.neArv c207 Ac178 (hwk hw 7 rfl))) Ac178 (Nat.le_of_ble_eq_true rfl) hqm179 (own_nall hlat180) (Nat.le_of_ble_eq_true rfl) SZ PZ SA SH SL) hZ (hwk hw 12 rfl) (hwk hw 8 rfl) (by decide) (by decide)) (g := (mkF m 55 #[.val (.int p0), .val (.int d0), .val (.int d1), .val (.int d2), .val (.int d3), .val (.int d4), .val (.int d5)] [(.ref b173), (.ref b171), (.ref b171)])) rfl (by rw [hml]; rfl) (Steps.refl _) (a := b171) (argsL := [(.ref b173)]) (rest := [(.ref b171)]) (lenOf pd_23 rfl) rfl (by show 2 * 0 + _ ≤ _; exact Nat.le_of_eq rfl) (hb hby d1_55) (fun _ _ => ⟨rfl, e177, (by decide : 2 + 2 ≤ _), (by decide : 6 + 18 ≤ _)⟩)
          dsimp only [Pt.U, Pt.locs, Pt.cells, Pt.slots] at X213 l213 y213 z213 st213 hQ213
          subst l213 y213 z213
          unfold Q_w2 at hQ213
          obtain ⟨o_213, ko_213, rfl, N213q, K213, f213_0, f213_1, f213_2, f213_3⟩ := hQ213
          have N213 := Fr.app N177 N213q
          have K214 : Keep h0 h171 [] := Keep.ext (Keep.refl h0 []) E171
          have K215 : Keep h0 h173 [] := Keep.ext K214 E173
          have K216 : Keep h0 h175 [] := Keep.wr K215 W175 (Or.inr (Nat.le_trans (Nat.le_trans (Nat.le_refl _) E171.1) (Nat.le_of_eq g173.symm)))
          have K217 : Keep h0 h177 [] := Keep.wr K216 W177 (Or.inr (Nat.le_trans (Nat.le_trans (Nat.le_refl _) E171.1) (Nat.le_of_eq g173.symm)))
          have K218 : Keep h0 T213.heap [] := Keep.trans K217 K213 (allS (Or.inr (Nat.le_trans (Nat.le_refl _) (Nat.le_of_eq g171.symm))) all0)
          have CR219 : CHr Z consts_1 s.vm h0 s.vm h171 := CHr.trans CR0 (CHr.ext E171 CR0.1)
          have CR220 : CHr Z consts_1 s.vm h0 s.vm h173 := CHr.trans CR219 (CHr.ext E173 CR219.1)
          have Sf221 : Safe Z consts_1 s.vm h171 b173 := Safe.new (Nat.le_of_eq g173.symm)
          have Sf222 : Safe Z consts_1 s.vm h173 b173 := (Safe.ext E173 CR219.1 Sf221)
          have CR223 : CHr Z consts_1 s.vm h0 s.vm h175 := CHr.trans CR220 (CHr.wr W175 Sf222 CR220.1)
          have Sf224 : Safe Z consts_1 s.vm h175 b173 := (Safe.wr W175 Sf222 CR220.1 Sf222)
          have CR225 : CHr Z consts_1 s.vm h0 s.vm h177 := CHr.trans CR223 (CHr.wr W177 Sf224 CR223.1)
          have Sf226 : Safe Z consts_1 s.vm h0 b171 := Safe.new (Nat.le_of_eq g171.symm)
          have Sf227 : Safe Z consts_1 s.vm h177 b171 := (Safe.wr W177 Sf224 CR223.1 (Safe.wr W175 Sf222 CR220.1 (Safe.ext E173 CR219.1 (Safe.ext E171 CR0.1 Sf226))))
          have CR228 : CHr Z consts_1 s.vm h0 s.vm T213.heap := CHr.trans CR225 (CHr.keep K213 (allS Sf227 all0) CR225.1)
          obtain ⟨fs, hr, hrun, hended, hRE⟩ := X213.leaveW hS0 (show _ ≤ T213.heap.size from by rw [(rfl : T213.heap = T213.heap)]; exact (Nat.le_trans (Nat.le_refl _) (Nat.le_trans (Nat.le_trans (Nat.le_trans (Nat.le_trans (Nat.le_trans (Nat.le_refl _) E171.1) E173.1) (Nat.le_of_eq W175.size.symm)) (Nat.le_of_eq W177.size.symm)) K213.1))) (v := some (.ref b171)) (fun h => by rw [Bd.returns] at h; cases h)
          have CRl : CHr Z consts_1 s.vm s.heap (T213.setFrames fs).vm (T213.setFrames fs).heap := by
            have q := CHr.trans CR228 (CHv.at X213 hZ hEL CR228.1)
            rw [← hh, ← (rfl : T213.heap = T213.heap)] at q
            exact q
          refine ⟨_, _, S181 _ ?_, hrun, hended, _, _, rfl, ?_, CRl, hRE.1, hRE.2.1, hRE.2.2.1, hRE.2.2.2.mono (by decide) (by decide)⟩
          · show Steps p.tables e below (T177.setTop (mkF m 55 #[.val (.int p0), .val (.int d0), .val (.int d1), .val (.int d2), .val (.int d3), .val (.int d4), .val (.int d5)] [(.ref b173), (.ref b171), (.ref b171)])) _
            refine st213.trans ?_
            show Steps p.tables e below (T213.setTop (mkF m 58 #[.val (.int p0), .val (.int d0), .val (.int d1), .val (.int d2), .val (.int d3), .val (.int d4), .val (.int d5)] [(.ref b171)])) _
            exact Jvm.RoadKit.retOut X213 hx Bd.returns rfl (Or.inr (Or.inr (Or.inr (Or.inr ⟨rfl, rfl, rfl⟩)))) (hb hby d1_58) hr
          · show Q_rm1 Z p0 d0 d1 d2 d3 d4 d5 zc h0 n0 _ T213.heap _
            unfold Q_rm1
            exact ⟨b171, o_213, ko_213, (1 : Int32), (Int32.ofNat (2 * ([d0, d1] : List Int32).length)), (wideBytes ([d0, d1] : List Int32)), rfl, N213, K218, (Nat.le_trans (Nat.le_refl _) (Nat.le_of_eq g171.symm)), f213_0, f213_2, f213_1, f213_3, (by rw [show (CS p0 d0 d1 d2 d3 d4 d5) = ([d0, d1] : List Int32) from (by unfold CS; rw [if_neg hc101, if_neg hc119, if_pos hc169])]; exact Or.inr ⟨rfl, rfl, rfl, own_nex hlat180⟩)⟩
      · have S230 : ∀ t, Steps p.tables e below (s₁.setTop (mkF m 61 #[.val (.int p0), .val (.int d0), .val (.int d1), .val (.int d2), .val (.int d3), .val (.int d4), .val (.int d5)] [(.int (3 : Int32)), (.int p0)])) t → Steps p.tables e below (s₁.setTop (entryFrame m #[(.int p0), (.int d0), (.int d1), (.int d2), (.int d3), (.int d4), (.int d5)] 7)) t := fun t k => by
          refine S170 t ?_
          show Steps p.tables e below (s₁.setTop (mkF m 37 #[.val (.int p0), .val (.int d0), .val (.int d1), .val (.int d2), .val (.int d3), .val (.int d4), .val (.int d5)] [(.int (2 : Int32)), (.int p0)])) _
          refine XS.icmpYes X0.here hx rfl (pc0 := 37) (pc' := 59) rfl (hb hby d1_37) rfl (feq hc169).2 (by decide) (by decide) ?_
          show Steps p.tables e below (s₁.setTop (mkF m 59 #[.val (.int p0), .val (.int d0), .val (.int d1), .val (.int d2), .val (.int d3), .val (.int d4), .val (.int d5)] [])) _
          refine XS.iloadN X0.here hx rfl (hb hby d1_59) rfl ?_
          refine XS.iconst X0.here hx rfl (hb hby d1_60) ?_
          exact k
        by_cases hc229 : p0 = (3 : Int32)
        · obtain ⟨T231, h231, X231, e231, E231, A231, D231, -, st231⟩ := newO X0 hx hZ hown (hwk hw 6 rfl) (hwk hw 7 rfl) (hwk hw 8 rfl) e0 (g := (mkF m 64 #[.val (.int p0), .val (.int d0), .val (.int d1), .val (.int d2), .val (.int d3), .val (.int d4), .val (.int d5)] [])) rfl (hb hby d1_64) (by decide) (by decide)
          obtain ⟨b231, g231⟩ : ∃ z, z = h0.size := ⟨_, rfl⟩
          rw [← g231] at A231 D231 st231
          have g_b231 : n0 ≤ b231 := Nat.le_trans (old_le O0) (Nat.le_of_eq g231.symm)
          have O232 : Old Z n0 h231 := Old.ext O0 E231
          obtain ⟨T233, h233, k233, X233, e233, E233, A233, st233⟩ := newP X231 hx hZ (hwk hw 9 rfl) e231 (g := (mkF m 69 #[.val (.int p0), .val (.int d0), .val (.int d1), .val (.int d2), .val (.int d3), .val (.int d4), .val (.int d5)] [(.int (3 : Int32)), (.ref b231), (.ref b231)])) rfl (hb hby d1_69) rfl (by decide) (cap := 3) (by decide) (by decide) (by decide) (by decide)
          obtain ⟨b233, g233⟩ : ∃ z, z = h231.size := ⟨_, rfl⟩
          rw [← g233] at A233 st233
          have g_b233 : n0 ≤ b233 := Nat.le_trans (old_le O232) (Nat.le_of_eq g233.symm)
          have V233 : Arv Z h233 b233 k233 .char (3 : Int32) [(.int (0 : Int32)), (.int (0 : Int32)), (.int (0 : Int32))] (.int (0 : Int32)) := (Arv.new A233 (by decide)).pad (pad_rep [] (.int (0 : Int32)) 3)
          obtain ⟨clq234, Arq234, kqq234, Szq234, Nnq234, Hsq234, Gsq234⟩ := id V233
          have hinq234 : ¬ ((0 : Int32) < 0 ∨ clq234.slots.size ≤ ((0 : Int32)).toNatClampNeg) := inb_of Szq234 ⟨by decide, by decide⟩
          obtain ⟨T235, h235, X235, e235, W235, st235⟩ := stC X233 hx hZ e233 Arq234 (j := (0 : Int32)) hinq234 (g := (mkF m 74 #[.val (.int p0), .val (.int d0), .val (.int d1), .val (.int d2), .val (.int d3), .val (.int d4), .val (.int d5)] [(.int d0), (.int (0 : Int32)), (.ref b233), (.ref b233), (.ref b231), (.ref b231)])) rfl rfl (hb hby d1_74)
          have V235 : Arv Z h235 b233 k233 .char (3 : Int32) [(.int (nar .char d0)), (.int (0 : Int32)), (.int (0 : Int32))] (.int (0 : Int32)) := Arv.set Arq234 kqq234 Szq234 Nnq234 Hsq234 Gsq234 (fits_nar_char _) W235 0 rfl (Nat.le_of_ble_eq_true rfl)
          have N235 := Fr.snoc X235 N0 g_b233
          obtain ⟨clq236, Arq236, kqq236, Szq236, Nnq236, Hsq236, Gsq236⟩ := id V235
          have hinq236 : ¬ ((1 : Int32) < 0 ∨ clq236.slots.size ≤ ((1 : Int32)).toNatClampNeg) := inb_of Szq236 ⟨by decide, by decide⟩
          obtain ⟨T237, h237, X237, e237, W237, st237⟩ := stC X235 hx hZ e235 Arq236 (j := (1 : Int32)) hinq236 (g := (mkF m 78 #[.val (.int p0), .val (.int d0), .val (.int d1), .val (.int d2), .val (.int d3), .val (.int d4), .val (.int d5)] [(.int d1), (.int (1 : Int32)), (.ref b233), (.ref b233), (.ref b231), (.ref b231)])) rfl rfl (hb hby d1_78)
          have V237 : Arv Z h237 b233 k233 .char (3 : Int32) [(.int (nar .char d0)), (.int (nar .char d1)), (.int (0 : Int32))] (.int (0 : Int32)) := Arv.set Arq236 kqq236 Szq236 Nnq236 Hsq236 Gsq236 (fits_nar_char _) W237 1 rfl (Nat.le_of_ble_eq_true rfl)
          have N237 := Fr.snoc X237 N235 g_b233
          obtain ⟨clq238, Arq238, kqq238, Szq238, Nnq238, Hsq238, Gsq238⟩ := id V237
          have hinq238 : ¬ ((2 : Int32) < 0 ∨ clq238.slots.size ≤ ((2 : Int32)).toNatClampNeg) := inb_of Szq238 ⟨by decide, by decide⟩
          obtain ⟨T239, h239, X239, e239, W239, st239⟩ := stC X237 hx hZ e237 Arq238 (j := (2 : Int32)) hinq238 (g := (mkF m 82 #[.val (.int p0), .val (.int d0), .val (.int d1), .val (.int d2), .val (.int d3), .val (.int d4), .val (.int d5)] [(.int d2), (.int (2 : Int32)), (.ref b233), (.ref b233), (.ref b231), (.ref b231)])) rfl rfl (hb hby d1_82)
          have V239 : Arv Z h239 b233 k233 .char (3 : Int32) [(.int (nar .char d0)), (.int (nar .char d1)), (.int (nar .char d2))] (.int (0 : Int32)) := Arv.set Arq238 kqq238 Szq238 Nnq238 Hsq238 Gsq238 (fits_nar_char _) W239 2 rfl (Nat.le_of_ble_eq_true rfl)
          have N239 := Fr.snoc X239 N237 g_b233
          have Ac240 : Arv Z h239 b233 k233 .char (3 : Int32) [(.int d0), (.int d1), (.int d2)] (.int (0 : Int32)) := own_arv V239 (by rw [own_nar16 g0, own_nar16 g1, own_nar16 g2])
          have hqm241 : ∀ c ∈ ([d0, d1, d2] : List Int32), C16 c := by
            intro c hc
            simp only [List.mem_cons, List.not_mem_nil, or_false] at hc
            rcases hc with rfl | rfl | rfl
            · exact g0
            · exact g1
            · exact g2
          have S243 : ∀ t, Steps p.tables e below (T239.setTop (mkF m 83 #[.val (.int p0), .val (.int d0), .val (.int d1), .val (.int d2), .val (.int d3), .val (.int d4), .val (.int d5)] [(.ref b233), (.ref b231), (.ref b231)])) t → Steps p.tables e below (s₁.setTop (entryFrame m #[(.int p0), (.int d0), (.int d1), (.int d2), (.int d3), (.int d4), (.int d5)] 7)) t := fun t k => by
            refine S230 t ?_
            show Steps p.tables e below (s₁.setTop (mkF m 61 #[.val (.int p0), .val (.int d0), .val (.int d1), .val (.int d2), .val (.int d3), .val (.int d4), .val (.int d5)] [(.int (3 : Int32)), (.int p0)])) _
            refine XS.icmpNo X0.here hx rfl (hb hby d1_61) rfl (teq hc229).2 ?_
            show Steps p.tables e below (s₁.setTop (mkF m 64 #[.val (.int p0), .val (.int d0), .val (.int d1), .val (.int d2), .val (.int d3), .val (.int d4), .val (.int d5)] [])) _
            refine st231 _ ?_
            show Steps p.tables e below (T231.setTop (mkF m 67 #[.val (.int p0), .val (.int d0), .val (.int d1), .val (.int d2), .val (.int d3), .val (.int d4), .val (.int d5)] [(.ref b231)])) _
            refine XS.dup X231.here hx rfl (hb hby d1_67) rfl rfl ?_
            show Steps p.tables e below (T231.setTop (mkF m 68 #[.val (.int p0), .val (.int d0), .val (.int d1), .val (.int d2), .val (.int d3), .val (.int d4), .val (.int d5)] [(.ref b231), (.ref b231)])) _
            refine XS.iconst X231.here hx rfl (hb hby d1_68) ?_
            show Steps p.tables e below (T231.setTop (mkF m 69 #[.val (.int p0), .val (.int d0), .val (.int d1), .val (.int d2), .val (.int d3), .val (.int d4), .val (.int d5)] [(.int (3 : Int32)), (.ref b231), (.ref b231)])) _
            refine st233 _ ?_
            show Steps p.tables e below (T233.setTop (mkF m 71 #[.val (.int p0), .val (.int d0), .val (.int d1), .val (.int d2), .val (.int d3), .val (.int d4), .val (.int d5)] [(.ref b233), (.ref b231), (.ref b231)])) _
            refine XS.dup X233.here hx rfl (hb hby d1_71) rfl rfl ?_
            show Steps p.tables e below (T233.setTop (mkF m 72 #[.val (.int p0), .val (.int d0), .val (.int d1), .val (.int d2), .val (.int d3), .val (.int d4), .val (.int d5)] [(.ref b233), (.ref b233), (.ref b231), (.ref b231)])) _
            refine XS.iconst X233.here hx rfl (hb hby d1_72) ?_
            refine XS.iloadN X233.here hx rfl (hb hby d1_73) rfl ?_
            show Steps p.tables e below (T233.setTop (mkF m 74 #[.val (.int p0), .val (.int d0), .val (.int d1), .val (.int d2), .val (.int d3), .val (.int d4), .val (.int d5)] [(.int d0), (.int (0 : Int32)), (.ref b233), (.ref b233), (.ref b231), (.ref b231)])) _
            refine st235 _ ?_
            show Steps p.tables e below (T235.setTop (mkF m 75 #[.val (.int p0), .val (.int d0), .val (.int d1), .val (.int d2), .val (.int d3), .val (.int d4), .val (.int d5)] [(.ref b233), (.ref b231), (.ref b231)])) _
            refine XS.dup X235.here hx rfl (hb hby d1_75) rfl rfl ?_
            show Steps p.tables e below (T235.setTop (mkF m 76 #[.val (.int p0), .val (.int d0), .val (.int d1), .val (.int d2), .val (.int d3), .val (.int d4), .val (.int d5)] [(.ref b233), (.ref b233), (.ref b231), (.ref b231)])) _
            refine XS.iconst X235.here hx rfl (hb hby d1_76) ?_
            refine XS.iloadN X235.here hx rfl (hb hby d1_77) rfl ?_
            show Steps p.tables e below (T235.setTop (mkF m 78 #[.val (.int p0), .val (.int d0), .val (.int d1), .val (.int d2), .val (.int d3), .val (.int d4), .val (.int d5)] [(.int d1), (.int (1 : Int32)), (.ref b233), (.ref b233), (.ref b231), (.ref b231)])) _
            refine st237 _ ?_
            show Steps p.tables e below (T237.setTop (mkF m 79 #[.val (.int p0), .val (.int d0), .val (.int d1), .val (.int d2), .val (.int d3), .val (.int d4), .val (.int d5)] [(.ref b233), (.ref b231), (.ref b231)])) _
            refine XS.dup X237.here hx rfl (hb hby d1_79) rfl rfl ?_
            show Steps p.tables e below (T237.setTop (mkF m 80 #[.val (.int p0), .val (.int d0), .val (.int d1), .val (.int d2), .val (.int d3), .val (.int d4), .val (.int d5)] [(.ref b233), (.ref b233), (.ref b231), (.ref b231)])) _
            refine XS.iconst X237.here hx rfl (hb hby d1_80) ?_
            refine XS.iloadN X237.here hx rfl (hb hby d1_81) rfl ?_
            show Steps p.tables e below (T237.setTop (mkF m 82 #[.val (.int p0), .val (.int d0), .val (.int d1), .val (.int d2), .val (.int d3), .val (.int d4), .val (.int d5)] [(.int d2), (.int (2 : Int32)), (.ref b233), (.ref b233), (.ref b231), (.ref b231)])) _
            refine st239 _ ?_
            exact k
          by_cases hlat242 : ∀ c ∈ ([d0, d1, d2] : List Int32), ¬ (255 : Int32) < c
          · have hp244 : ∀ c ∈ ([d0, d1, d2] : List Int32), ¬ c < 0 ∧ ¬ (255 : Int32) < c := fun c hc => ⟨(hqm241 c hc).1, hlat242 c hc⟩
            have hws245 : ∀ d ∈ StrChars.Road.words, d.before a0 Z = true := fun d hd => hw d ((by decide +kernel : ∀ d ∈ StrChars.Road.words, d ∈ tables_1) d hd)
            have O246 : Old Z n0 h233 := Old.ext O232 E233
            have O247 : Old Z n0 h235 := Old.wr O246 W235 g_b233
            have O248 : Old Z n0 h237 := Old.wr O247 W237 g_b233
            have O249 : Old Z n0 h239 := Old.wr O248 W239 g_b233
            have c250 : Exa Z h239 b231 "java/lang/String" := (Exa.wr W239 (Exa.wr W237 (Exa.wr W235 (Exa.ext E233 A231))))
            have c251 : Fld Z h239 b231 "java/lang/String" "value" "[B" .null := (Fld.other W239 (Fld.other W237 (Fld.other W235 (Fld.ext E233 (show Fld Z h231 b231 "java/lang/String" "value" "[B" .null from D231 (Or.inr (hwk hw 22 rfl)) (ty := (.array .byte)) (by decide))) (Or.inl (Exa.neArv c250 Ac240 (hwk hw 7 rfl)))) (Or.inl (Exa.neArv c250 Ac240 (hwk hw 7 rfl)))) (Or.inl (Exa.neArv c250 Ac240 (hwk hw 7 rfl))))
            have c252 : Fld Z h239 b231 "java/lang/String" "coder" "B" (.int (0 : Int32)) := (Fld.other W239 (Fld.other W237 (Fld.other W235 (Fld.ext E233 (show Fld Z h231 b231 "java/lang/String" "coder" "B" (.int (0 : Int32)) from D231 (Or.inr (hwk hw 23 rfl)) (ty := .byte) (by decide))) (Or.inl (Exa.neArv c250 Ac240 (hwk hw 7 rfl)))) (Or.inl (Exa.neArv c250 Ac240 (hwk hw 7 rfl)))) (Or.inl (Exa.neArv c250 Ac240 (hwk hw 7 rfl))))
            have c253 : Sta Z h239 "java/lang/String" "COMPACT_STRINGS" "Z" (.int zc) := Sta.ext (O249).2 SZ
            obtain ⟨_, _, ⟨T254, L254, k254, n254⟩, -, X254, ⟨Lc254, hQ254, l254, y254, z254⟩, st254⟩ := X239.specialBack hx (y := (⟨"java/lang/String", "<init>", "([C)V"⟩ : MethodName)) rfl hown (mvT hZ (hwk hw 10 rfl)) (mvT hZ (hwk hw 11 rfl)) (mvT hZ (hwk hw 12 rfl)) (by decide) (StrChars.Road.backV (W := 1) hZ hws245 (kI := 4) (hwk hw 7 rfl) (cs := ([d0, d1, d2] : List Int32)) (bs := (([d0, d1, d2] : List Int32)).map (fun c => c.toInt8.toInt32)) (n := 3) g_b231 (old_le O249) c250 c251 c252 Ac240 c253 PZ rfl rfl (by decide) (by decide) hp244 rfl (by decide) (by decide)) (g := (mkF m 83 #[.val (.int p0), .val (.int d0), .val (.int d1), .val (.int d2), .val (.int d3), .val (.int d4), .val (.int d5)] [(.ref b233), (.ref b231), (.ref b231)])) rfl (by rw [hml]; rfl) (Steps.refl _) (a := b231) (argsL := [(.ref b233)]) (rest := [(.ref b231)]) (lenOf pd_23 rfl) rfl (by show 2 * 0 + _ ≤ _; exact Nat.le_of_eq rfl) (hb hby d1_83) (fun _ _ => ⟨rfl, e239, (by decide : 2 + 1 ≤ _), (by decide : 7 + 3 ≤ _)⟩)
            dsimp only [Pt.U, Pt.locs, Pt.cells, Pt.slots] at X254 l254 y254 z254 st254 hQ254
            subst l254 y254 z254
            unfold StrChars.Road.QV at hQ254
            obtain ⟨rfl, N254q, K254, E254x, C254, t254, kb254, g_t254, ge_t254, ne254, V254, A254⟩ := hQ254
            have N254 := Fr.app N239 N254q
            have K255 : Keep h0 h231 [] := Keep.ext (Keep.refl h0 []) E231
            have K256 : Keep h0 h233 [] := Keep.ext K255 E233
            have K257 : Keep h0 h235 [] := Keep.wr K256 W235 (Or.inr (Nat.le_trans (Nat.le_trans (Nat.le_refl _) E231.1) (Nat.le_of_eq g233.symm)))
            have K258 : Keep h0 h237 [] := Keep.wr K257 W237 (Or.inr (Nat.le_trans (Nat.le_trans (Nat.le_refl _) E231.1) (Nat.le_of_eq g233.symm)))
            have K259 : Keep h0 h239 [] := Keep.wr K258 W239 (Or.inr (Nat.le_trans (Nat.le_trans (Nat.le_refl _) E231.1) (Nat.le_of_eq g233.symm)))
            have K260 : Keep h0 T254.heap [] := Keep.trans K259 K254 (allS (Or.inr (Nat.le_trans (Nat.le_refl _) (Nat.le_of_eq g231.symm))) all0)
            have CR261 : CHr Z consts_1 s.vm h0 s.vm h231 := CHr.trans CR0 (CHr.ext E231 CR0.1)
            have CR262 : CHr Z consts_1 s.vm h0 s.vm h233 := CHr.trans CR261 (CHr.ext E233 CR261.1)
            have Sf263 : Safe Z consts_1 s.vm h231 b233 := Safe.new (Nat.le_of_eq g233.symm)
            have Sf264 : Safe Z consts_1 s.vm h233 b233 := (Safe.ext E233 CR261.1 Sf263)
            have CR265 : CHr Z consts_1 s.vm h0 s.vm h235 := CHr.trans CR262 (CHr.wr W235 Sf264 CR262.1)
            have Sf266 : Safe Z consts_1 s.vm h235 b233 := (Safe.wr W235 Sf264 CR262.1 Sf264)
            have CR267 : CHr Z consts_1 s.vm h0 s.vm h237 := CHr.trans CR265 (CHr.wr W237 Sf266 CR265.1)
            have Sf268 : Safe Z consts_1 s.vm h237 b233 := (Safe.wr W237 Sf266 CR265.1 Sf266)
            have CR269 : CHr Z consts_1 s.vm h0 s.vm h239 := CHr.trans CR267 (CHr.wr W239 Sf268 CR267.1)
            have Sf270 : Safe Z consts_1 s.vm h0 b231 := Safe.new (Nat.le_of_eq g231.symm)
            have Sf271 : Safe Z consts_1 s.vm h239 b231 := (Safe.wr W239 Sf268 CR267.1 (Safe.wr W237 Sf266 CR265.1 (Safe.wr W235 Sf264 CR262.1 (Safe.ext E233 CR261.1 (Safe.ext E231 CR0.1 Sf270)))))
            have CR272 : CHr Z consts_1 s.vm h0 s.vm T254.heap := CHr.trans CR269 (CHr.keep K254 (allS Sf271 all0) CR269.1)
            obtain ⟨fs, hr, hrun, hended, hRE⟩ := X254.leaveW hS0 (show _ ≤ T254.heap.size from by rw [(rfl : T254.heap = T254.heap)]; exact (Nat.le_trans (Nat.le_refl _) (Nat.le_trans (Nat.le_trans (Nat.le_trans (Nat.le_trans (Nat.le_trans (Nat.le_trans (Nat.le_refl _) E231.1) E233.1) (Nat.le_of_eq W235.size.symm)) (Nat.le_of_eq W237.size.symm)) (Nat.le_of_eq W239.size.symm)) K254.1))) (v := some (.ref b231)) (fun h => by rw [Bd.returns] at h; cases h)
            have CRl : CHr Z consts_1 s.vm s.heap (T254.setFrames fs).vm (T254.setFrames fs).heap := by
              have q := CHr.trans CR272 (CHv.at X254 hZ hEL CR272.1)
              rw [← hh, ← (rfl : T254.heap = T254.heap)] at q
              exact q
            refine ⟨_, _, S243 _ ?_, hrun, hended, _, _, rfl, ?_, CRl, hRE.1, hRE.2.1, hRE.2.2.1, hRE.2.2.2.mono (by decide) (by decide)⟩
            · show Steps p.tables e below (T239.setTop (mkF m 83 #[.val (.int p0), .val (.int d0), .val (.int d1), .val (.int d2), .val (.int d3), .val (.int d4), .val (.int d5)] [(.ref b233), (.ref b231), (.ref b231)])) _
              refine st254.trans ?_
              show Steps p.tables e below (T254.setTop (mkF m 86 #[.val (.int p0), .val (.int d0), .val (.int d1), .val (.int d2), .val (.int d3), .val (.int d4), .val (.int d5)] [(.ref b231)])) _
              exact Jvm.RoadKit.retOut X254 hx Bd.returns rfl (Or.inr (Or.inr (Or.inr (Or.inr ⟨rfl, rfl, rfl⟩)))) (hb hby d1_86) hr
            · show Q_rm1 Z p0 d0 d1 d2 d3 d4 d5 zc h0 n0 _ T254.heap _
              unfold Q_rm1
              exact ⟨b231, t254, kb254, (0 : Int32), (3 : Int32), (((([d0, d1, d2] : List Int32)).map (fun c => c.toInt8.toInt32)).map Value.int), rfl, N254, K260, (Nat.le_trans (Nat.le_refl _) (Nat.le_of_eq g231.symm)), E254x, V254, C254, A254, (by rw [show (CS p0 d0 d1 d2 d3 d4 d5) = ([d0, d1, d2] : List Int32) from (by unfold CS; rw [if_neg hc101, if_neg hc119, if_neg hc169, if_pos hc229])]; exact StrChars.Road.codOf rfl hlat242)⟩
          · have c273 : Exa Z h239 b231 "java/lang/String" := (Exa.wr W239 (Exa.wr W237 (Exa.wr W235 (Exa.ext E233 A231))))
            have c274 : Fld Z h239 b231 "java/lang/String" "value" "[B" .null := (Fld.other W239 (Fld.other W237 (Fld.other W235 (Fld.ext E233 (show Fld Z h231 b231 "java/lang/String" "value" "[B" .null from D231 (Or.inr (hwk hw 22 rfl)) (ty := (.array .byte)) (by decide))) (Or.inl (Exa.neArv c273 Ac240 (hwk hw 7 rfl)))) (Or.inl (Exa.neArv c273 Ac240 (hwk hw 7 rfl)))) (Or.inl (Exa.neArv c273 Ac240 (hwk hw 7 rfl))))
            have c275 : Fld Z h239 b231 "java/lang/String" "coder" "B" (.int (0 : Int32)) := (Fld.other W239 (Fld.other W237 (Fld.other W235 (Fld.ext E233 (show Fld Z h231 b231 "java/lang/String" "coder" "B" (.int (0 : Int32)) from D231 (Or.inr (hwk hw 23 rfl)) (ty := .byte) (by decide))) (Or.inl (Exa.neArv c273 Ac240 (hwk hw 7 rfl)))) (Or.inl (Exa.neArv c273 Ac240 (hwk hw 7 rfl)))) (Or.inl (Exa.neArv c273 Ac240 (hwk hw 7 rfl))))
            have O276 : Old Z n0 h233 := Old.ext O232 E233
            have O277 : Old Z n0 h235 := Old.wr O276 W235 g_b233
            have O278 : Old Z n0 h237 := Old.wr O277 W237 g_b233
            have O279 : Old Z n0 h239 := Old.wr O278 W239 g_b233
            obtain ⟨_, _, ⟨T280, L280, k280, n280⟩, -, X280, ⟨Lc280, hQ280, l280, y280, z280⟩, st280⟩ := X239.specialBack hx (y := (⟨"java/lang/String", "<init>", "([C)V"⟩ : MethodName)) rfl hown (mvT hZ (hwk hw 10 rfl)) (mvT hZ (hwk hw 11 rfl)) (mvT hZ (hwk hw 12 rfl)) (by decide) (backOf (W := 1) (w2 l Z a0 hw [] b231 b233 k233 (.int (0 : Int32)) ([d0, d1, d2] : List Int32) zc h239 n0 O279 c273 g_b231 c274 c275 (Ne.symm (Exa.neArv c273 Ac240 (hwk hw 7 rfl))) Ac240 (Nat.le_of_ble_eq_true rfl) hqm241 (own_nall hlat242) (Nat.le_of_ble_eq_true rfl) SZ PZ SA SH SL) hZ (hwk hw 12 rfl) (hwk hw 8 rfl) (by decide) (by decide)) (g := (mkF m 83 #[.val (.int p0), .val (.int d0), .val (.int d1), .val (.int d2), .val (.int d3), .val (.int d4), .val (.int d5)] [(.ref b233), (.ref b231), (.ref b231)])) rfl (by rw [hml]; rfl) (Steps.refl _) (a := b231) (argsL := [(.ref b233)]) (rest := [(.ref b231)]) (lenOf pd_23 rfl) rfl (by show 2 * 0 + _ ≤ _; exact Nat.le_of_eq rfl) (hb hby d1_83) (fun _ _ => ⟨rfl, e239, (by decide : 2 + 2 ≤ _), (by decide : 7 + 18 ≤ _)⟩)
            dsimp only [Pt.U, Pt.locs, Pt.cells, Pt.slots] at X280 l280 y280 z280 st280 hQ280
            subst l280 y280 z280
            unfold Q_w2 at hQ280
            obtain ⟨o_280, ko_280, rfl, N280q, K280, f280_0, f280_1, f280_2, f280_3⟩ := hQ280
            have N280 := Fr.app N239 N280q
            have K281 : Keep h0 h231 [] := Keep.ext (Keep.refl h0 []) E231
            have K282 : Keep h0 h233 [] := Keep.ext K281 E233
            have K283 : Keep h0 h235 [] := Keep.wr K282 W235 (Or.inr (Nat.le_trans (Nat.le_trans (Nat.le_refl _) E231.1) (Nat.le_of_eq g233.symm)))
            have K284 : Keep h0 h237 [] := Keep.wr K283 W237 (Or.inr (Nat.le_trans (Nat.le_trans (Nat.le_refl _) E231.1) (Nat.le_of_eq g233.symm)))
            have K285 : Keep h0 h239 [] := Keep.wr K284 W239 (Or.inr (Nat.le_trans (Nat.le_trans (Nat.le_refl _) E231.1) (Nat.le_of_eq g233.symm)))
            have K286 : Keep h0 T280.heap [] := Keep.trans K285 K280 (allS (Or.inr (Nat.le_trans (Nat.le_refl _) (Nat.le_of_eq g231.symm))) all0)
            have CR287 : CHr Z consts_1 s.vm h0 s.vm h231 := CHr.trans CR0 (CHr.ext E231 CR0.1)
            have CR288 : CHr Z consts_1 s.vm h0 s.vm h233 := CHr.trans CR287 (CHr.ext E233 CR287.1)
            have Sf289 : Safe Z consts_1 s.vm h231 b233 := Safe.new (Nat.le_of_eq g233.symm)
            have Sf290 : Safe Z consts_1 s.vm h233 b233 := (Safe.ext E233 CR287.1 Sf289)
            have CR291 : CHr Z consts_1 s.vm h0 s.vm h235 := CHr.trans CR288 (CHr.wr W235 Sf290 CR288.1)
            have Sf292 : Safe Z consts_1 s.vm h235 b233 := (Safe.wr W235 Sf290 CR288.1 Sf290)
            have CR293 : CHr Z consts_1 s.vm h0 s.vm h237 := CHr.trans CR291 (CHr.wr W237 Sf292 CR291.1)
            have Sf294 : Safe Z consts_1 s.vm h237 b233 := (Safe.wr W237 Sf292 CR291.1 Sf292)
            have CR295 : CHr Z consts_1 s.vm h0 s.vm h239 := CHr.trans CR293 (CHr.wr W239 Sf294 CR293.1)
            have Sf296 : Safe Z consts_1 s.vm h0 b231 := Safe.new (Nat.le_of_eq g231.symm)
            have Sf297 : Safe Z consts_1 s.vm h239 b231 := (Safe.wr W239 Sf294 CR293.1 (Safe.wr W237 Sf292 CR291.1 (Safe.wr W235 Sf290 CR288.1 (Safe.ext E233 CR287.1 (Safe.ext E231 CR0.1 Sf296)))))
            have CR298 : CHr Z consts_1 s.vm h0 s.vm T280.heap := CHr.trans CR295 (CHr.keep K280 (allS Sf297 all0) CR295.1)
            obtain ⟨fs, hr, hrun, hended, hRE⟩ := X280.leaveW hS0 (show _ ≤ T280.heap.size from by rw [(rfl : T280.heap = T280.heap)]; exact (Nat.le_trans (Nat.le_refl _) (Nat.le_trans (Nat.le_trans (Nat.le_trans (Nat.le_trans (Nat.le_trans (Nat.le_trans (Nat.le_refl _) E231.1) E233.1) (Nat.le_of_eq W235.size.symm)) (Nat.le_of_eq W237.size.symm)) (Nat.le_of_eq W239.size.symm)) K280.1))) (v := some (.ref b231)) (fun h => by rw [Bd.returns] at h; cases h)
            have CRl : CHr Z consts_1 s.vm s.heap (T280.setFrames fs).vm (T280.setFrames fs).heap := by
              have q := CHr.trans CR298 (CHv.at X280 hZ hEL CR298.1)
              rw [← hh, ← (rfl : T280.heap = T280.heap)] at q
              exact q
            refine ⟨_, _, S243 _ ?_, hrun, hended, _, _, rfl, ?_, CRl, hRE.1, hRE.2.1, hRE.2.2.1, hRE.2.2.2.mono (by decide) (by decide)⟩
            · show Steps p.tables e below (T239.setTop (mkF m 83 #[.val (.int p0), .val (.int d0), .val (.int d1), .val (.int d2), .val (.int d3), .val (.int d4), .val (.int d5)] [(.ref b233), (.ref b231), (.ref b231)])) _
              refine st280.trans ?_
              show Steps p.tables e below (T280.setTop (mkF m 86 #[.val (.int p0), .val (.int d0), .val (.int d1), .val (.int d2), .val (.int d3), .val (.int d4), .val (.int d5)] [(.ref b231)])) _
              exact Jvm.RoadKit.retOut X280 hx Bd.returns rfl (Or.inr (Or.inr (Or.inr (Or.inr ⟨rfl, rfl, rfl⟩)))) (hb hby d1_86) hr
            · show Q_rm1 Z p0 d0 d1 d2 d3 d4 d5 zc h0 n0 _ T280.heap _
              unfold Q_rm1
              exact ⟨b231, o_280, ko_280, (1 : Int32), (Int32.ofNat (2 * ([d0, d1, d2] : List Int32).length)), (wideBytes ([d0, d1, d2] : List Int32)), rfl, N280, K286, (Nat.le_trans (Nat.le_refl _) (Nat.le_of_eq g231.symm)), f280_0, f280_2, f280_1, f280_3, (by rw [show (CS p0 d0 d1 d2 d3 d4 d5) = ([d0, d1, d2] : List Int32) from (by unfold CS; rw [if_neg hc101, if_neg hc119, if_neg hc169, if_pos hc229])]; exact Or.inr ⟨rfl, rfl, rfl, own_nex hlat242⟩)⟩
        · have S300 : ∀ t, Steps p.tables e below (s₁.setTop (mkF m 89 #[.val (.int p0), .val (.int d0), .val (.int d1), .val (.int d2), .val (.int d3), .val (.int d4), .val (.int d5)] [(.int (4 : Int32)), (.int p0)])) t → Steps p.tables e below (s₁.setTop (entryFrame m #[(.int p0), (.int d0), (.int d1), (.int d2), (.int d3), (.int d4), (.int d5)] 7)) t := fun t k => by
            refine S230 t ?_
            show Steps p.tables e below (s₁.setTop (mkF m 61 #[.val (.int p0), .val (.int d0), .val (.int d1), .val (.int d2), .val (.int d3), .val (.int d4), .val (.int d5)] [(.int (3 : Int32)), (.int p0)])) _
            refine XS.icmpYes X0.here hx rfl (pc0 := 61) (pc' := 87) rfl (hb hby d1_61) rfl (feq hc229).2 (by decide) (by decide) ?_
            show Steps p.tables e below (s₁.setTop (mkF m 87 #[.val (.int p0), .val (.int d0), .val (.int d1), .val (.int d2), .val (.int d3), .val (.int d4), .val (.int d5)] [])) _
            refine XS.iloadN X0.here hx rfl (hb hby d1_87) rfl ?_
            refine XS.iconst X0.here hx rfl (hb hby d1_88) ?_
            exact k
          by_cases hc299 : p0 = (4 : Int32)
          · obtain ⟨T301, h301, X301, e301, E301, A301, D301, -, st301⟩ := newO X0 hx hZ hown (hwk hw 6 rfl) (hwk hw 7 rfl) (hwk hw 8 rfl) e0 (g := (mkF m 92 #[.val (.int p0), .val (.int d0), .val (.int d1), .val (.int d2), .val (.int d3), .val (.int d4), .val (.int d5)] [])) rfl (hb hby d1_92) (by decide) (by decide)
            obtain ⟨b301, g301⟩ : ∃ z, z = h0.size := ⟨_, rfl⟩
            rw [← g301] at A301 D301 st301
            have g_b301 : n0 ≤ b301 := Nat.le_trans (old_le O0) (Nat.le_of_eq g301.symm)
            have O302 : Old Z n0 h301 := Old.ext O0 E301
            obtain ⟨T303, h303, k303, X303, e303, E303, A303, st303⟩ := newP X301 hx hZ (hwk hw 9 rfl) e301 (g := (mkF m 97 #[.val (.int p0), .val (.int d0), .val (.int d1), .val (.int d2), .val (.int d3), .val (.int d4), .val (.int d5)] [(.int (4 : Int32)), (.ref b301), (.ref b301)])) rfl (hb hby d1_97) rfl (by decide) (cap := 4) (by decide) (by decide) (by decide) (by decide)
            obtain ⟨b303, g303⟩ : ∃ z, z = h301.size := ⟨_, rfl⟩
            rw [← g303] at A303 st303
            have g_b303 : n0 ≤ b303 := Nat.le_trans (old_le O302) (Nat.le_of_eq g303.symm)
            have V303 : Arv Z h303 b303 k303 .char (4 : Int32) [(.int (0 : Int32)), (.int (0 : Int32)), (.int (0 : Int32)), (.int (0 : Int32))] (.int (0 : Int32)) := (Arv.new A303 (by decide)).pad (pad_rep [] (.int (0 : Int32)) 4)
            obtain ⟨clq304, Arq304, kqq304, Szq304, Nnq304, Hsq304, Gsq304⟩ := id V303
            have hinq304 : ¬ ((0 : Int32) < 0 ∨ clq304.slots.size ≤ ((0 : Int32)).toNatClampNeg) := inb_of Szq304 ⟨by decide, by decide⟩
            obtain ⟨T305, h305, X305, e305, W305, st305⟩ := stC X303 hx hZ e303 Arq304 (j := (0 : Int32)) hinq304 (g := (mkF m 102 #[.val (.int p0), .val (.int d0), .val (.int d1), .val (.int d2), .val (.int d3), .val (.int d4), .val (.int d5)] [(.int d0), (.int (0 : Int32)), (.ref b303), (.ref b303), (.ref b301), (.ref b301)])) rfl rfl (hb hby d1_102)
            have V305 : Arv Z h305 b303 k303 .char (4 : Int32) [(.int (nar .char d0)), (.int (0 : Int32)), (.int (0 : Int32)), (.int (0 : Int32))] (.int (0 : Int32)) := Arv.set Arq304 kqq304 Szq304 Nnq304 Hsq304 Gsq304 (fits_nar_char _) W305 0 rfl (Nat.le_of_ble_eq_true rfl)
            have N305 := Fr.snoc X305 N0 g_b303
            obtain ⟨clq306, Arq306, kqq306, Szq306, Nnq306, Hsq306, Gsq306⟩ := id V305
            have hinq306 : ¬ ((1 : Int32) < 0 ∨ clq306.slots.size ≤ ((1 : Int32)).toNatClampNeg) := inb_of Szq306 ⟨by decide, by decide⟩
            obtain ⟨T307, h307, X307, e307, W307, st307⟩ := stC X305 hx hZ e305 Arq306 (j := (1 : Int32)) hinq306 (g := (mkF m 106 #[.val (.int p0), .val (.int d0), .val (.int d1), .val (.int d2), .val (.int d3), .val (.int d4), .val (.int d5)] [(.int d1), (.int (1 : Int32)), (.ref b303), (.ref b303), (.ref b301), (.ref b301)])) rfl rfl (hb hby d1_106)
            have V307 : Arv Z h307 b303 k303 .char (4 : Int32) [(.int (nar .char d0)), (.int (nar .char d1)), (.int (0 : Int32)), (.int (0 : Int32))] (.int (0 : Int32)) := Arv.set Arq306 kqq306 Szq306 Nnq306 Hsq306 Gsq306 (fits_nar_char _) W307 1 rfl (Nat.le_of_ble_eq_true rfl)
            have N307 := Fr.snoc X307 N305 g_b303
            obtain ⟨clq308, Arq308, kqq308, Szq308, Nnq308, Hsq308, Gsq308⟩ := id V307
            have hinq308 : ¬ ((2 : Int32) < 0 ∨ clq308.slots.size ≤ ((2 : Int32)).toNatClampNeg) := inb_of Szq308 ⟨by decide, by decide⟩
            obtain ⟨T309, h309, X309, e309, W309, st309⟩ := stC X307 hx hZ e307 Arq308 (j := (2 : Int32)) hinq308 (g := (mkF m 110 #[.val (.int p0), .val (.int d0), .val (.int d1), .val (.int d2), .val (.int d3), .val (.int d4), .val (.int d5)] [(.int d2), (.int (2 : Int32)), (.ref b303), (.ref b303), (.ref b301), (.ref b301)])) rfl rfl (hb hby d1_110)
            have V309 : Arv Z h309 b303 k303 .char (4 : Int32) [(.int (nar .char d0)), (.int (nar .char d1)), (.int (nar .char d2)), (.int (0 : Int32))] (.int (0 : Int32)) := Arv.set Arq308 kqq308 Szq308 Nnq308 Hsq308 Gsq308 (fits_nar_char _) W309 2 rfl (Nat.le_of_ble_eq_true rfl)
            have N309 := Fr.snoc X309 N307 g_b303
            obtain ⟨clq310, Arq310, kqq310, Szq310, Nnq310, Hsq310, Gsq310⟩ := id V309
            have hinq310 : ¬ ((3 : Int32) < 0 ∨ clq310.slots.size ≤ ((3 : Int32)).toNatClampNeg) := inb_of Szq310 ⟨by decide, by decide⟩
            obtain ⟨T311, h311, X311, e311, W311, st311⟩ := stC X309 hx hZ e309 Arq310 (j := (3 : Int32)) hinq310 (g := (mkF m 115 #[.val (.int p0), .val (.int d0), .val (.int d1), .val (.int d2), .val (.int d3), .val (.int d4), .val (.int d5)] [(.int d3), (.int (3 : Int32)), (.ref b303), (.ref b303), (.ref b301), (.ref b301)])) rfl rfl (hb hby d1_115)
            have V311 : Arv Z h311 b303 k303 .char (4 : Int32) [(.int (nar .char d0)), (.int (nar .char d1)), (.int (nar .char d2)), (.int (nar .char d3))] (.int (0 : Int32)) := Arv.set Arq310 kqq310 Szq310 Nnq310 Hsq310 Gsq310 (fits_nar_char _) W311 3 rfl (Nat.le_of_ble_eq_true rfl)
            have N311 := Fr.snoc X311 N309 g_b303
            have Ac312 : Arv Z h311 b303 k303 .char (4 : Int32) [(.int d0), (.int d1), (.int d2), (.int d3)] (.int (0 : Int32)) := own_arv V311 (by rw [own_nar16 g0, own_nar16 g1, own_nar16 g2, own_nar16 g3])
            have hqm313 : ∀ c ∈ ([d0, d1, d2, d3] : List Int32), C16 c := by
              intro c hc
              simp only [List.mem_cons, List.not_mem_nil, or_false] at hc
              rcases hc with rfl | rfl | rfl | rfl
              · exact g0
              · exact g1
              · exact g2
              · exact g3
            have S315 : ∀ t, Steps p.tables e below (T311.setTop (mkF m 116 #[.val (.int p0), .val (.int d0), .val (.int d1), .val (.int d2), .val (.int d3), .val (.int d4), .val (.int d5)] [(.ref b303), (.ref b301), (.ref b301)])) t → Steps p.tables e below (s₁.setTop (entryFrame m #[(.int p0), (.int d0), (.int d1), (.int d2), (.int d3), (.int d4), (.int d5)] 7)) t := fun t k => by
              refine S300 t ?_
              show Steps p.tables e below (s₁.setTop (mkF m 89 #[.val (.int p0), .val (.int d0), .val (.int d1), .val (.int d2), .val (.int d3), .val (.int d4), .val (.int d5)] [(.int (4 : Int32)), (.int p0)])) _
              refine XS.icmpNo X0.here hx rfl (hb hby d1_89) rfl (teq hc299).2 ?_
              show Steps p.tables e below (s₁.setTop (mkF m 92 #[.val (.int p0), .val (.int d0), .val (.int d1), .val (.int d2), .val (.int d3), .val (.int d4), .val (.int d5)] [])) _
              refine st301 _ ?_
              show Steps p.tables e below (T301.setTop (mkF m 95 #[.val (.int p0), .val (.int d0), .val (.int d1), .val (.int d2), .val (.int d3), .val (.int d4), .val (.int d5)] [(.ref b301)])) _
              refine XS.dup X301.here hx rfl (hb hby d1_95) rfl rfl ?_
              show Steps p.tables e below (T301.setTop (mkF m 96 #[.val (.int p0), .val (.int d0), .val (.int d1), .val (.int d2), .val (.int d3), .val (.int d4), .val (.int d5)] [(.ref b301), (.ref b301)])) _
              refine XS.iconst X301.here hx rfl (hb hby d1_96) ?_
              show Steps p.tables e below (T301.setTop (mkF m 97 #[.val (.int p0), .val (.int d0), .val (.int d1), .val (.int d2), .val (.int d3), .val (.int d4), .val (.int d5)] [(.int (4 : Int32)), (.ref b301), (.ref b301)])) _
              refine st303 _ ?_
              show Steps p.tables e below (T303.setTop (mkF m 99 #[.val (.int p0), .val (.int d0), .val (.int d1), .val (.int d2), .val (.int d3), .val (.int d4), .val (.int d5)] [(.ref b303), (.ref b301), (.ref b301)])) _
              refine XS.dup X303.here hx rfl (hb hby d1_99) rfl rfl ?_
              show Steps p.tables e below (T303.setTop (mkF m 100 #[.val (.int p0), .val (.int d0), .val (.int d1), .val (.int d2), .val (.int d3), .val (.int d4), .val (.int d5)] [(.ref b303), (.ref b303), (.ref b301), (.ref b301)])) _
              refine XS.iconst X303.here hx rfl (hb hby d1_100) ?_
              refine XS.iloadN X303.here hx rfl (hb hby d1_101) rfl ?_
              show Steps p.tables e below (T303.setTop (mkF m 102 #[.val (.int p0), .val (.int d0), .val (.int d1), .val (.int d2), .val (.int d3), .val (.int d4), .val (.int d5)] [(.int d0), (.int (0 : Int32)), (.ref b303), (.ref b303), (.ref b301), (.ref b301)])) _
              refine st305 _ ?_
              show Steps p.tables e below (T305.setTop (mkF m 103 #[.val (.int p0), .val (.int d0), .val (.int d1), .val (.int d2), .val (.int d3), .val (.int d4), .val (.int d5)] [(.ref b303), (.ref b301), (.ref b301)])) _
              refine XS.dup X305.here hx rfl (hb hby d1_103) rfl rfl ?_
              show Steps p.tables e below (T305.setTop (mkF m 104 #[.val (.int p0), .val (.int d0), .val (.int d1), .val (.int d2), .val (.int d3), .val (.int d4), .val (.int d5)] [(.ref b303), (.ref b303), (.ref b301), (.ref b301)])) _
              refine XS.iconst X305.here hx rfl (hb hby d1_104) ?_
              refine XS.iloadN X305.here hx rfl (hb hby d1_105) rfl ?_
              show Steps p.tables e below (T305.setTop (mkF m 106 #[.val (.int p0), .val (.int d0), .val (.int d1), .val (.int d2), .val (.int d3), .val (.int d4), .val (.int d5)] [(.int d1), (.int (1 : Int32)), (.ref b303), (.ref b303), (.ref b301), (.ref b301)])) _
              refine st307 _ ?_
              show Steps p.tables e below (T307.setTop (mkF m 107 #[.val (.int p0), .val (.int d0), .val (.int d1), .val (.int d2), .val (.int d3), .val (.int d4), .val (.int d5)] [(.ref b303), (.ref b301), (.ref b301)])) _
              refine XS.dup X307.here hx rfl (hb hby d1_107) rfl rfl ?_
              show Steps p.tables e below (T307.setTop (mkF m 108 #[.val (.int p0), .val (.int d0), .val (.int d1), .val (.int d2), .val (.int d3), .val (.int d4), .val (.int d5)] [(.ref b303), (.ref b303), (.ref b301), (.ref b301)])) _
              refine XS.iconst X307.here hx rfl (hb hby d1_108) ?_
              refine XS.iloadN X307.here hx rfl (hb hby d1_109) rfl ?_
              show Steps p.tables e below (T307.setTop (mkF m 110 #[.val (.int p0), .val (.int d0), .val (.int d1), .val (.int d2), .val (.int d3), .val (.int d4), .val (.int d5)] [(.int d2), (.int (2 : Int32)), (.ref b303), (.ref b303), (.ref b301), (.ref b301)])) _
              refine st309 _ ?_
              show Steps p.tables e below (T309.setTop (mkF m 111 #[.val (.int p0), .val (.int d0), .val (.int d1), .val (.int d2), .val (.int d3), .val (.int d4), .val (.int d5)] [(.ref b303), (.ref b301), (.ref b301)])) _
              refine XS.dup X309.here hx rfl (hb hby d1_111) rfl rfl ?_
              show Steps p.tables e below (T309.setTop (mkF m 112 #[.val (.int p0), .val (.int d0), .val (.int d1), .val (.int d2), .val (.int d3), .val (.int d4), .val (.int d5)] [(.ref b303), (.ref b303), (.ref b301), (.ref b301)])) _
              refine XS.iconst X309.here hx rfl (hb hby d1_112) ?_
              refine XS.iload X309.here hx rfl (hb hby d1_113) rfl ?_
              show Steps p.tables e below (T309.setTop (mkF m 115 #[.val (.int p0), .val (.int d0), .val (.int d1), .val (.int d2), .val (.int d3), .val (.int d4), .val (.int d5)] [(.int d3), (.int (3 : Int32)), (.ref b303), (.ref b303), (.ref b301), (.ref b301)])) _
              refine st311 _ ?_
              exact k
            by_cases hlat314 : ∀ c ∈ ([d0, d1, d2, d3] : List Int32), ¬ (255 : Int32) < c
            · have hp316 : ∀ c ∈ ([d0, d1, d2, d3] : List Int32), ¬ c < 0 ∧ ¬ (255 : Int32) < c := fun c hc => ⟨(hqm313 c hc).1, hlat314 c hc⟩
              have hws317 : ∀ d ∈ StrChars.Road.words, d.before a0 Z = true := fun d hd => hw d ((by decide +kernel : ∀ d ∈ StrChars.Road.words, d ∈ tables_1) d hd)
              have O318 : Old Z n0 h303 := Old.ext O302 E303
              have O319 : Old Z n0 h305 := Old.wr O318 W305 g_b303
              have O320 : Old Z n0 h307 := Old.wr O319 W307 g_b303
              have O321 : Old Z n0 h309 := Old.wr O320 W309 g_b303
              have O322 : Old Z n0 h311 := Old.wr O321 W311 g_b303
              have c323 : Exa Z h311 b301 "java/lang/String" := (Exa.wr W311 (Exa.wr W309 (Exa.wr W307 (Exa.wr W305 (Exa.ext E303 A301)))))
              have c324 : Fld Z h311 b301 "java/lang/String" "value" "[B" .null := (Fld.other W311 (Fld.other W309 (Fld.other W307 (Fld.other W305 (Fld.ext E303 (show Fld Z h301 b301 "java/lang/String" "value" "[B" .null from D301 (Or.inr (hwk hw 22 rfl)) (ty := (.array .byte)) (by decide))) (Or.inl (Exa.neArv c323 Ac312 (hwk hw 7 rfl)))) (Or.inl (Exa.neArv c323 Ac312 (hwk hw 7 rfl)))) (Or.inl (Exa.neArv c323 Ac312 (hwk hw 7 rfl)))) (Or.inl (Exa.neArv c323 Ac312 (hwk hw 7 rfl))))
              have c325 : Fld Z h311 b301 "java/lang/String" "coder" "B" (.int (0 : Int32)) := (Fld.other W311 (Fld.other W309 (Fld.other W307 (Fld.other W305 (Fld.ext E303 (show Fld Z h301 b301 "java/lang/String" "coder" "B" (.int (0 : Int32)) from D301 (Or.inr (hwk hw 23 rfl)) (ty := .byte) (by decide))) (Or.inl (Exa.neArv c323 Ac312 (hwk hw 7 rfl)))) (Or.inl (Exa.neArv c323 Ac312 (hwk hw 7 rfl)))) (Or.inl (Exa.neArv c323 Ac312 (hwk hw 7 rfl)))) (Or.inl (Exa.neArv c323 Ac312 (hwk hw 7 rfl))))
              have c326 : Sta Z h311 "java/lang/String" "COMPACT_STRINGS" "Z" (.int zc) := Sta.ext (O322).2 SZ
              obtain ⟨_, _, ⟨T327, L327, k327, n327⟩, -, X327, ⟨Lc327, hQ327, l327, y327, z327⟩, st327⟩ := X311.specialBack hx (y := (⟨"java/lang/String", "<init>", "([C)V"⟩ : MethodName)) rfl hown (mvT hZ (hwk hw 10 rfl)) (mvT hZ (hwk hw 11 rfl)) (mvT hZ (hwk hw 12 rfl)) (by decide) (StrChars.Road.backV (W := 1) hZ hws317 (kI := 4) (hwk hw 7 rfl) (cs := ([d0, d1, d2, d3] : List Int32)) (bs := (([d0, d1, d2, d3] : List Int32)).map (fun c => c.toInt8.toInt32)) (n := 4) g_b301 (old_le O322) c323 c324 c325 Ac312 c326 PZ rfl rfl (by decide) (by decide) hp316 rfl (by decide) (by decide)) (g := (mkF m 116 #[.val (.int p0), .val (.int d0), .val (.int d1), .val (.int d2), .val (.int d3), .val (.int d4), .val (.int d5)] [(.ref b303), (.ref b301), (.ref b301)])) rfl (by rw [hml]; rfl) (Steps.refl _) (a := b301) (argsL := [(.ref b303)]) (rest := [(.ref b301)]) (lenOf pd_23 rfl) rfl (by show 2 * 0 + _ ≤ _; exact Nat.le_of_eq rfl) (hb hby d1_116) (fun _ _ => ⟨rfl, e311, (by decide : 2 + 1 ≤ _), (by decide : 8 + 4 ≤ _)⟩)
              dsimp only [Pt.U, Pt.locs, Pt.cells, Pt.slots] at X327 l327 y327 z327 st327 hQ327
              subst l327 y327 z327
              unfold StrChars.Road.QV at hQ327
              obtain ⟨rfl, N327q, K327, E327x, C327, t327, kb327, g_t327, ge_t327, ne327, V327, A327⟩ := hQ327
              have N327 := Fr.app N311 N327q
              have K328 : Keep h0 h301 [] := Keep.ext (Keep.refl h0 []) E301
              have K329 : Keep h0 h303 [] := Keep.ext K328 E303
              have K330 : Keep h0 h305 [] := Keep.wr K329 W305 (Or.inr (Nat.le_trans (Nat.le_trans (Nat.le_refl _) E301.1) (Nat.le_of_eq g303.symm)))
              have K331 : Keep h0 h307 [] := Keep.wr K330 W307 (Or.inr (Nat.le_trans (Nat.le_trans (Nat.le_refl _) E301.1) (Nat.le_of_eq g303.symm)))
              have K332 : Keep h0 h309 [] := Keep.wr K331 W309 (Or.inr (Nat.le_trans (Nat.le_trans (Nat.le_refl _) E301.1) (Nat.le_of_eq g303.symm)))
              have K333 : Keep h0 h311 [] := Keep.wr K332 W311 (Or.inr (Nat.le_trans (Nat.le_trans (Nat.le_refl _) E301.1) (Nat.le_of_eq g303.symm)))
              have K334 : Keep h0 T327.heap [] := Keep.trans K333 K327 (allS (Or.inr (Nat.le_trans (Nat.le_refl _) (Nat.le_of_eq g301.symm))) all0)
              have CR335 : CHr Z consts_1 s.vm h0 s.vm h301 := CHr.trans CR0 (CHr.ext E301 CR0.1)
              have CR336 : CHr Z consts_1 s.vm h0 s.vm h303 := CHr.trans CR335 (CHr.ext E303 CR335.1)
              have Sf337 : Safe Z consts_1 s.vm h301 b303 := Safe.new (Nat.le_of_eq g303.symm)
              have Sf338 : Safe Z consts_1 s.vm h303 b303 := (Safe.ext E303 CR335.1 Sf337)
              have CR339 : CHr Z consts_1 s.vm h0 s.vm h305 := CHr.trans CR336 (CHr.wr W305 Sf338 CR336.1)
              have Sf340 : Safe Z consts_1 s.vm h305 b303 := (Safe.wr W305 Sf338 CR336.1 Sf338)
              have CR341 : CHr Z consts_1 s.vm h0 s.vm h307 := CHr.trans CR339 (CHr.wr W307 Sf340 CR339.1)
              have Sf342 : Safe Z consts_1 s.vm h307 b303 := (Safe.wr W307 Sf340 CR339.1 Sf340)
              have CR343 : CHr Z consts_1 s.vm h0 s.vm h309 := CHr.trans CR341 (CHr.wr W309 Sf342 CR341.1)
              have Sf344 : Safe Z consts_1 s.vm h309 b303 := (Safe.wr W309 Sf342 CR341.1 Sf342)
              have CR345 : CHr Z consts_1 s.vm h0 s.vm h311 := CHr.trans CR343 (CHr.wr W311 Sf344 CR343.1)
              have Sf346 : Safe Z consts_1 s.vm h0 b301 := Safe.new (Nat.le_of_eq g301.symm)
              have Sf347 : Safe Z consts_1 s.vm h311 b301 := (Safe.wr W311 Sf344 CR343.1 (Safe.wr W309 Sf342 CR341.1 (Safe.wr W307 Sf340 CR339.1 (Safe.wr W305 Sf338 CR336.1 (Safe.ext E303 CR335.1 (Safe.ext E301 CR0.1 Sf346))))))
              have CR348 : CHr Z consts_1 s.vm h0 s.vm T327.heap := CHr.trans CR345 (CHr.keep K327 (allS Sf347 all0) CR345.1)
              obtain ⟨fs, hr, hrun, hended, hRE⟩ := X327.leaveW hS0 (show _ ≤ T327.heap.size from by rw [(rfl : T327.heap = T327.heap)]; exact (Nat.le_trans (Nat.le_refl _) (Nat.le_trans (Nat.le_trans (Nat.le_trans (Nat.le_trans (Nat.le_trans (Nat.le_trans (Nat.le_trans (Nat.le_refl _) E301.1) E303.1) (Nat.le_of_eq W305.size.symm)) (Nat.le_of_eq W307.size.symm)) (Nat.le_of_eq W309.size.symm)) (Nat.le_of_eq W311.size.symm)) K327.1))) (v := some (.ref b301)) (fun h => by rw [Bd.returns] at h; cases h)
              have CRl : CHr Z consts_1 s.vm s.heap (T327.setFrames fs).vm (T327.setFrames fs).heap := by
                have q := CHr.trans CR348 (CHv.at X327 hZ hEL CR348.1)
                rw [← hh, ← (rfl : T327.heap = T327.heap)] at q
                exact q
              refine ⟨_, _, S315 _ ?_, hrun, hended, _, _, rfl, ?_, CRl, hRE.1, hRE.2.1, hRE.2.2.1, hRE.2.2.2.mono (by decide) (by decide)⟩
              · show Steps p.tables e below (T311.setTop (mkF m 116 #[.val (.int p0), .val (.int d0), .val (.int d1), .val (.int d2), .val (.int d3), .val (.int d4), .val (.int d5)] [(.ref b303), (.ref b301), (.ref b301)])) _
                refine st327.trans ?_
                show Steps p.tables e below (T327.setTop (mkF m 119 #[.val (.int p0), .val (.int d0), .val (.int d1), .val (.int d2), .val (.int d3), .val (.int d4), .val (.int d5)] [(.ref b301)])) _
                exact Jvm.RoadKit.retOut X327 hx Bd.returns rfl (Or.inr (Or.inr (Or.inr (Or.inr ⟨rfl, rfl, rfl⟩)))) (hb hby d1_119) hr
              · show Q_rm1 Z p0 d0 d1 d2 d3 d4 d5 zc h0 n0 _ T327.heap _
                unfold Q_rm1
                exact ⟨b301, t327, kb327, (0 : Int32), (4 : Int32), (((([d0, d1, d2, d3] : List Int32)).map (fun c => c.toInt8.toInt32)).map Value.int), rfl, N327, K334, (Nat.le_trans (Nat.le_refl _) (Nat.le_of_eq g301.symm)), E327x, V327, C327, A327, (by rw [show (CS p0 d0 d1 d2 d3 d4 d5) = ([d0, d1, d2, d3] : List Int32) from (by unfold CS; rw [if_neg hc101, if_neg hc119, if_neg hc169, if_neg hc229, if_pos hc299])]; exact StrChars.Road.codOf rfl hlat314)⟩
            · have c349 : Exa Z h311 b301 "java/lang/String" := (Exa.wr W311 (Exa.wr W309 (Exa.wr W307 (Exa.wr W305 (Exa.ext E303 A301)))))
              have c350 : Fld Z h311 b301 "java/lang/String" "value" "[B" .null := (Fld.other W311 (Fld.other W309 (Fld.other W307 (Fld.other W305 (Fld.ext E303 (show Fld Z h301 b301 "java/lang/String" "value" "[B" .null from D301 (Or.inr (hwk hw 22 rfl)) (ty := (.array .byte)) (by decide))) (Or.inl (Exa.neArv c349 Ac312 (hwk hw 7 rfl)))) (Or.inl (Exa.neArv c349 Ac312 (hwk hw 7 rfl)))) (Or.inl (Exa.neArv c349 Ac312 (hwk hw 7 rfl)))) (Or.inl (Exa.neArv c349 Ac312 (hwk hw 7 rfl))))
              have c351 : Fld Z h311 b301 "java/lang/String" "coder" "B" (.int (0 : Int32)) := (Fld.other W311 (Fld.other W309 (Fld.other W307 (Fld.other W305 (Fld.ext E303 (show Fld Z h301 b301 "java/lang/String" "coder" "B" (.int (0 : Int32)) from D301 (Or.inr (hwk hw 23 rfl)) (ty := .byte) (by decide))) (Or.inl (Exa.neArv c349 Ac312 (hwk hw 7 rfl)))) (Or.inl (Exa.neArv c349 Ac312 (hwk hw 7 rfl)))) (Or.inl (Exa.neArv c349 Ac312 (hwk hw 7 rfl)))) (Or.inl (Exa.neArv c349 Ac312 (hwk hw 7 rfl))))
              have O352 : Old Z n0 h303 := Old.ext O302 E303
              have O353 : Old Z n0 h305 := Old.wr O352 W305 g_b303
              have O354 : Old Z n0 h307 := Old.wr O353 W307 g_b303
              have O355 : Old Z n0 h309 := Old.wr O354 W309 g_b303
              have O356 : Old Z n0 h311 := Old.wr O355 W311 g_b303
              obtain ⟨_, _, ⟨T357, L357, k357, n357⟩, -, X357, ⟨Lc357, hQ357, l357, y357, z357⟩, st357⟩ := X311.specialBack hx (y := (⟨"java/lang/String", "<init>", "([C)V"⟩ : MethodName)) rfl hown (mvT hZ (hwk hw 10 rfl)) (mvT hZ (hwk hw 11 rfl)) (mvT hZ (hwk hw 12 rfl)) (by decide) (backOf (W := 1) (w2 l Z a0 hw [] b301 b303 k303 (.int (0 : Int32)) ([d0, d1, d2, d3] : List Int32) zc h311 n0 O356 c349 g_b301 c350 c351 (Ne.symm (Exa.neArv c349 Ac312 (hwk hw 7 rfl))) Ac312 (Nat.le_of_ble_eq_true rfl) hqm313 (own_nall hlat314) (Nat.le_of_ble_eq_true rfl) SZ PZ SA SH SL) hZ (hwk hw 12 rfl) (hwk hw 8 rfl) (by decide) (by decide)) (g := (mkF m 116 #[.val (.int p0), .val (.int d0), .val (.int d1), .val (.int d2), .val (.int d3), .val (.int d4), .val (.int d5)] [(.ref b303), (.ref b301), (.ref b301)])) rfl (by rw [hml]; rfl) (Steps.refl _) (a := b301) (argsL := [(.ref b303)]) (rest := [(.ref b301)]) (lenOf pd_23 rfl) rfl (by show 2 * 0 + _ ≤ _; exact Nat.le_of_eq rfl) (hb hby d1_116) (fun _ _ => ⟨rfl, e311, (by decide : 2 + 2 ≤ _), (by decide : 8 + 18 ≤ _)⟩)
              dsimp only [Pt.U, Pt.locs, Pt.cells, Pt.slots] at X357 l357 y357 z357 st357 hQ357
              subst l357 y357 z357
              unfold Q_w2 at hQ357
              obtain ⟨o_357, ko_357, rfl, N357q, K357, f357_0, f357_1, f357_2, f357_3⟩ := hQ357
              have N357 := Fr.app N311 N357q
              have K358 : Keep h0 h301 [] := Keep.ext (Keep.refl h0 []) E301
              have K359 : Keep h0 h303 [] := Keep.ext K358 E303
              have K360 : Keep h0 h305 [] := Keep.wr K359 W305 (Or.inr (Nat.le_trans (Nat.le_trans (Nat.le_refl _) E301.1) (Nat.le_of_eq g303.symm)))
              have K361 : Keep h0 h307 [] := Keep.wr K360 W307 (Or.inr (Nat.le_trans (Nat.le_trans (Nat.le_refl _) E301.1) (Nat.le_of_eq g303.symm)))
              have K362 : Keep h0 h309 [] := Keep.wr K361 W309 (Or.inr (Nat.le_trans (Nat.le_trans (Nat.le_refl _) E301.1) (Nat.le_of_eq g303.symm)))
              have K363 : Keep h0 h311 [] := Keep.wr K362 W311 (Or.inr (Nat.le_trans (Nat.le_trans (Nat.le_refl _) E301.1) (Nat.le_of_eq g303.symm)))
              have K364 : Keep h0 T357.heap [] := Keep.trans K363 K357 (allS (Or.inr (Nat.le_trans (Nat.le_refl _) (Nat.le_of_eq g301.symm))) all0)
              have CR365 : CHr Z consts_1 s.vm h0 s.vm h301 := CHr.trans CR0 (CHr.ext E301 CR0.1)
              have CR366 : CHr Z consts_1 s.vm h0 s.vm h303 := CHr.trans CR365 (CHr.ext E303 CR365.1)
              have Sf367 : Safe Z consts_1 s.vm h301 b303 := Safe.new (Nat.le_of_eq g303.symm)
              have Sf368 : Safe Z consts_1 s.vm h303 b303 := (Safe.ext E303 CR365.1 Sf367)
              have CR369 : CHr Z consts_1 s.vm h0 s.vm h305 := CHr.trans CR366 (CHr.wr W305 Sf368 CR366.1)
              have Sf370 : Safe Z consts_1 s.vm h305 b303 := (Safe.wr W305 Sf368 CR366.1 Sf368)
              have CR371 : CHr Z consts_1 s.vm h0 s.vm h307 := CHr.trans CR369 (CHr.wr W307 Sf370 CR369.1)
              have Sf372 : Safe Z consts_1 s.vm h307 b303 := (Safe.wr W307 Sf370 CR369.1 Sf370)
              have CR373 : CHr Z consts_1 s.vm h0 s.vm h309 := CHr.trans CR371 (CHr.wr W309 Sf372 CR371.1)
              have Sf374 : Safe Z consts_1 s.vm h309 b303 := (Safe.wr W309 Sf372 CR371.1 Sf372)
              have CR375 : CHr Z consts_1 s.vm h0 s.vm h311 := CHr.trans CR373 (CHr.wr W311 Sf374 CR373.1)
              have Sf376 : Safe Z consts_1 s.vm h0 b301 := Safe.new (Nat.le_of_eq g301.symm)
              have Sf377 : Safe Z consts_1 s.vm h311 b301 := (Safe.wr W311 Sf374 CR373.1 (Safe.wr W309 Sf372 CR371.1 (Safe.wr W307 Sf370 CR369.1 (Safe.wr W305 Sf368 CR366.1 (Safe.ext E303 CR365.1 (Safe.ext E301 CR0.1 Sf376))))))
              have CR378 : CHr Z consts_1 s.vm h0 s.vm T357.heap := CHr.trans CR375 (CHr.keep K357 (allS Sf377 all0) CR375.1)
              obtain ⟨fs, hr, hrun, hended, hRE⟩ := X357.leaveW hS0 (show _ ≤ T357.heap.size from by rw [(rfl : T357.heap = T357.heap)]; exact (Nat.le_trans (Nat.le_refl _) (Nat.le_trans (Nat.le_trans (Nat.le_trans (Nat.le_trans (Nat.le_trans (Nat.le_trans (Nat.le_trans (Nat.le_refl _) E301.1) E303.1) (Nat.le_of_eq W305.size.symm)) (Nat.le_of_eq W307.size.symm)) (Nat.le_of_eq W309.size.symm)) (Nat.le_of_eq W311.size.symm)) K357.1))) (v := some (.ref b301)) (fun h => by rw [Bd.returns] at h; cases h)
              have CRl : CHr Z consts_1 s.vm s.heap (T357.setFrames fs).vm (T357.setFrames fs).heap := by
                have q := CHr.trans CR378 (CHv.at X357 hZ hEL CR378.1)
                rw [← hh, ← (rfl : T357.heap = T357.heap)] at q
                exact q
              refine ⟨_, _, S315 _ ?_, hrun, hended, _, _, rfl, ?_, CRl, hRE.1, hRE.2.1, hRE.2.2.1, hRE.2.2.2.mono (by decide) (by decide)⟩
              · show Steps p.tables e below (T311.setTop (mkF m 116 #[.val (.int p0), .val (.int d0), .val (.int d1), .val (.int d2), .val (.int d3), .val (.int d4), .val (.int d5)] [(.ref b303), (.ref b301), (.ref b301)])) _
                refine st357.trans ?_
                show Steps p.tables e below (T357.setTop (mkF m 119 #[.val (.int p0), .val (.int d0), .val (.int d1), .val (.int d2), .val (.int d3), .val (.int d4), .val (.int d5)] [(.ref b301)])) _
                exact Jvm.RoadKit.retOut X357 hx Bd.returns rfl (Or.inr (Or.inr (Or.inr (Or.inr ⟨rfl, rfl, rfl⟩)))) (hb hby d1_119) hr
              · show Q_rm1 Z p0 d0 d1 d2 d3 d4 d5 zc h0 n0 _ T357.heap _
                unfold Q_rm1
                exact ⟨b301, o_357, ko_357, (1 : Int32), (Int32.ofNat (2 * ([d0, d1, d2, d3] : List Int32).length)), (wideBytes ([d0, d1, d2, d3] : List Int32)), rfl, N357, K364, (Nat.le_trans (Nat.le_refl _) (Nat.le_of_eq g301.symm)), f357_0, f357_2, f357_1, f357_3, (by rw [show (CS p0 d0 d1 d2 d3 d4 d5) = ([d0, d1, d2, d3] : List Int32) from (by unfold CS; rw [if_neg hc101, if_neg hc119, if_neg hc169, if_neg hc229, if_pos hc299])]; exact Or.inr ⟨rfl, rfl, rfl, own_nex hlat314⟩)⟩
          · have S380 : ∀ t, Steps p.tables e below (s₁.setTop (mkF m 122 #[.val (.int p0), .val (.int d0), .val (.int d1), .val (.int d2), .val (.int d3), .val (.int d4), .val (.int d5)] [(.int (5 : Int32)), (.int p0)])) t → Steps p.tables e below (s₁.setTop (entryFrame m #[(.int p0), (.int d0), (.int d1), (.int d2), (.int d3), (.int d4), (.int d5)] 7)) t := fun t k => by
              refine S300 t ?_
              show Steps p.tables e below (s₁.setTop (mkF m 89 #[.val (.int p0), .val (.int d0), .val (.int d1), .val (.int d2), .val (.int d3), .val (.int d4), .val (.int d5)] [(.int (4 : Int32)), (.int p0)])) _
              refine XS.icmpYes X0.here hx rfl (pc0 := 89) (pc' := 120) rfl (hb hby d1_89) rfl (feq hc299).2 (by decide) (by decide) ?_
              show Steps p.tables e below (s₁.setTop (mkF m 120 #[.val (.int p0), .val (.int d0), .val (.int d1), .val (.int d2), .val (.int d3), .val (.int d4), .val (.int d5)] [])) _
              refine XS.iloadN X0.here hx rfl (hb hby d1_120) rfl ?_
              refine XS.iconst X0.here hx rfl (hb hby d1_121) ?_
              exact k
            by_cases hc379 : p0 = (5 : Int32)
            · obtain ⟨T381, h381, X381, e381, E381, A381, D381, -, st381⟩ := newO X0 hx hZ hown (hwk hw 6 rfl) (hwk hw 7 rfl) (hwk hw 8 rfl) e0 (g := (mkF m 125 #[.val (.int p0), .val (.int d0), .val (.int d1), .val (.int d2), .val (.int d3), .val (.int d4), .val (.int d5)] [])) rfl (hb hby d1_125) (by decide) (by decide)
              obtain ⟨b381, g381⟩ : ∃ z, z = h0.size := ⟨_, rfl⟩
              rw [← g381] at A381 D381 st381
              have g_b381 : n0 ≤ b381 := Nat.le_trans (old_le O0) (Nat.le_of_eq g381.symm)
              have O382 : Old Z n0 h381 := Old.ext O0 E381
              obtain ⟨T383, h383, k383, X383, e383, E383, A383, st383⟩ := newP X381 hx hZ (hwk hw 9 rfl) e381 (g := (mkF m 130 #[.val (.int p0), .val (.int d0), .val (.int d1), .val (.int d2), .val (.int d3), .val (.int d4), .val (.int d5)] [(.int (5 : Int32)), (.ref b381), (.ref b381)])) rfl (hb hby d1_130) rfl (by decide) (cap := 5) (by decide) (by decide) (by decide) (by decide)
              obtain ⟨b383, g383⟩ : ∃ z, z = h381.size := ⟨_, rfl⟩
              rw [← g383] at A383 st383
              have g_b383 : n0 ≤ b383 := Nat.le_trans (old_le O382) (Nat.le_of_eq g383.symm)
              have V383 : Arv Z h383 b383 k383 .char (5 : Int32) [(.int (0 : Int32)), (.int (0 : Int32)), (.int (0 : Int32)), (.int (0 : Int32)), (.int (0 : Int32))] (.int (0 : Int32)) := (Arv.new A383 (by decide)).pad (pad_rep [] (.int (0 : Int32)) 5)
              obtain ⟨clq384, Arq384, kqq384, Szq384, Nnq384, Hsq384, Gsq384⟩ := id V383
              have hinq384 : ¬ ((0 : Int32) < 0 ∨ clq384.slots.size ≤ ((0 : Int32)).toNatClampNeg) := inb_of Szq384 ⟨by decide, by decide⟩
              obtain ⟨T385, h385, X385, e385, W385, st385⟩ := stC X383 hx hZ e383 Arq384 (j := (0 : Int32)) hinq384 (g := (mkF m 135 #[.val (.int p0), .val (.int d0), .val (.int d1), .val (.int d2), .val (.int d3), .val (.int d4), .val (.int d5)] [(.int d0), (.int (0 : Int32)), (.ref b383), (.ref b383), (.ref b381), (.ref b381)])) rfl rfl (hb hby d1_135)
              have V385 : Arv Z h385 b383 k383 .char (5 : Int32) [(.int (nar .char d0)), (.int (0 : Int32)), (.int (0 : Int32)), (.int (0 : Int32)), (.int (0 : Int32))] (.int (0 : Int32)) := Arv.set Arq384 kqq384 Szq384 Nnq384 Hsq384 Gsq384 (fits_nar_char _) W385 0 rfl (Nat.le_of_ble_eq_true rfl)
              have N385 := Fr.snoc X385 N0 g_b383
              obtain ⟨clq386, Arq386, kqq386, Szq386, Nnq386, Hsq386, Gsq386⟩ := id V385
              have hinq386 : ¬ ((1 : Int32) < 0 ∨ clq386.slots.size ≤ ((1 : Int32)).toNatClampNeg) := inb_of Szq386 ⟨by decide, by decide⟩
              obtain ⟨T387, h387, X387, e387, W387, st387⟩ := stC X385 hx hZ e385 Arq386 (j := (1 : Int32)) hinq386 (g := (mkF m 139 #[.val (.int p0), .val (.int d0), .val (.int d1), .val (.int d2), .val (.int d3), .val (.int d4), .val (.int d5)] [(.int d1), (.int (1 : Int32)), (.ref b383), (.ref b383), (.ref b381), (.ref b381)])) rfl rfl (hb hby d1_139)
              have V387 : Arv Z h387 b383 k383 .char (5 : Int32) [(.int (nar .char d0)), (.int (nar .char d1)), (.int (0 : Int32)), (.int (0 : Int32)), (.int (0 : Int32))] (.int (0 : Int32)) := Arv.set Arq386 kqq386 Szq386 Nnq386 Hsq386 Gsq386 (fits_nar_char _) W387 1 rfl (Nat.le_of_ble_eq_true rfl)
              have N387 := Fr.snoc X387 N385 g_b383
              obtain ⟨clq388, Arq388, kqq388, Szq388, Nnq388, Hsq388, Gsq388⟩ := id V387
              have hinq388 : ¬ ((2 : Int32) < 0 ∨ clq388.slots.size ≤ ((2 : Int32)).toNatClampNeg) := inb_of Szq388 ⟨by decide, by decide⟩
              obtain ⟨T389, h389, X389, e389, W389, st389⟩ := stC X387 hx hZ e387 Arq388 (j := (2 : Int32)) hinq388 (g := (mkF m 143 #[.val (.int p0), .val (.int d0), .val (.int d1), .val (.int d2), .val (.int d3), .val (.int d4), .val (.int d5)] [(.int d2), (.int (2 : Int32)), (.ref b383), (.ref b383), (.ref b381), (.ref b381)])) rfl rfl (hb hby d1_143)
              have V389 : Arv Z h389 b383 k383 .char (5 : Int32) [(.int (nar .char d0)), (.int (nar .char d1)), (.int (nar .char d2)), (.int (0 : Int32)), (.int (0 : Int32))] (.int (0 : Int32)) := Arv.set Arq388 kqq388 Szq388 Nnq388 Hsq388 Gsq388 (fits_nar_char _) W389 2 rfl (Nat.le_of_ble_eq_true rfl)
              have N389 := Fr.snoc X389 N387 g_b383
              obtain ⟨clq390, Arq390, kqq390, Szq390, Nnq390, Hsq390, Gsq390⟩ := id V389
              have hinq390 : ¬ ((3 : Int32) < 0 ∨ clq390.slots.size ≤ ((3 : Int32)).toNatClampNeg) := inb_of Szq390 ⟨by decide, by decide⟩
              obtain ⟨T391, h391, X391, e391, W391, st391⟩ := stC X389 hx hZ e389 Arq390 (j := (3 : Int32)) hinq390 (g := (mkF m 148 #[.val (.int p0), .val (.int d0), .val (.int d1), .val (.int d2), .val (.int d3), .val (.int d4), .val (.int d5)] [(.int d3), (.int (3 : Int32)), (.ref b383), (.ref b383), (.ref b381), (.ref b381)])) rfl rfl (hb hby d1_148)
              have V391 : Arv Z h391 b383 k383 .char (5 : Int32) [(.int (nar .char d0)), (.int (nar .char d1)), (.int (nar .char d2)), (.int (nar .char d3)), (.int (0 : Int32))] (.int (0 : Int32)) := Arv.set Arq390 kqq390 Szq390 Nnq390 Hsq390 Gsq390 (fits_nar_char _) W391 3 rfl (Nat.le_of_ble_eq_true rfl)
              have N391 := Fr.snoc X391 N389 g_b383
              obtain ⟨clq392, Arq392, kqq392, Szq392, Nnq392, Hsq392, Gsq392⟩ := id V391
              have hinq392 : ¬ ((4 : Int32) < 0 ∨ clq392.slots.size ≤ ((4 : Int32)).toNatClampNeg) := inb_of Szq392 ⟨by decide, by decide⟩
              obtain ⟨T393, h393, X393, e393, W393, st393⟩ := stC X391 hx hZ e391 Arq392 (j := (4 : Int32)) hinq392 (g := (mkF m 153 #[.val (.int p0), .val (.int d0), .val (.int d1), .val (.int d2), .val (.int d3), .val (.int d4), .val (.int d5)] [(.int d4), (.int (4 : Int32)), (.ref b383), (.ref b383), (.ref b381), (.ref b381)])) rfl rfl (hb hby d1_153)
              have V393 : Arv Z h393 b383 k383 .char (5 : Int32) [(.int (nar .char d0)), (.int (nar .char d1)), (.int (nar .char d2)), (.int (nar .char d3)), (.int (nar .char d4))] (.int (0 : Int32)) := Arv.set Arq392 kqq392 Szq392 Nnq392 Hsq392 Gsq392 (fits_nar_char _) W393 4 rfl (Nat.le_of_ble_eq_true rfl)
              have N393 := Fr.snoc X393 N391 g_b383
              have Ac394 : Arv Z h393 b383 k383 .char (5 : Int32) [(.int d0), (.int d1), (.int d2), (.int d3), (.int d4)] (.int (0 : Int32)) := own_arv V393 (by rw [own_nar16 g0, own_nar16 g1, own_nar16 g2, own_nar16 g3, own_nar16 g4])
              have hqm395 : ∀ c ∈ ([d0, d1, d2, d3, d4] : List Int32), C16 c := by
                intro c hc
                simp only [List.mem_cons, List.not_mem_nil, or_false] at hc
                rcases hc with rfl | rfl | rfl | rfl | rfl
                · exact g0
                · exact g1
                · exact g2
                · exact g3
                · exact g4
              have S397 : ∀ t, Steps p.tables e below (T393.setTop (mkF m 154 #[.val (.int p0), .val (.int d0), .val (.int d1), .val (.int d2), .val (.int d3), .val (.int d4), .val (.int d5)] [(.ref b383), (.ref b381), (.ref b381)])) t → Steps p.tables e below (s₁.setTop (entryFrame m #[(.int p0), (.int d0), (.int d1), (.int d2), (.int d3), (.int d4), (.int d5)] 7)) t := fun t k => by
                refine S380 t ?_
                show Steps p.tables e below (s₁.setTop (mkF m 122 #[.val (.int p0), .val (.int d0), .val (.int d1), .val (.int d2), .val (.int d3), .val (.int d4), .val (.int d5)] [(.int (5 : Int32)), (.int p0)])) _
                refine XS.icmpNo X0.here hx rfl (hb hby d1_122) rfl (teq hc379).2 ?_
                show Steps p.tables e below (s₁.setTop (mkF m 125 #[.val (.int p0), .val (.int d0), .val (.int d1), .val (.int d2), .val (.int d3), .val (.int d4), .val (.int d5)] [])) _
                refine st381 _ ?_
                show Steps p.tables e below (T381.setTop (mkF m 128 #[.val (.int p0), .val (.int d0), .val (.int d1), .val (.int d2), .val (.int d3), .val (.int d4), .val (.int d5)] [(.ref b381)])) _
                refine XS.dup X381.here hx rfl (hb hby d1_128) rfl rfl ?_
                show Steps p.tables e below (T381.setTop (mkF m 129 #[.val (.int p0), .val (.int d0), .val (.int d1), .val (.int d2), .val (.int d3), .val (.int d4), .val (.int d5)] [(.ref b381), (.ref b381)])) _
                refine XS.iconst X381.here hx rfl (hb hby d1_129) ?_
                show Steps p.tables e below (T381.setTop (mkF m 130 #[.val (.int p0), .val (.int d0), .val (.int d1), .val (.int d2), .val (.int d3), .val (.int d4), .val (.int d5)] [(.int (5 : Int32)), (.ref b381), (.ref b381)])) _
                refine st383 _ ?_
                show Steps p.tables e below (T383.setTop (mkF m 132 #[.val (.int p0), .val (.int d0), .val (.int d1), .val (.int d2), .val (.int d3), .val (.int d4), .val (.int d5)] [(.ref b383), (.ref b381), (.ref b381)])) _
                refine XS.dup X383.here hx rfl (hb hby d1_132) rfl rfl ?_
                show Steps p.tables e below (T383.setTop (mkF m 133 #[.val (.int p0), .val (.int d0), .val (.int d1), .val (.int d2), .val (.int d3), .val (.int d4), .val (.int d5)] [(.ref b383), (.ref b383), (.ref b381), (.ref b381)])) _
                refine XS.iconst X383.here hx rfl (hb hby d1_133) ?_
                refine XS.iloadN X383.here hx rfl (hb hby d1_134) rfl ?_
                show Steps p.tables e below (T383.setTop (mkF m 135 #[.val (.int p0), .val (.int d0), .val (.int d1), .val (.int d2), .val (.int d3), .val (.int d4), .val (.int d5)] [(.int d0), (.int (0 : Int32)), (.ref b383), (.ref b383), (.ref b381), (.ref b381)])) _
                refine st385 _ ?_
                show Steps p.tables e below (T385.setTop (mkF m 136 #[.val (.int p0), .val (.int d0), .val (.int d1), .val (.int d2), .val (.int d3), .val (.int d4), .val (.int d5)] [(.ref b383), (.ref b381), (.ref b381)])) _
                refine XS.dup X385.here hx rfl (hb hby d1_136) rfl rfl ?_
                show Steps p.tables e below (T385.setTop (mkF m 137 #[.val (.int p0), .val (.int d0), .val (.int d1), .val (.int d2), .val (.int d3), .val (.int d4), .val (.int d5)] [(.ref b383), (.ref b383), (.ref b381), (.ref b381)])) _
                refine XS.iconst X385.here hx rfl (hb hby d1_137) ?_
                refine XS.iloadN X385.here hx rfl (hb hby d1_138) rfl ?_
                show Steps p.tables e below (T385.setTop (mkF m 139 #[.val (.int p0), .val (.int d0), .val (.int d1), .val (.int d2), .val (.int d3), .val (.int d4), .val (.int d5)] [(.int d1), (.int (1 : Int32)), (.ref b383), (.ref b383), (.ref b381), (.ref b381)])) _
                refine st387 _ ?_
                show Steps p.tables e below (T387.setTop (mkF m 140 #[.val (.int p0), .val (.int d0), .val (.int d1), .val (.int d2), .val (.int d3), .val (.int d4), .val (.int d5)] [(.ref b383), (.ref b381), (.ref b381)])) _
                refine XS.dup X387.here hx rfl (hb hby d1_140) rfl rfl ?_
                show Steps p.tables e below (T387.setTop (mkF m 141 #[.val (.int p0), .val (.int d0), .val (.int d1), .val (.int d2), .val (.int d3), .val (.int d4), .val (.int d5)] [(.ref b383), (.ref b383), (.ref b381), (.ref b381)])) _
                refine XS.iconst X387.here hx rfl (hb hby d1_141) ?_
                refine XS.iloadN X387.here hx rfl (hb hby d1_142) rfl ?_
                show Steps p.tables e below (T387.setTop (mkF m 143 #[.val (.int p0), .val (.int d0), .val (.int d1), .val (.int d2), .val (.int d3), .val (.int d4), .val (.int d5)] [(.int d2), (.int (2 : Int32)), (.ref b383), (.ref b383), (.ref b381), (.ref b381)])) _
                refine st389 _ ?_
                show Steps p.tables e below (T389.setTop (mkF m 144 #[.val (.int p0), .val (.int d0), .val (.int d1), .val (.int d2), .val (.int d3), .val (.int d4), .val (.int d5)] [(.ref b383), (.ref b381), (.ref b381)])) _
                refine XS.dup X389.here hx rfl (hb hby d1_144) rfl rfl ?_
                show Steps p.tables e below (T389.setTop (mkF m 145 #[.val (.int p0), .val (.int d0), .val (.int d1), .val (.int d2), .val (.int d3), .val (.int d4), .val (.int d5)] [(.ref b383), (.ref b383), (.ref b381), (.ref b381)])) _
                refine XS.iconst X389.here hx rfl (hb hby d1_145) ?_
                refine XS.iload X389.here hx rfl (hb hby d1_146) rfl ?_
                show Steps p.tables e below (T389.setTop (mkF m 148 #[.val (.int p0), .val (.int d0), .val (.int d1), .val (.int d2), .val (.int d3), .val (.int d4), .val (.int d5)] [(.int d3), (.int (3 : Int32)), (.ref b383), (.ref b383), (.ref b381), (.ref b381)])) _
                refine st391 _ ?_
                show Steps p.tables e below (T391.setTop (mkF m 149 #[.val (.int p0), .val (.int d0), .val (.int d1), .val (.int d2), .val (.int d3), .val (.int d4), .val (.int d5)] [(.ref b383), (.ref b381), (.ref b381)])) _
                refine XS.dup X391.here hx rfl (hb hby d1_149) rfl rfl ?_
                show Steps p.tables e below (T391.setTop (mkF m 150 #[.val (.int p0), .val (.int d0), .val (.int d1), .val (.int d2), .val (.int d3), .val (.int d4), .val (.int d5)] [(.ref b383), (.ref b383), (.ref b381), (.ref b381)])) _
                refine XS.iconst X391.here hx rfl (hb hby d1_150) ?_
                refine XS.iload X391.here hx rfl (hb hby d1_151) rfl ?_
                show Steps p.tables e below (T391.setTop (mkF m 153 #[.val (.int p0), .val (.int d0), .val (.int d1), .val (.int d2), .val (.int d3), .val (.int d4), .val (.int d5)] [(.int d4), (.int (4 : Int32)), (.ref b383), (.ref b383), (.ref b381), (.ref b381)])) _
                refine st393 _ ?_
                exact k
              by_cases hlat396 : ∀ c ∈ ([d0, d1, d2, d3, d4] : List Int32), ¬ (255 : Int32) < c
              · have hp398 : ∀ c ∈ ([d0, d1, d2, d3, d4] : List Int32), ¬ c < 0 ∧ ¬ (255 : Int32) < c := fun c hc => ⟨(hqm395 c hc).1, hlat396 c hc⟩
                have hws399 : ∀ d ∈ StrChars.Road.words, d.before a0 Z = true := fun d hd => hw d ((by decide +kernel : ∀ d ∈ StrChars.Road.words, d ∈ tables_1) d hd)
                have O400 : Old Z n0 h383 := Old.ext O382 E383
                have O401 : Old Z n0 h385 := Old.wr O400 W385 g_b383
                have O402 : Old Z n0 h387 := Old.wr O401 W387 g_b383
                have O403 : Old Z n0 h389 := Old.wr O402 W389 g_b383
                have O404 : Old Z n0 h391 := Old.wr O403 W391 g_b383
                have O405 : Old Z n0 h393 := Old.wr O404 W393 g_b383
                have c406 : Exa Z h393 b381 "java/lang/String" := (Exa.wr W393 (Exa.wr W391 (Exa.wr W389 (Exa.wr W387 (Exa.wr W385 (Exa.ext E383 A381))))))
                have c407 : Fld Z h393 b381 "java/lang/String" "value" "[B" .null := (Fld.other W393 (Fld.other W391 (Fld.other W389 (Fld.other W387 (Fld.other W385 (Fld.ext E383 (show Fld Z h381 b381 "java/lang/String" "value" "[B" .null from D381 (Or.inr (hwk hw 22 rfl)) (ty := (.array .byte)) (by decide))) (Or.inl (Exa.neArv c406 Ac394 (hwk hw 7 rfl)))) (Or.inl (Exa.neArv c406 Ac394 (hwk hw 7 rfl)))) (Or.inl (Exa.neArv c406 Ac394 (hwk hw 7 rfl)))) (Or.inl (Exa.neArv c406 Ac394 (hwk hw 7 rfl)))) (Or.inl (Exa.neArv c406 Ac394 (hwk hw 7 rfl))))
                have c408 : Fld Z h393 b381 "java/lang/String" "coder" "B" (.int (0 : Int32)) := (Fld.other W393 (Fld.other W391 (Fld.other W389 (Fld.other W387 (Fld.other W385 (Fld.ext E383 (show Fld Z h381 b381 "java/lang/String" "coder" "B" (.int (0 : Int32)) from D381 (Or.inr (hwk hw 23 rfl)) (ty := .byte) (by decide))) (Or.inl (Exa.neArv c406 Ac394 (hwk hw 7 rfl)))) (Or.inl (Exa.neArv c406 Ac394 (hwk hw 7 rfl)))) (Or.inl (Exa.neArv c406 Ac394 (hwk hw 7 rfl)))) (Or.inl (Exa.neArv c406 Ac394 (hwk hw 7 rfl)))) (Or.inl (Exa.neArv c406 Ac394 (hwk hw 7 rfl))))
                have c409 : Sta Z h393 "java/lang/String" "COMPACT_STRINGS" "Z" (.int zc) := Sta.ext (O405).2 SZ
                obtain ⟨_, _, ⟨T410, L410, k410, n410⟩, -, X410, ⟨Lc410, hQ410, l410, y410, z410⟩, st410⟩ := X393.specialBack hx (y := (⟨"java/lang/String", "<init>", "([C)V"⟩ : MethodName)) rfl hown (mvT hZ (hwk hw 10 rfl)) (mvT hZ (hwk hw 11 rfl)) (mvT hZ (hwk hw 12 rfl)) (by decide) (StrChars.Road.backV (W := 1) hZ hws399 (kI := 4) (hwk hw 7 rfl) (cs := ([d0, d1, d2, d3, d4] : List Int32)) (bs := (([d0, d1, d2, d3, d4] : List Int32)).map (fun c => c.toInt8.toInt32)) (n := 5) g_b381 (old_le O405) c406 c407 c408 Ac394 c409 PZ rfl rfl (by decide) (by decide) hp398 rfl (by decide) (by decide)) (g := (mkF m 154 #[.val (.int p0), .val (.int d0), .val (.int d1), .val (.int d2), .val (.int d3), .val (.int d4), .val (.int d5)] [(.ref b383), (.ref b381), (.ref b381)])) rfl (by rw [hml]; rfl) (Steps.refl _) (a := b381) (argsL := [(.ref b383)]) (rest := [(.ref b381)]) (lenOf pd_23 rfl) rfl (by show 2 * 0 + _ ≤ _; exact Nat.le_of_eq rfl) (hb hby d1_154) (fun _ _ => ⟨rfl, e393, (by decide : 2 + 1 ≤ _), (by decide : 9 + 5 ≤ _)⟩)
                dsimp only [Pt.U, Pt.locs, Pt.cells, Pt.slots] at X410 l410 y410 z410 st410 hQ410
                subst l410 y410 z410
                unfold StrChars.Road.QV at hQ410
                obtain ⟨rfl, N410q, K410, E410x, C410, t410, kb410, g_t410, ge_t410, ne410, V410, A410⟩ := hQ410
                have N410 := Fr.app N393 N410q
                have K411 : Keep h0 h381 [] := Keep.ext (Keep.refl h0 []) E381
                have K412 : Keep h0 h383 [] := Keep.ext K411 E383
                have K413 : Keep h0 h385 [] := Keep.wr K412 W385 (Or.inr (Nat.le_trans (Nat.le_trans (Nat.le_refl _) E381.1) (Nat.le_of_eq g383.symm)))
                have K414 : Keep h0 h387 [] := Keep.wr K413 W387 (Or.inr (Nat.le_trans (Nat.le_trans (Nat.le_refl _) E381.1) (Nat.le_of_eq g383.symm)))
                have K415 : Keep h0 h389 [] := Keep.wr K414 W389 (Or.inr (Nat.le_trans (Nat.le_trans (Nat.le_refl _) E381.1) (Nat.le_of_eq g383.symm)))
                have K416 : Keep h0 h391 [] := Keep.wr K415 W391 (Or.inr (Nat.le_trans (Nat.le_trans (Nat.le_refl _) E381.1) (Nat.le_of_eq g383.symm)))
                have K417 : Keep h0 h393 [] := Keep.wr K416 W393 (Or.inr (Nat.le_trans (Nat.le_trans (Nat.le_refl _) E381.1) (Nat.le_of_eq g383.symm)))
                have K418 : Keep h0 T410.heap [] := Keep.trans K417 K410 (allS (Or.inr (Nat.le_trans (Nat.le_refl _) (Nat.le_of_eq g381.symm))) all0)
                have CR419 : CHr Z consts_1 s.vm h0 s.vm h381 := CHr.trans CR0 (CHr.ext E381 CR0.1)
                have CR420 : CHr Z consts_1 s.vm h0 s.vm h383 := CHr.trans CR419 (CHr.ext E383 CR419.1)
                have Sf421 : Safe Z consts_1 s.vm h381 b383 := Safe.new (Nat.le_of_eq g383.symm)
                have Sf422 : Safe Z consts_1 s.vm h383 b383 := (Safe.ext E383 CR419.1 Sf421)
                have CR423 : CHr Z consts_1 s.vm h0 s.vm h385 := CHr.trans CR420 (CHr.wr W385 Sf422 CR420.1)
                have Sf424 : Safe Z consts_1 s.vm h385 b383 := (Safe.wr W385 Sf422 CR420.1 Sf422)
                have CR425 : CHr Z consts_1 s.vm h0 s.vm h387 := CHr.trans CR423 (CHr.wr W387 Sf424 CR423.1)
                have Sf426 : Safe Z consts_1 s.vm h387 b383 := (Safe.wr W387 Sf424 CR423.1 Sf424)
                have CR427 : CHr Z consts_1 s.vm h0 s.vm h389 := CHr.trans CR425 (CHr.wr W389 Sf426 CR425.1)
                have Sf428 : Safe Z consts_1 s.vm h389 b383 := (Safe.wr W389 Sf426 CR425.1 Sf426)
                have CR429 : CHr Z consts_1 s.vm h0 s.vm h391 := CHr.trans CR427 (CHr.wr W391 Sf428 CR427.1)
                have Sf430 : Safe Z consts_1 s.vm h391 b383 := (Safe.wr W391 Sf428 CR427.1 Sf428)
                have CR431 : CHr Z consts_1 s.vm h0 s.vm h393 := CHr.trans CR429 (CHr.wr W393 Sf430 CR429.1)
                have Sf432 : Safe Z consts_1 s.vm h0 b381 := Safe.new (Nat.le_of_eq g381.symm)
                have Sf433 : Safe Z consts_1 s.vm h393 b381 := (Safe.wr W393 Sf430 CR429.1 (Safe.wr W391 Sf428 CR427.1 (Safe.wr W389 Sf426 CR425.1 (Safe.wr W387 Sf424 CR423.1 (Safe.wr W385 Sf422 CR420.1 (Safe.ext E383 CR419.1 (Safe.ext E381 CR0.1 Sf432)))))))
                have CR434 : CHr Z consts_1 s.vm h0 s.vm T410.heap := CHr.trans CR431 (CHr.keep K410 (allS Sf433 all0) CR431.1)
                obtain ⟨fs, hr, hrun, hended, hRE⟩ := X410.leaveW hS0 (show _ ≤ T410.heap.size from by rw [(rfl : T410.heap = T410.heap)]; exact (Nat.le_trans (Nat.le_refl _) (Nat.le_trans (Nat.le_trans (Nat.le_trans (Nat.le_trans (Nat.le_trans (Nat.le_trans (Nat.le_trans (Nat.le_trans (Nat.le_refl _) E381.1) E383.1) (Nat.le_of_eq W385.size.symm)) (Nat.le_of_eq W387.size.symm)) (Nat.le_of_eq W389.size.symm)) (Nat.le_of_eq W391.size.symm)) (Nat.le_of_eq W393.size.symm)) K410.1))) (v := some (.ref b381)) (fun h => by rw [Bd.returns] at h; cases h)
                have CRl : CHr Z consts_1 s.vm s.heap (T410.setFrames fs).vm (T410.setFrames fs).heap := by
                  have q := CHr.trans CR434 (CHv.at X410 hZ hEL CR434.1)
                  rw [← hh, ← (rfl : T410.heap = T410.heap)] at q
                  exact q
                refine ⟨_, _, S397 _ ?_, hrun, hended, _, _, rfl, ?_, CRl, hRE.1, hRE.2.1, hRE.2.2.1, hRE.2.2.2.mono (by decide) (by decide)⟩
                · show Steps p.tables e below (T393.setTop (mkF m 154 #[.val (.int p0), .val (.int d0), .val (.int d1), .val (.int d2), .val (.int d3), .val (.int d4), .val (.int d5)] [(.ref b383), (.ref b381), (.ref b381)])) _
                  refine st410.trans ?_
                  show Steps p.tables e below (T410.setTop (mkF m 157 #[.val (.int p0), .val (.int d0), .val (.int d1), .val (.int d2), .val (.int d3), .val (.int d4), .val (.int d5)] [(.ref b381)])) _
                  exact Jvm.RoadKit.retOut X410 hx Bd.returns rfl (Or.inr (Or.inr (Or.inr (Or.inr ⟨rfl, rfl, rfl⟩)))) (hb hby d1_157) hr
                · show Q_rm1 Z p0 d0 d1 d2 d3 d4 d5 zc h0 n0 _ T410.heap _
                  unfold Q_rm1
                  exact ⟨b381, t410, kb410, (0 : Int32), (5 : Int32), (((([d0, d1, d2, d3, d4] : List Int32)).map (fun c => c.toInt8.toInt32)).map Value.int), rfl, N410, K418, (Nat.le_trans (Nat.le_refl _) (Nat.le_of_eq g381.symm)), E410x, V410, C410, A410, (by rw [show (CS p0 d0 d1 d2 d3 d4 d5) = ([d0, d1, d2, d3, d4] : List Int32) from (by unfold CS; rw [if_neg hc101, if_neg hc119, if_neg hc169, if_neg hc229, if_neg hc299, if_pos hc379])]; exact StrChars.Road.codOf rfl hlat396)⟩
              · have c435 : Exa Z h393 b381 "java/lang/String" := (Exa.wr W393 (Exa.wr W391 (Exa.wr W389 (Exa.wr W387 (Exa.wr W385 (Exa.ext E383 A381))))))
                have c436 : Fld Z h393 b381 "java/lang/String" "value" "[B" .null := (Fld.other W393 (Fld.other W391 (Fld.other W389 (Fld.other W387 (Fld.other W385 (Fld.ext E383 (show Fld Z h381 b381 "java/lang/String" "value" "[B" .null from D381 (Or.inr (hwk hw 22 rfl)) (ty := (.array .byte)) (by decide))) (Or.inl (Exa.neArv c435 Ac394 (hwk hw 7 rfl)))) (Or.inl (Exa.neArv c435 Ac394 (hwk hw 7 rfl)))) (Or.inl (Exa.neArv c435 Ac394 (hwk hw 7 rfl)))) (Or.inl (Exa.neArv c435 Ac394 (hwk hw 7 rfl)))) (Or.inl (Exa.neArv c435 Ac394 (hwk hw 7 rfl))))
                have c437 : Fld Z h393 b381 "java/lang/String" "coder" "B" (.int (0 : Int32)) := (Fld.other W393 (Fld.other W391 (Fld.other W389 (Fld.other W387 (Fld.other W385 (Fld.ext E383 (show Fld Z h381 b381 "java/lang/String" "coder" "B" (.int (0 : Int32)) from D381 (Or.inr (hwk hw 23 rfl)) (ty := .byte) (by decide))) (Or.inl (Exa.neArv c435 Ac394 (hwk hw 7 rfl)))) (Or.inl (Exa.neArv c435 Ac394 (hwk hw 7 rfl)))) (Or.inl (Exa.neArv c435 Ac394 (hwk hw 7 rfl)))) (Or.inl (Exa.neArv c435 Ac394 (hwk hw 7 rfl)))) (Or.inl (Exa.neArv c435 Ac394 (hwk hw 7 rfl))))
                have O438 : Old Z n0 h383 := Old.ext O382 E383
                have O439 : Old Z n0 h385 := Old.wr O438 W385 g_b383
                have O440 : Old Z n0 h387 := Old.wr O439 W387 g_b383
                have O441 : Old Z n0 h389 := Old.wr O440 W389 g_b383
                have O442 : Old Z n0 h391 := Old.wr O441 W391 g_b383
                have O443 : Old Z n0 h393 := Old.wr O442 W393 g_b383
                obtain ⟨_, _, ⟨T444, L444, k444, n444⟩, -, X444, ⟨Lc444, hQ444, l444, y444, z444⟩, st444⟩ := X393.specialBack hx (y := (⟨"java/lang/String", "<init>", "([C)V"⟩ : MethodName)) rfl hown (mvT hZ (hwk hw 10 rfl)) (mvT hZ (hwk hw 11 rfl)) (mvT hZ (hwk hw 12 rfl)) (by decide) (backOf (W := 1) (w2 l Z a0 hw [] b381 b383 k383 (.int (0 : Int32)) ([d0, d1, d2, d3, d4] : List Int32) zc h393 n0 O443 c435 g_b381 c436 c437 (Ne.symm (Exa.neArv c435 Ac394 (hwk hw 7 rfl))) Ac394 (Nat.le_of_ble_eq_true rfl) hqm395 (own_nall hlat396) (Nat.le_of_ble_eq_true rfl) SZ PZ SA SH SL) hZ (hwk hw 12 rfl) (hwk hw 8 rfl) (by decide) (by decide)) (g := (mkF m 154 #[.val (.int p0), .val (.int d0), .val (.int d1), .val (.int d2), .val (.int d3), .val (.int d4), .val (.int d5)] [(.ref b383), (.ref b381), (.ref b381)])) rfl (by rw [hml]; rfl) (Steps.refl _) (a := b381) (argsL := [(.ref b383)]) (rest := [(.ref b381)]) (lenOf pd_23 rfl) rfl (by show 2 * 0 + _ ≤ _; exact Nat.le_of_eq rfl) (hb hby d1_154) (fun _ _ => ⟨rfl, e393, (by decide : 2 + 2 ≤ _), (by decide : 9 + 18 ≤ _)⟩)
                dsimp only [Pt.U, Pt.locs, Pt.cells, Pt.slots] at X444 l444 y444 z444 st444 hQ444
                subst l444 y444 z444
                unfold Q_w2 at hQ444
                obtain ⟨o_444, ko_444, rfl, N444q, K444, f444_0, f444_1, f444_2, f444_3⟩ := hQ444
                have N444 := Fr.app N393 N444q
                have K445 : Keep h0 h381 [] := Keep.ext (Keep.refl h0 []) E381
                have K446 : Keep h0 h383 [] := Keep.ext K445 E383
                have K447 : Keep h0 h385 [] := Keep.wr K446 W385 (Or.inr (Nat.le_trans (Nat.le_trans (Nat.le_refl _) E381.1) (Nat.le_of_eq g383.symm)))
                have K448 : Keep h0 h387 [] := Keep.wr K447 W387 (Or.inr (Nat.le_trans (Nat.le_trans (Nat.le_refl _) E381.1) (Nat.le_of_eq g383.symm)))
                have K449 : Keep h0 h389 [] := Keep.wr K448 W389 (Or.inr (Nat.le_trans (Nat.le_trans (Nat.le_refl _) E381.1) (Nat.le_of_eq g383.symm)))
                have K450 : Keep h0 h391 [] := Keep.wr K449 W391 (Or.inr (Nat.le_trans (Nat.le_trans (Nat.le_refl _) E381.1) (Nat.le_of_eq g383.symm)))
                have K451 : Keep h0 h393 [] := Keep.wr K450 W393 (Or.inr (Nat.le_trans (Nat.le_trans (Nat.le_refl _) E381.1) (Nat.le_of_eq g383.symm)))
                have K452 : Keep h0 T444.heap [] := Keep.trans K451 K444 (allS (Or.inr (Nat.le_trans (Nat.le_refl _) (Nat.le_of_eq g381.symm))) all0)
                have CR453 : CHr Z consts_1 s.vm h0 s.vm h381 := CHr.trans CR0 (CHr.ext E381 CR0.1)
                have CR454 : CHr Z consts_1 s.vm h0 s.vm h383 := CHr.trans CR453 (CHr.ext E383 CR453.1)
                have Sf455 : Safe Z consts_1 s.vm h381 b383 := Safe.new (Nat.le_of_eq g383.symm)
                have Sf456 : Safe Z consts_1 s.vm h383 b383 := (Safe.ext E383 CR453.1 Sf455)
                have CR457 : CHr Z consts_1 s.vm h0 s.vm h385 := CHr.trans CR454 (CHr.wr W385 Sf456 CR454.1)
                have Sf458 : Safe Z consts_1 s.vm h385 b383 := (Safe.wr W385 Sf456 CR454.1 Sf456)
                have CR459 : CHr Z consts_1 s.vm h0 s.vm h387 := CHr.trans CR457 (CHr.wr W387 Sf458 CR457.1)
                have Sf460 : Safe Z consts_1 s.vm h387 b383 := (Safe.wr W387 Sf458 CR457.1 Sf458)
                have CR461 : CHr Z consts_1 s.vm h0 s.vm h389 := CHr.trans CR459 (CHr.wr W389 Sf460 CR459.1)
                have Sf462 : Safe Z consts_1 s.vm h389 b383 := (Safe.wr W389 Sf460 CR459.1 Sf460)
                have CR463 : CHr Z consts_1 s.vm h0 s.vm h391 := CHr.trans CR461 (CHr.wr W391 Sf462 CR461.1)
                have Sf464 : Safe Z consts_1 s.vm h391 b383 := (Safe.wr W391 Sf462 CR461.1 Sf462)
                have CR465 : CHr Z consts_1 s.vm h0 s.vm h393 := CHr.trans CR463 (CHr.wr W393 Sf464 CR463.1)
                have Sf466 : Safe Z consts_1 s.vm h0 b381 := Safe.new (Nat.le_of_eq g381.symm)
                have Sf467 : Safe Z consts_1 s.vm h393 b381 := (Safe.wr W393 Sf464 CR463.1 (Safe.wr W391 Sf462 CR461.1 (Safe.wr W389 Sf460 CR459.1 (Safe.wr W387 Sf458 CR457.1 (Safe.wr W385 Sf456 CR454.1 (Safe.ext E383 CR453.1 (Safe.ext E381 CR0.1 Sf466)))))))
                have CR468 : CHr Z consts_1 s.vm h0 s.vm T444.heap := CHr.trans CR465 (CHr.keep K444 (allS Sf467 all0) CR465.1)
                obtain ⟨fs, hr, hrun, hended, hRE⟩ := X444.leaveW hS0 (show _ ≤ T444.heap.size from by rw [(rfl : T444.heap = T444.heap)]; exact (Nat.le_trans (Nat.le_refl _) (Nat.le_trans (Nat.le_trans (Nat.le_trans (Nat.le_trans (Nat.le_trans (Nat.le_trans (Nat.le_trans (Nat.le_trans (Nat.le_refl _) E381.1) E383.1) (Nat.le_of_eq W385.size.symm)) (Nat.le_of_eq W387.size.symm)) (Nat.le_of_eq W389.size.symm)) (Nat.le_of_eq W391.size.symm)) (Nat.le_of_eq W393.size.symm)) K444.1))) (v := some (.ref b381)) (fun h => by rw [Bd.returns] at h; cases h)
                have CRl : CHr Z consts_1 s.vm s.heap (T444.setFrames fs).vm (T444.setFrames fs).heap := by
                  have q := CHr.trans CR468 (CHv.at X444 hZ hEL CR468.1)
                  rw [← hh, ← (rfl : T444.heap = T444.heap)] at q
                  exact q
                refine ⟨_, _, S397 _ ?_, hrun, hended, _, _, rfl, ?_, CRl, hRE.1, hRE.2.1, hRE.2.2.1, hRE.2.2.2.mono (by decide) (by decide)⟩
                · show Steps p.tables e below (T393.setTop (mkF m 154 #[.val (.int p0), .val (.int d0), .val (.int d1), .val (.int d2), .val (.int d3), .val (.int d4), .val (.int d5)] [(.ref b383), (.ref b381), (.ref b381)])) _
                  refine st444.trans ?_
                  show Steps p.tables e below (T444.setTop (mkF m 157 #[.val (.int p0), .val (.int d0), .val (.int d1), .val (.int d2), .val (.int d3), .val (.int d4), .val (.int d5)] [(.ref b381)])) _
                  exact Jvm.RoadKit.retOut X444 hx Bd.returns rfl (Or.inr (Or.inr (Or.inr (Or.inr ⟨rfl, rfl, rfl⟩)))) (hb hby d1_157) hr
                · show Q_rm1 Z p0 d0 d1 d2 d3 d4 d5 zc h0 n0 _ T444.heap _
                  unfold Q_rm1
                  exact ⟨b381, o_444, ko_444, (1 : Int32), (Int32.ofNat (2 * ([d0, d1, d2, d3, d4] : List Int32).length)), (wideBytes ([d0, d1, d2, d3, d4] : List Int32)), rfl, N444, K452, (Nat.le_trans (Nat.le_refl _) (Nat.le_of_eq g381.symm)), f444_0, f444_2, f444_1, f444_3, (by rw [show (CS p0 d0 d1 d2 d3 d4 d5) = ([d0, d1, d2, d3, d4] : List Int32) from (by unfold CS; rw [if_neg hc101, if_neg hc119, if_neg hc169, if_neg hc229, if_neg hc299, if_pos hc379])]; exact Or.inr ⟨rfl, rfl, rfl, own_nex hlat396⟩)⟩
            · obtain ⟨T469, h469, X469, e469, E469, A469, D469, -, st469⟩ := newO X0 hx hZ hown (hwk hw 6 rfl) (hwk hw 7 rfl) (hwk hw 8 rfl) e0 (g := (mkF m 158 #[.val (.int p0), .val (.int d0), .val (.int d1), .val (.int d2), .val (.int d3), .val (.int d4), .val (.int d5)] [])) rfl (hb hby d1_158) (by decide) (by decide)
              obtain ⟨b469, g469⟩ : ∃ z, z = h0.size := ⟨_, rfl⟩
              rw [← g469] at A469 D469 st469
              have g_b469 : n0 ≤ b469 := Nat.le_trans (old_le O0) (Nat.le_of_eq g469.symm)
              have O470 : Old Z n0 h469 := Old.ext O0 E469
              obtain ⟨T471, h471, k471, X471, e471, E471, A471, st471⟩ := newP X469 hx hZ (hwk hw 9 rfl) e469 (g := (mkF m 164 #[.val (.int p0), .val (.int d0), .val (.int d1), .val (.int d2), .val (.int d3), .val (.int d4), .val (.int d5)] [(.int (6 : Int32)), (.ref b469), (.ref b469)])) rfl (hb hby d1_164) rfl (by decide) (cap := 6) (by decide) (by decide) (by decide) (by decide)
              obtain ⟨b471, g471⟩ : ∃ z, z = h469.size := ⟨_, rfl⟩
              rw [← g471] at A471 st471
              have g_b471 : n0 ≤ b471 := Nat.le_trans (old_le O470) (Nat.le_of_eq g471.symm)
              have V471 : Arv Z h471 b471 k471 .char (6 : Int32) [(.int (0 : Int32)), (.int (0 : Int32)), (.int (0 : Int32)), (.int (0 : Int32)), (.int (0 : Int32)), (.int (0 : Int32))] (.int (0 : Int32)) := (Arv.new A471 (by decide)).pad (pad_rep [] (.int (0 : Int32)) 6)
              obtain ⟨clq472, Arq472, kqq472, Szq472, Nnq472, Hsq472, Gsq472⟩ := id V471
              have hinq472 : ¬ ((0 : Int32) < 0 ∨ clq472.slots.size ≤ ((0 : Int32)).toNatClampNeg) := inb_of Szq472 ⟨by decide, by decide⟩
              obtain ⟨T473, h473, X473, e473, W473, st473⟩ := stC X471 hx hZ e471 Arq472 (j := (0 : Int32)) hinq472 (g := (mkF m 169 #[.val (.int p0), .val (.int d0), .val (.int d1), .val (.int d2), .val (.int d3), .val (.int d4), .val (.int d5)] [(.int d0), (.int (0 : Int32)), (.ref b471), (.ref b471), (.ref b469), (.ref b469)])) rfl rfl (hb hby d1_169)
              have V473 : Arv Z h473 b471 k471 .char (6 : Int32) [(.int (nar .char d0)), (.int (0 : Int32)), (.int (0 : Int32)), (.int (0 : Int32)), (.int (0 : Int32)), (.int (0 : Int32))] (.int (0 : Int32)) := Arv.set Arq472 kqq472 Szq472 Nnq472 Hsq472 Gsq472 (fits_nar_char _) W473 0 rfl (Nat.le_of_ble_eq_true rfl)
              have N473 := Fr.snoc X473 N0 g_b471
              obtain ⟨clq474, Arq474, kqq474, Szq474, Nnq474, Hsq474, Gsq474⟩ := id V473
              have hinq474 : ¬ ((1 : Int32) < 0 ∨ clq474.slots.size ≤ ((1 : Int32)).toNatClampNeg) := inb_of Szq474 ⟨by decide, by decide⟩
              obtain ⟨T475, h475, X475, e475, W475, st475⟩ := stC X473 hx hZ e473 Arq474 (j := (1 : Int32)) hinq474 (g := (mkF m 173 #[.val (.int p0), .val (.int d0), .val (.int d1), .val (.int d2), .val (.int d3), .val (.int d4), .val (.int d5)] [(.int d1), (.int (1 : Int32)), (.ref b471), (.ref b471), (.ref b469), (.ref b469)])) rfl rfl (hb hby d1_173)
              have V475 : Arv Z h475 b471 k471 .char (6 : Int32) [(.int (nar .char d0)), (.int (nar .char d1)), (.int (0 : Int32)), (.int (0 : Int32)), (.int (0 : Int32)), (.int (0 : Int32))] (.int (0 : Int32)) := Arv.set Arq474 kqq474 Szq474 Nnq474 Hsq474 Gsq474 (fits_nar_char _) W475 1 rfl (Nat.le_of_ble_eq_true rfl)
              have N475 := Fr.snoc X475 N473 g_b471
              obtain ⟨clq476, Arq476, kqq476, Szq476, Nnq476, Hsq476, Gsq476⟩ := id V475
              have hinq476 : ¬ ((2 : Int32) < 0 ∨ clq476.slots.size ≤ ((2 : Int32)).toNatClampNeg) := inb_of Szq476 ⟨by decide, by decide⟩
              obtain ⟨T477, h477, X477, e477, W477, st477⟩ := stC X475 hx hZ e475 Arq476 (j := (2 : Int32)) hinq476 (g := (mkF m 177 #[.val (.int p0), .val (.int d0), .val (.int d1), .val (.int d2), .val (.int d3), .val (.int d4), .val (.int d5)] [(.int d2), (.int (2 : Int32)), (.ref b471), (.ref b471), (.ref b469), (.ref b469)])) rfl rfl (hb hby d1_177)
              have V477 : Arv Z h477 b471 k471 .char (6 : Int32) [(.int (nar .char d0)), (.int (nar .char d1)), (.int (nar .char d2)), (.int (0 : Int32)), (.int (0 : Int32)), (.int (0 : Int32))] (.int (0 : Int32)) := Arv.set Arq476 kqq476 Szq476 Nnq476 Hsq476 Gsq476 (fits_nar_char _) W477 2 rfl (Nat.le_of_ble_eq_true rfl)
              have N477 := Fr.snoc X477 N475 g_b471
              obtain ⟨clq478, Arq478, kqq478, Szq478, Nnq478, Hsq478, Gsq478⟩ := id V477
              have hinq478 : ¬ ((3 : Int32) < 0 ∨ clq478.slots.size ≤ ((3 : Int32)).toNatClampNeg) := inb_of Szq478 ⟨by decide, by decide⟩
              obtain ⟨T479, h479, X479, e479, W479, st479⟩ := stC X477 hx hZ e477 Arq478 (j := (3 : Int32)) hinq478 (g := (mkF m 182 #[.val (.int p0), .val (.int d0), .val (.int d1), .val (.int d2), .val (.int d3), .val (.int d4), .val (.int d5)] [(.int d3), (.int (3 : Int32)), (.ref b471), (.ref b471), (.ref b469), (.ref b469)])) rfl rfl (hb hby d1_182)
              have V479 : Arv Z h479 b471 k471 .char (6 : Int32) [(.int (nar .char d0)), (.int (nar .char d1)), (.int (nar .char d2)), (.int (nar .char d3)), (.int (0 : Int32)), (.int (0 : Int32))] (.int (0 : Int32)) := Arv.set Arq478 kqq478 Szq478 Nnq478 Hsq478 Gsq478 (fits_nar_char _) W479 3 rfl (Nat.le_of_ble_eq_true rfl)
              have N479 := Fr.snoc X479 N477 g_b471
              obtain ⟨clq480, Arq480, kqq480, Szq480, Nnq480, Hsq480, Gsq480⟩ := id V479
              have hinq480 : ¬ ((4 : Int32) < 0 ∨ clq480.slots.size ≤ ((4 : Int32)).toNatClampNeg) := inb_of Szq480 ⟨by decide, by decide⟩
              obtain ⟨T481, h481, X481, e481, W481, st481⟩ := stC X479 hx hZ e479 Arq480 (j := (4 : Int32)) hinq480 (g := (mkF m 187 #[.val (.int p0), .val (.int d0), .val (.int d1), .val (.int d2), .val (.int d3), .val (.int d4), .val (.int d5)] [(.int d4), (.int (4 : Int32)), (.ref b471), (.ref b471), (.ref b469), (.ref b469)])) rfl rfl (hb hby d1_187)
              have V481 : Arv Z h481 b471 k471 .char (6 : Int32) [(.int (nar .char d0)), (.int (nar .char d1)), (.int (nar .char d2)), (.int (nar .char d3)), (.int (nar .char d4)), (.int (0 : Int32))] (.int (0 : Int32)) := Arv.set Arq480 kqq480 Szq480 Nnq480 Hsq480 Gsq480 (fits_nar_char _) W481 4 rfl (Nat.le_of_ble_eq_true rfl)
              have N481 := Fr.snoc X481 N479 g_b471
              obtain ⟨clq482, Arq482, kqq482, Szq482, Nnq482, Hsq482, Gsq482⟩ := id V481
              have hinq482 : ¬ ((5 : Int32) < 0 ∨ clq482.slots.size ≤ ((5 : Int32)).toNatClampNeg) := inb_of Szq482 ⟨by decide, by decide⟩
              obtain ⟨T483, h483, X483, e483, W483, st483⟩ := stC X481 hx hZ e481 Arq482 (j := (5 : Int32)) hinq482 (g := (mkF m 192 #[.val (.int p0), .val (.int d0), .val (.int d1), .val (.int d2), .val (.int d3), .val (.int d4), .val (.int d5)] [(.int d5), (.int (5 : Int32)), (.ref b471), (.ref b471), (.ref b469), (.ref b469)])) rfl rfl (hb hby d1_192)
              have V483 : Arv Z h483 b471 k471 .char (6 : Int32) [(.int (nar .char d0)), (.int (nar .char d1)), (.int (nar .char d2)), (.int (nar .char d3)), (.int (nar .char d4)), (.int (nar .char d5))] (.int (0 : Int32)) := Arv.set Arq482 kqq482 Szq482 Nnq482 Hsq482 Gsq482 (fits_nar_char _) W483 5 rfl (Nat.le_of_ble_eq_true rfl)
              have N483 := Fr.snoc X483 N481 g_b471
              have Ac484 : Arv Z h483 b471 k471 .char (6 : Int32) [(.int d0), (.int d1), (.int d2), (.int d3), (.int d4), (.int d5)] (.int (0 : Int32)) := own_arv V483 (by rw [own_nar16 g0, own_nar16 g1, own_nar16 g2, own_nar16 g3, own_nar16 g4, own_nar16 g5])
              have hqm485 : ∀ c ∈ ([d0, d1, d2, d3, d4, d5] : List Int32), C16 c := by
                intro c hc
                simp only [List.mem_cons, List.not_mem_nil, or_false] at hc
                rcases hc with rfl | rfl | rfl | rfl | rfl | rfl
                · exact g0
                · exact g1
                · exact g2
                · exact g3
                · exact g4
                · exact g5
              have S487 : ∀ t, Steps p.tables e below (T483.setTop (mkF m 193 #[.val (.int p0), .val (.int d0), .val (.int d1), .val (.int d2), .val (.int d3), .val (.int d4), .val (.int d5)] [(.ref b471), (.ref b469), (.ref b469)])) t → Steps p.tables e below (s₁.setTop (entryFrame m #[(.int p0), (.int d0), (.int d1), (.int d2), (.int d3), (.int d4), (.int d5)] 7)) t := fun t k => by
                refine S380 t ?_
                show Steps p.tables e below (s₁.setTop (mkF m 122 #[.val (.int p0), .val (.int d0), .val (.int d1), .val (.int d2), .val (.int d3), .val (.int d4), .val (.int d5)] [(.int (5 : Int32)), (.int p0)])) _
                refine XS.icmpYes X0.here hx rfl (pc0 := 122) (pc' := 158) rfl (hb hby d1_122) rfl (feq hc379).2 (by decide) (by decide) ?_
                show Steps p.tables e below (s₁.setTop (mkF m 158 #[.val (.int p0), .val (.int d0), .val (.int d1), .val (.int d2), .val (.int d3), .val (.int d4), .val (.int d5)] [])) _
                refine st469 _ ?_
                show Steps p.tables e below (T469.setTop (mkF m 161 #[.val (.int p0), .val (.int d0), .val (.int d1), .val (.int d2), .val (.int d3), .val (.int d4), .val (.int d5)] [(.ref b469)])) _
                refine XS.dup X469.here hx rfl (hb hby d1_161) rfl rfl ?_
                show Steps p.tables e below (T469.setTop (mkF m 162 #[.val (.int p0), .val (.int d0), .val (.int d1), .val (.int d2), .val (.int d3), .val (.int d4), .val (.int d5)] [(.ref b469), (.ref b469)])) _
                refine XS.bipush X469.here hx rfl (hb hby d1_162) ?_
                show Steps p.tables e below (T469.setTop (mkF m 164 #[.val (.int p0), .val (.int d0), .val (.int d1), .val (.int d2), .val (.int d3), .val (.int d4), .val (.int d5)] [(.int (6 : Int32)), (.ref b469), (.ref b469)])) _
                refine st471 _ ?_
                show Steps p.tables e below (T471.setTop (mkF m 166 #[.val (.int p0), .val (.int d0), .val (.int d1), .val (.int d2), .val (.int d3), .val (.int d4), .val (.int d5)] [(.ref b471), (.ref b469), (.ref b469)])) _
                refine XS.dup X471.here hx rfl (hb hby d1_166) rfl rfl ?_
                show Steps p.tables e below (T471.setTop (mkF m 167 #[.val (.int p0), .val (.int d0), .val (.int d1), .val (.int d2), .val (.int d3), .val (.int d4), .val (.int d5)] [(.ref b471), (.ref b471), (.ref b469), (.ref b469)])) _
                refine XS.iconst X471.here hx rfl (hb hby d1_167) ?_
                refine XS.iloadN X471.here hx rfl (hb hby d1_168) rfl ?_
                show Steps p.tables e below (T471.setTop (mkF m 169 #[.val (.int p0), .val (.int d0), .val (.int d1), .val (.int d2), .val (.int d3), .val (.int d4), .val (.int d5)] [(.int d0), (.int (0 : Int32)), (.ref b471), (.ref b471), (.ref b469), (.ref b469)])) _
                refine st473 _ ?_
                show Steps p.tables e below (T473.setTop (mkF m 170 #[.val (.int p0), .val (.int d0), .val (.int d1), .val (.int d2), .val (.int d3), .val (.int d4), .val (.int d5)] [(.ref b471), (.ref b469), (.ref b469)])) _
                refine XS.dup X473.here hx rfl (hb hby d1_170) rfl rfl ?_
                show Steps p.tables e below (T473.setTop (mkF m 171 #[.val (.int p0), .val (.int d0), .val (.int d1), .val (.int d2), .val (.int d3), .val (.int d4), .val (.int d5)] [(.ref b471), (.ref b471), (.ref b469), (.ref b469)])) _
                refine XS.iconst X473.here hx rfl (hb hby d1_171) ?_
                refine XS.iloadN X473.here hx rfl (hb hby d1_172) rfl ?_
                show Steps p.tables e below (T473.setTop (mkF m 173 #[.val (.int p0), .val (.int d0), .val (.int d1), .val (.int d2), .val (.int d3), .val (.int d4), .val (.int d5)] [(.int d1), (.int (1 : Int32)), (.ref b471), (.ref b471), (.ref b469), (.ref b469)])) _
                refine st475 _ ?_
                show Steps p.tables e below (T475.setTop (mkF m 174 #[.val (.int p0), .val (.int d0), .val (.int d1), .val (.int d2), .val (.int d3), .val (.int d4), .val (.int d5)] [(.ref b471), (.ref b469), (.ref b469)])) _
                refine XS.dup X475.here hx rfl (hb hby d1_174) rfl rfl ?_
                show Steps p.tables e below (T475.setTop (mkF m 175 #[.val (.int p0), .val (.int d0), .val (.int d1), .val (.int d2), .val (.int d3), .val (.int d4), .val (.int d5)] [(.ref b471), (.ref b471), (.ref b469), (.ref b469)])) _
                refine XS.iconst X475.here hx rfl (hb hby d1_175) ?_
                refine XS.iloadN X475.here hx rfl (hb hby d1_176) rfl ?_
                show Steps p.tables e below (T475.setTop (mkF m 177 #[.val (.int p0), .val (.int d0), .val (.int d1), .val (.int d2), .val (.int d3), .val (.int d4), .val (.int d5)] [(.int d2), (.int (2 : Int32)), (.ref b471), (.ref b471), (.ref b469), (.ref b469)])) _
                refine st477 _ ?_
                show Steps p.tables e below (T477.setTop (mkF m 178 #[.val (.int p0), .val (.int d0), .val (.int d1), .val (.int d2), .val (.int d3), .val (.int d4), .val (.int d5)] [(.ref b471), (.ref b469), (.ref b469)])) _
                refine XS.dup X477.here hx rfl (hb hby d1_178) rfl rfl ?_
                show Steps p.tables e below (T477.setTop (mkF m 179 #[.val (.int p0), .val (.int d0), .val (.int d1), .val (.int d2), .val (.int d3), .val (.int d4), .val (.int d5)] [(.ref b471), (.ref b471), (.ref b469), (.ref b469)])) _
                refine XS.iconst X477.here hx rfl (hb hby d1_179) ?_
                refine XS.iload X477.here hx rfl (hb hby d1_180) rfl ?_
                show Steps p.tables e below (T477.setTop (mkF m 182 #[.val (.int p0), .val (.int d0), .val (.int d1), .val (.int d2), .val (.int d3), .val (.int d4), .val (.int d5)] [(.int d3), (.int (3 : Int32)), (.ref b471), (.ref b471), (.ref b469), (.ref b469)])) _
                refine st479 _ ?_
                show Steps p.tables e below (T479.setTop (mkF m 183 #[.val (.int p0), .val (.int d0), .val (.int d1), .val (.int d2), .val (.int d3), .val (.int d4), .val (.int d5)] [(.ref b471), (.ref b469), (.ref b469)])) _
                refine XS.dup X479.here hx rfl (hb hby d1_183) rfl rfl ?_
                show Steps p.tables e below (T479.setTop (mkF m 184 #[.val (.int p0), .val (.int d0), .val (.int d1), .val (.int d2), .val (.int d3), .val (.int d4), .val (.int d5)] [(.ref b471), (.ref b471), (.ref b469), (.ref b469)])) _
                refine XS.iconst X479.here hx rfl (hb hby d1_184) ?_
                refine XS.iload X479.here hx rfl (hb hby d1_185) rfl ?_
                show Steps p.tables e below (T479.setTop (mkF m 187 #[.val (.int p0), .val (.int d0), .val (.int d1), .val (.int d2), .val (.int d3), .val (.int d4), .val (.int d5)] [(.int d4), (.int (4 : Int32)), (.ref b471), (.ref b471), (.ref b469), (.ref b469)])) _
                refine st481 _ ?_
                show Steps p.tables e below (T481.setTop (mkF m 188 #[.val (.int p0), .val (.int d0), .val (.int d1), .val (.int d2), .val (.int d3), .val (.int d4), .val (.int d5)] [(.ref b471), (.ref b469), (.ref b469)])) _
                refine XS.dup X481.here hx rfl (hb hby d1_188) rfl rfl ?_
                show Steps p.tables e below (T481.setTop (mkF m 189 #[.val (.int p0), .val (.int d0), .val (.int d1), .val (.int d2), .val (.int d3), .val (.int d4), .val (.int d5)] [(.ref b471), (.ref b471), (.ref b469), (.ref b469)])) _
                refine XS.iconst X481.here hx rfl (hb hby d1_189) ?_
                refine XS.iload X481.here hx rfl (hb hby d1_190) rfl ?_
                show Steps p.tables e below (T481.setTop (mkF m 192 #[.val (.int p0), .val (.int d0), .val (.int d1), .val (.int d2), .val (.int d3), .val (.int d4), .val (.int d5)] [(.int d5), (.int (5 : Int32)), (.ref b471), (.ref b471), (.ref b469), (.ref b469)])) _
                refine st483 _ ?_
                exact k
              by_cases hlat486 : ∀ c ∈ ([d0, d1, d2, d3, d4, d5] : List Int32), ¬ (255 : Int32) < c
              · have hp488 : ∀ c ∈ ([d0, d1, d2, d3, d4, d5] : List Int32), ¬ c < 0 ∧ ¬ (255 : Int32) < c := fun c hc => ⟨(hqm485 c hc).1, hlat486 c hc⟩
                have hws489 : ∀ d ∈ StrChars.Road.words, d.before a0 Z = true := fun d hd => hw d ((by decide +kernel : ∀ d ∈ StrChars.Road.words, d ∈ tables_1) d hd)
                have O490 : Old Z n0 h471 := Old.ext O470 E471
                have O491 : Old Z n0 h473 := Old.wr O490 W473 g_b471
                have O492 : Old Z n0 h475 := Old.wr O491 W475 g_b471
                have O493 : Old Z n0 h477 := Old.wr O492 W477 g_b471
                have O494 : Old Z n0 h479 := Old.wr O493 W479 g_b471
                have O495 : Old Z n0 h481 := Old.wr O494 W481 g_b471
                have O496 : Old Z n0 h483 := Old.wr O495 W483 g_b471
                have c497 : Exa Z h483 b469 "java/lang/String" := (Exa.wr W483 (Exa.wr W481 (Exa.wr W479 (Exa.wr W477 (Exa.wr W475 (Exa.wr W473 (Exa.ext E471 A469)))))))
                have c498 : Fld Z h483 b469 "java/lang/String" "value" "[B" .null := (Fld.other W483 (Fld.other W481 (Fld.other W479 (Fld.other W477 (Fld.other W475 (Fld.other W473 (Fld.ext E471 (show Fld Z h469 b469 "java/lang/String" "value" "[B" .null from D469 (Or.inr (hwk hw 22 rfl)) (ty := (.array .byte)) (by decide))) (Or.inl (Exa.neArv c497 Ac484 (hwk hw 7 rfl)))) (Or.inl (Exa.neArv c497 Ac484 (hwk hw 7 rfl)))) (Or.inl (Exa.neArv c497 Ac484 (hwk hw 7 rfl)))) (Or.inl (Exa.neArv c497 Ac484 (hwk hw 7 rfl)))) (Or.inl (Exa.neArv c497 Ac484 (hwk hw 7 rfl)))) (Or.inl (Exa.neArv c497 Ac484 (hwk hw 7 rfl))))
                have c499 : Fld Z h483 b469 "java/lang/String" "coder" "B" (.int (0 : Int32)) := (Fld.other W483 (Fld.other W481 (Fld.other W479 (Fld.other W477 (Fld.other W475 (Fld.other W473 (Fld.ext E471 (show Fld Z h469 b469 "java/lang/String" "coder" "B" (.int (0 : Int32)) from D469 (Or.inr (hwk hw 23 rfl)) (ty := .byte) (by decide))) (Or.inl (Exa.neArv c497 Ac484 (hwk hw 7 rfl)))) (Or.inl (Exa.neArv c497 Ac484 (hwk hw 7 rfl)))) (Or.inl (Exa.neArv c497 Ac484 (hwk hw 7 rfl)))) (Or.inl (Exa.neArv c497 Ac484 (hwk hw 7 rfl)))) (Or.inl (Exa.neArv c497 Ac484 (hwk hw 7 rfl)))) (Or.inl (Exa.neArv c497 Ac484 (hwk hw 7 rfl))))
                have c500 : Sta Z h483 "java/lang/String" "COMPACT_STRINGS" "Z" (.int zc) := Sta.ext (O496).2 SZ
                obtain ⟨_, _, ⟨T501, L501, k501, n501⟩, -, X501, ⟨Lc501, hQ501, l501, y501, z501⟩, st501⟩ := X483.specialBack hx (y := (⟨"java/lang/String", "<init>", "([C)V"⟩ : MethodName)) rfl hown (mvT hZ (hwk hw 10 rfl)) (mvT hZ (hwk hw 11 rfl)) (mvT hZ (hwk hw 12 rfl)) (by decide) (StrChars.Road.backV (W := 1) hZ hws489 (kI := 4) (hwk hw 7 rfl) (cs := ([d0, d1, d2, d3, d4, d5] : List Int32)) (bs := (([d0, d1, d2, d3, d4, d5] : List Int32)).map (fun c => c.toInt8.toInt32)) (n := 6) g_b469 (old_le O496) c497 c498 c499 Ac484 c500 PZ rfl rfl (by decide) (by decide) hp488 rfl (by decide) (by decide)) (g := (mkF m 193 #[.val (.int p0), .val (.int d0), .val (.int d1), .val (.int d2), .val (.int d3), .val (.int d4), .val (.int d5)] [(.ref b471), (.ref b469), (.ref b469)])) rfl (by rw [hml]; rfl) (Steps.refl _) (a := b469) (argsL := [(.ref b471)]) (rest := [(.ref b469)]) (lenOf pd_23 rfl) rfl (by show 2 * 0 + _ ≤ _; exact Nat.le_of_eq rfl) (hb hby d1_193) (fun _ _ => ⟨rfl, e483, (by decide : 2 + 1 ≤ _), (by decide : 10 + 6 ≤ _)⟩)
                dsimp only [Pt.U, Pt.locs, Pt.cells, Pt.slots] at X501 l501 y501 z501 st501 hQ501
                subst l501 y501 z501
                unfold StrChars.Road.QV at hQ501
                obtain ⟨rfl, N501q, K501, E501x, C501, t501, kb501, g_t501, ge_t501, ne501, V501, A501⟩ := hQ501
                have N501 := Fr.app N483 N501q
                have K502 : Keep h0 h469 [] := Keep.ext (Keep.refl h0 []) E469
                have K503 : Keep h0 h471 [] := Keep.ext K502 E471
                have K504 : Keep h0 h473 [] := Keep.wr K503 W473 (Or.inr (Nat.le_trans (Nat.le_trans (Nat.le_refl _) E469.1) (Nat.le_of_eq g471.symm)))
                have K505 : Keep h0 h475 [] := Keep.wr K504 W475 (Or.inr (Nat.le_trans (Nat.le_trans (Nat.le_refl _) E469.1) (Nat.le_of_eq g471.symm)))
                have K506 : Keep h0 h477 [] := Keep.wr K505 W477 (Or.inr (Nat.le_trans (Nat.le_trans (Nat.le_refl _) E469.1) (Nat.le_of_eq g471.symm)))
                have K507 : Keep h0 h479 [] := Keep.wr K506 W479 (Or.inr (Nat.le_trans (Nat.le_trans (Nat.le_refl _) E469.1) (Nat.le_of_eq g471.symm)))
                have K508 : Keep h0 h481 [] := Keep.wr K507 W481 (Or.inr (Nat.le_trans (Nat.le_trans (Nat.le_refl _) E469.1) (Nat.le_of_eq g471.symm)))
                have K509 : Keep h0 h483 [] := Keep.wr K508 W483 (Or.inr (Nat.le_trans (Nat.le_trans (Nat.le_refl _) E469.1) (Nat.le_of_eq g471.symm)))
                have K510 : Keep h0 T501.heap [] := Keep.trans K509 K501 (allS (Or.inr (Nat.le_trans (Nat.le_refl _) (Nat.le_of_eq g469.symm))) all0)
                have CR511 : CHr Z consts_1 s.vm h0 s.vm h469 := CHr.trans CR0 (CHr.ext E469 CR0.1)
                have CR512 : CHr Z consts_1 s.vm h0 s.vm h471 := CHr.trans CR511 (CHr.ext E471 CR511.1)
                have Sf513 : Safe Z consts_1 s.vm h469 b471 := Safe.new (Nat.le_of_eq g471.symm)
                have Sf514 : Safe Z consts_1 s.vm h471 b471 := (Safe.ext E471 CR511.1 Sf513)
                have CR515 : CHr Z consts_1 s.vm h0 s.vm h473 := CHr.trans CR512 (CHr.wr W473 Sf514 CR512.1)
                have Sf516 : Safe Z consts_1 s.vm h473 b471 := (Safe.wr W473 Sf514 CR512.1 Sf514)
                have CR517 : CHr Z consts_1 s.vm h0 s.vm h475 := CHr.trans CR515 (CHr.wr W475 Sf516 CR515.1)
                have Sf518 : Safe Z consts_1 s.vm h475 b471 := (Safe.wr W475 Sf516 CR515.1 Sf516)
                have CR519 : CHr Z consts_1 s.vm h0 s.vm h477 := CHr.trans CR517 (CHr.wr W477 Sf518 CR517.1)
                have Sf520 : Safe Z consts_1 s.vm h477 b471 := (Safe.wr W477 Sf518 CR517.1 Sf518)
                have CR521 : CHr Z consts_1 s.vm h0 s.vm h479 := CHr.trans CR519 (CHr.wr W479 Sf520 CR519.1)
                have Sf522 : Safe Z consts_1 s.vm h479 b471 := (Safe.wr W479 Sf520 CR519.1 Sf520)
                have CR523 : CHr Z consts_1 s.vm h0 s.vm h481 := CHr.trans CR521 (CHr.wr W481 Sf522 CR521.1)
                have Sf524 : Safe Z consts_1 s.vm h481 b471 := (Safe.wr W481 Sf522 CR521.1 Sf522)
                have CR525 : CHr Z consts_1 s.vm h0 s.vm h483 := CHr.trans CR523 (CHr.wr W483 Sf524 CR523.1)
                have Sf526 : Safe Z consts_1 s.vm h0 b469 := Safe.new (Nat.le_of_eq g469.symm)
                have Sf527 : Safe Z consts_1 s.vm h483 b469 := (Safe.wr W483 Sf524 CR523.1 (Safe.wr W481 Sf522 CR521.1 (Safe.wr W479 Sf520 CR519.1 (Safe.wr W477 Sf518 CR517.1 (Safe.wr W475 Sf516 CR515.1 (Safe.wr W473 Sf514 CR512.1 (Safe.ext E471 CR511.1 (Safe.ext E469 CR0.1 Sf526))))))))
                have CR528 : CHr Z consts_1 s.vm h0 s.vm T501.heap := CHr.trans CR525 (CHr.keep K501 (allS Sf527 all0) CR525.1)
                obtain ⟨fs, hr, hrun, hended, hRE⟩ := X501.leaveW hS0 (show _ ≤ T501.heap.size from by rw [(rfl : T501.heap = T501.heap)]; exact (Nat.le_trans (Nat.le_refl _) (Nat.le_trans (Nat.le_trans (Nat.le_trans (Nat.le_trans (Nat.le_trans (Nat.le_trans (Nat.le_trans (Nat.le_trans (Nat.le_trans (Nat.le_refl _) E469.1) E471.1) (Nat.le_of_eq W473.size.symm)) (Nat.le_of_eq W475.size.symm)) (Nat.le_of_eq W477.size.symm)) (Nat.le_of_eq W479.size.symm)) (Nat.le_of_eq W481.size.symm)) (Nat.le_of_eq W483.size.symm)) K501.1))) (v := some (.ref b469)) (fun h => by rw [Bd.returns] at h; cases h)
                have CRl : CHr Z consts_1 s.vm s.heap (T501.setFrames fs).vm (T501.setFrames fs).heap := by
                  have q := CHr.trans CR528 (CHv.at X501 hZ hEL CR528.1)
                  rw [← hh, ← (rfl : T501.heap = T501.heap)] at q
                  exact q
                refine ⟨_, _, S487 _ ?_, hrun, hended, _, _, rfl, ?_, CRl, hRE.1, hRE.2.1, hRE.2.2.1, hRE.2.2.2.mono (by decide) (by decide)⟩
                · show Steps p.tables e below (T483.setTop (mkF m 193 #[.val (.int p0), .val (.int d0), .val (.int d1), .val (.int d2), .val (.int d3), .val (.int d4), .val (.int d5)] [(.ref b471), (.ref b469), (.ref b469)])) _
                  refine st501.trans ?_
                  show Steps p.tables e below (T501.setTop (mkF m 196 #[.val (.int p0), .val (.int d0), .val (.int d1), .val (.int d2), .val (.int d3), .val (.int d4), .val (.int d5)] [(.ref b469)])) _
                  exact Jvm.RoadKit.retOut X501 hx Bd.returns rfl (Or.inr (Or.inr (Or.inr (Or.inr ⟨rfl, rfl, rfl⟩)))) (hb hby d1_196) hr
                · show Q_rm1 Z p0 d0 d1 d2 d3 d4 d5 zc h0 n0 _ T501.heap _
                  unfold Q_rm1
                  exact ⟨b469, t501, kb501, (0 : Int32), (6 : Int32), (((([d0, d1, d2, d3, d4, d5] : List Int32)).map (fun c => c.toInt8.toInt32)).map Value.int), rfl, N501, K510, (Nat.le_trans (Nat.le_refl _) (Nat.le_of_eq g469.symm)), E501x, V501, C501, A501, (by rw [show (CS p0 d0 d1 d2 d3 d4 d5) = ([d0, d1, d2, d3, d4, d5] : List Int32) from (by unfold CS; rw [if_neg hc101, if_neg hc119, if_neg hc169, if_neg hc229, if_neg hc299, if_neg hc379])]; exact StrChars.Road.codOf rfl hlat486)⟩
              · have c529 : Exa Z h483 b469 "java/lang/String" := (Exa.wr W483 (Exa.wr W481 (Exa.wr W479 (Exa.wr W477 (Exa.wr W475 (Exa.wr W473 (Exa.ext E471 A469)))))))
                have c530 : Fld Z h483 b469 "java/lang/String" "value" "[B" .null := (Fld.other W483 (Fld.other W481 (Fld.other W479 (Fld.other W477 (Fld.other W475 (Fld.other W473 (Fld.ext E471 (show Fld Z h469 b469 "java/lang/String" "value" "[B" .null from D469 (Or.inr (hwk hw 22 rfl)) (ty := (.array .byte)) (by decide))) (Or.inl (Exa.neArv c529 Ac484 (hwk hw 7 rfl)))) (Or.inl (Exa.neArv c529 Ac484 (hwk hw 7 rfl)))) (Or.inl (Exa.neArv c529 Ac484 (hwk hw 7 rfl)))) (Or.inl (Exa.neArv c529 Ac484 (hwk hw 7 rfl)))) (Or.inl (Exa.neArv c529 Ac484 (hwk hw 7 rfl)))) (Or.inl (Exa.neArv c529 Ac484 (hwk hw 7 rfl))))
                have c531 : Fld Z h483 b469 "java/lang/String" "coder" "B" (.int (0 : Int32)) := (Fld.other W483 (Fld.other W481 (Fld.other W479 (Fld.other W477 (Fld.other W475 (Fld.other W473 (Fld.ext E471 (show Fld Z h469 b469 "java/lang/String" "coder" "B" (.int (0 : Int32)) from D469 (Or.inr (hwk hw 23 rfl)) (ty := .byte) (by decide))) (Or.inl (Exa.neArv c529 Ac484 (hwk hw 7 rfl)))) (Or.inl (Exa.neArv c529 Ac484 (hwk hw 7 rfl)))) (Or.inl (Exa.neArv c529 Ac484 (hwk hw 7 rfl)))) (Or.inl (Exa.neArv c529 Ac484 (hwk hw 7 rfl)))) (Or.inl (Exa.neArv c529 Ac484 (hwk hw 7 rfl)))) (Or.inl (Exa.neArv c529 Ac484 (hwk hw 7 rfl))))
                have O532 : Old Z n0 h471 := Old.ext O470 E471
                have O533 : Old Z n0 h473 := Old.wr O532 W473 g_b471
                have O534 : Old Z n0 h475 := Old.wr O533 W475 g_b471
                have O535 : Old Z n0 h477 := Old.wr O534 W477 g_b471
                have O536 : Old Z n0 h479 := Old.wr O535 W479 g_b471
                have O537 : Old Z n0 h481 := Old.wr O536 W481 g_b471
                have O538 : Old Z n0 h483 := Old.wr O537 W483 g_b471
                obtain ⟨_, _, ⟨T539, L539, k539, n539⟩, -, X539, ⟨Lc539, hQ539, l539, y539, z539⟩, st539⟩ := X483.specialBack hx (y := (⟨"java/lang/String", "<init>", "([C)V"⟩ : MethodName)) rfl hown (mvT hZ (hwk hw 10 rfl)) (mvT hZ (hwk hw 11 rfl)) (mvT hZ (hwk hw 12 rfl)) (by decide) (backOf (W := 1) (w2 l Z a0 hw [] b469 b471 k471 (.int (0 : Int32)) ([d0, d1, d2, d3, d4, d5] : List Int32) zc h483 n0 O538 c529 g_b469 c530 c531 (Ne.symm (Exa.neArv c529 Ac484 (hwk hw 7 rfl))) Ac484 (Nat.le_of_ble_eq_true rfl) hqm485 (own_nall hlat486) (Nat.le_of_ble_eq_true rfl) SZ PZ SA SH SL) hZ (hwk hw 12 rfl) (hwk hw 8 rfl) (by decide) (by decide)) (g := (mkF m 193 #[.val (.int p0), .val (.int d0), .val (.int d1), .val (.int d2), .val (.int d3), .val (.int d4), .val (.int d5)] [(.ref b471), (.ref b469), (.ref b469)])) rfl (by rw [hml]; rfl) (Steps.refl _) (a := b469) (argsL := [(.ref b471)]) (rest := [(.ref b469)]) (lenOf pd_23 rfl) rfl (by show 2 * 0 + _ ≤ _; exact Nat.le_of_eq rfl) (hb hby d1_193) (fun _ _ => ⟨rfl, e483, (by decide : 2 + 2 ≤ _), (by decide : 10 + 18 ≤ _)⟩)
                dsimp only [Pt.U, Pt.locs, Pt.cells, Pt.slots] at X539 l539 y539 z539 st539 hQ539
                subst l539 y539 z539
                unfold Q_w2 at hQ539
                obtain ⟨o_539, ko_539, rfl, N539q, K539, f539_0, f539_1, f539_2, f539_3⟩ := hQ539
                have N539 := Fr.app N483 N539q
                have K540 : Keep h0 h469 [] := Keep.ext (Keep.refl h0 []) E469
                have K541 : Keep h0 h471 [] := Keep.ext K540 E471
                have K542 : Keep h0 h473 [] := Keep.wr K541 W473 (Or.inr (Nat.le_trans (Nat.le_trans (Nat.le_refl _) E469.1) (Nat.le_of_eq g471.symm)))
                have K543 : Keep h0 h475 [] := Keep.wr K542 W475 (Or.inr (Nat.le_trans (Nat.le_trans (Nat.le_refl _) E469.1) (Nat.le_of_eq g471.symm)))
                have K544 : Keep h0 h477 [] := Keep.wr K543 W477 (Or.inr (Nat.le_trans (Nat.le_trans (Nat.le_refl _) E469.1) (Nat.le_of_eq g471.symm)))
                have K545 : Keep h0 h479 [] := Keep.wr K544 W479 (Or.inr (Nat.le_trans (Nat.le_trans (Nat.le_refl _) E469.1) (Nat.le_of_eq g471.symm)))
                have K546 : Keep h0 h481 [] := Keep.wr K545 W481 (Or.inr (Nat.le_trans (Nat.le_trans (Nat.le_refl _) E469.1) (Nat.le_of_eq g471.symm)))
                have K547 : Keep h0 h483 [] := Keep.wr K546 W483 (Or.inr (Nat.le_trans (Nat.le_trans (Nat.le_refl _) E469.1) (Nat.le_of_eq g471.symm)))
                have K548 : Keep h0 T539.heap [] := Keep.trans K547 K539 (allS (Or.inr (Nat.le_trans (Nat.le_refl _) (Nat.le_of_eq g469.symm))) all0)
                have CR549 : CHr Z consts_1 s.vm h0 s.vm h469 := CHr.trans CR0 (CHr.ext E469 CR0.1)
                have CR550 : CHr Z consts_1 s.vm h0 s.vm h471 := CHr.trans CR549 (CHr.ext E471 CR549.1)
                have Sf551 : Safe Z consts_1 s.vm h469 b471 := Safe.new (Nat.le_of_eq g471.symm)
                have Sf552 : Safe Z consts_1 s.vm h471 b471 := (Safe.ext E471 CR549.1 Sf551)
                have CR553 : CHr Z consts_1 s.vm h0 s.vm h473 := CHr.trans CR550 (CHr.wr W473 Sf552 CR550.1)
                have Sf554 : Safe Z consts_1 s.vm h473 b471 := (Safe.wr W473 Sf552 CR550.1 Sf552)
                have CR555 : CHr Z consts_1 s.vm h0 s.vm h475 := CHr.trans CR553 (CHr.wr W475 Sf554 CR553.1)
                have Sf556 : Safe Z consts_1 s.vm h475 b471 := (Safe.wr W475 Sf554 CR553.1 Sf554)
                have CR557 : CHr Z consts_1 s.vm h0 s.vm h477 := CHr.trans CR555 (CHr.wr W477 Sf556 CR555.1)
                have Sf558 : Safe Z consts_1 s.vm h477 b471 := (Safe.wr W477 Sf556 CR555.1 Sf556)
                have CR559 : CHr Z consts_1 s.vm h0 s.vm h479 := CHr.trans CR557 (CHr.wr W479 Sf558 CR557.1)
                have Sf560 : Safe Z consts_1 s.vm h479 b471 := (Safe.wr W479 Sf558 CR557.1 Sf558)
                have CR561 : CHr Z consts_1 s.vm h0 s.vm h481 := CHr.trans CR559 (CHr.wr W481 Sf560 CR559.1)
                have Sf562 : Safe Z consts_1 s.vm h481 b471 := (Safe.wr W481 Sf560 CR559.1 Sf560)
                have CR563 : CHr Z consts_1 s.vm h0 s.vm h483 := CHr.trans CR561 (CHr.wr W483 Sf562 CR561.1)
                have Sf564 : Safe Z consts_1 s.vm h0 b469 := Safe.new (Nat.le_of_eq g469.symm)
                have Sf565 : Safe Z consts_1 s.vm h483 b469 := (Safe.wr W483 Sf562 CR561.1 (Safe.wr W481 Sf560 CR559.1 (Safe.wr W479 Sf558 CR557.1 (Safe.wr W477 Sf556 CR555.1 (Safe.wr W475 Sf554 CR553.1 (Safe.wr W473 Sf552 CR550.1 (Safe.ext E471 CR549.1 (Safe.ext E469 CR0.1 Sf564))))))))
                have CR566 : CHr Z consts_1 s.vm h0 s.vm T539.heap := CHr.trans CR563 (CHr.keep K539 (allS Sf565 all0) CR563.1)
                obtain ⟨fs, hr, hrun, hended, hRE⟩ := X539.leaveW hS0 (show _ ≤ T539.heap.size from by rw [(rfl : T539.heap = T539.heap)]; exact (Nat.le_trans (Nat.le_refl _) (Nat.le_trans (Nat.le_trans (Nat.le_trans (Nat.le_trans (Nat.le_trans (Nat.le_trans (Nat.le_trans (Nat.le_trans (Nat.le_trans (Nat.le_refl _) E469.1) E471.1) (Nat.le_of_eq W473.size.symm)) (Nat.le_of_eq W475.size.symm)) (Nat.le_of_eq W477.size.symm)) (Nat.le_of_eq W479.size.symm)) (Nat.le_of_eq W481.size.symm)) (Nat.le_of_eq W483.size.symm)) K539.1))) (v := some (.ref b469)) (fun h => by rw [Bd.returns] at h; cases h)
                have CRl : CHr Z consts_1 s.vm s.heap (T539.setFrames fs).vm (T539.setFrames fs).heap := by
                  have q := CHr.trans CR566 (CHv.at X539 hZ hEL CR566.1)
                  rw [← hh, ← (rfl : T539.heap = T539.heap)] at q
                  exact q
                refine ⟨_, _, S487 _ ?_, hrun, hended, _, _, rfl, ?_, CRl, hRE.1, hRE.2.1, hRE.2.2.1, hRE.2.2.2.mono (by decide) (by decide)⟩
                · show Steps p.tables e below (T483.setTop (mkF m 193 #[.val (.int p0), .val (.int d0), .val (.int d1), .val (.int d2), .val (.int d3), .val (.int d4), .val (.int d5)] [(.ref b471), (.ref b469), (.ref b469)])) _
                  refine st539.trans ?_
                  show Steps p.tables e below (T539.setTop (mkF m 196 #[.val (.int p0), .val (.int d0), .val (.int d1), .val (.int d2), .val (.int d3), .val (.int d4), .val (.int d5)] [(.ref b469)])) _
                  exact Jvm.RoadKit.retOut X539 hx Bd.returns rfl (Or.inr (Or.inr (Or.inr (Or.inr ⟨rfl, rfl, rfl⟩)))) (hb hby d1_196) hr
                · show Q_rm1 Z p0 d0 d1 d2 d3 d4 d5 zc h0 n0 _ T539.heap _
                  unfold Q_rm1
                  exact ⟨b469, o_539, ko_539, (1 : Int32), (Int32.ofNat (2 * ([d0, d1, d2, d3, d4, d5] : List Int32).length)), (wideBytes ([d0, d1, d2, d3, d4, d5] : List Int32)), rfl, N539, K548, (Nat.le_trans (Nat.le_refl _) (Nat.le_of_eq g469.symm)), f539_0, f539_2, f539_1, f539_3, (by rw [show (CS p0 d0 d1 d2 d3 d4 d5) = ([d0, d1, d2, d3, d4, d5] : List Int32) from (by unfold CS; rw [if_neg hc101, if_neg hc119, if_neg hc169, if_neg hc229, if_neg hc299, if_neg hc379])]; exact Or.inr ⟨rfl, rfl, rfl, own_nex hlat486⟩)⟩
theorem own_rem (x m : Int32) (hm : (0 : Int32) < m) : ¬ ((x &&& (2147483647 : Int32)) % m) < (0 : Int32) ∧ ((x &&& (2147483647 : Int32)) % m) < m := by
  have h1 := (c_and x (2147483647 : Int32) (by decide)).1
  rw [Int32.lt_iff_toInt_lt] at hm ⊢
  rw [Int32.lt_iff_toInt_lt]
  have e0 : (0 : Int32).toInt = 0 := by decide
  rw [e0] at hm ⊢
  have h2 := (c_iremV (x &&& (2147483647 : Int32)) m).1 h1 hm
  omega

def RHO (c : Int32) : Int32 := if c = 46 then 46 else if c < 48 then 65 else if (57 : Int32) < c then 65 else 48
def LAW (nn q0 q1 q2 q3 q4 q5 : Int32) : Prop := (PD (CS nn q0 q1 q2 q3 q4 q5)) = (if nn < (1 : Int32) then (0 : Int32) else (if (if (BAD q0 (0 : Int32) nn) = (0 : Int32) then (if (BAD q1 (1 : Int32) nn) = (0 : Int32) then (if (BAD q2 (2 : Int32) nn) = (0 : Int32) then (if (BAD q3 (3 : Int32) nn) = (0 : Int32) then (if (BAD q4 (4 : Int32) nn) = (0 : Int32) then (if (BAD q5 (5 : Int32) nn) = (0 : Int32) then (1 : Int32) else (0 : Int32)) else (0 : Int32)) else (0 : Int32)) else (0 : Int32)) else (0 : Int32)) else (0 : Int32)) = (0 : Int32) then (0 : Int32) else (if (1 : Int32) < ((((((DOT q0 (0 : Int32) nn) + (DOT q1 (1 : Int32) nn)) + (DOT q2 (2 : Int32) nn)) + (DOT q3 (3 : Int32) nn)) + (DOT q4 (4 : Int32) nn)) + (DOT q5 (5 : Int32) nn)) then (0 : Int32) else (1 : Int32))))
theorem own_r46 (c : Int32) : RHO c = 46 ↔ c = 46 := by
  unfold RHO
  split
  · simp_all
  · rename_i h
    split
    · simp [h]
    · split <;> simp [h]
theorem own_rdg (c : Int32) : (¬ RHO c < (48 : Int32) ∧ ¬ (57 : Int32) < RHO c) ↔ (¬ c < (48 : Int32) ∧ ¬ (57 : Int32) < c) := by
  unfold RHO
  split
  · rename_i h; subst h; exact Iff.rfl
  · split
    · rename_i h; simp [h]
    · split
      · rename_i h; simp [h]
      · rename_i h1 h2; simp only [h1, h2, not_false_eq_true, and_self, iff_true]; decide
theorem own_rdgt (c : Int32) : DGT (RHO c) = DGT c := by
  have q := own_rdg c
  unfold DGT
  by_cases a : c < 48
  · have : RHO c < 48 ∨ (57 : Int32) < RHO c := by
      by_cases b : RHO c < 48
      · exact Or.inl b
      · by_cases d : (57 : Int32) < RHO c
        · exact Or.inr d
        · exact absurd (q.mp ⟨b, d⟩).1 (fun r => r a)
    rw [if_pos a]
    rcases this with b | b
    · rw [if_pos b]
    · by_cases d : RHO c < 48
      · rw [if_pos d]
      · rw [if_neg d, if_pos b]
  · by_cases a2 : (57 : Int32) < c
    · have : RHO c < 48 ∨ (57 : Int32) < RHO c := by
        by_cases b : RHO c < 48
        · exact Or.inl b
        · by_cases d : (57 : Int32) < RHO c
          · exact Or.inr d
          · exact absurd (q.mp ⟨b, d⟩).2 (fun r => r a2)
      rw [if_neg a, if_pos a2]
      rcases this with b | b
      · rw [if_pos b]
      · by_cases d : RHO c < 48
        · rw [if_pos d]
        · rw [if_neg d, if_pos b]
    · have r := q.mpr ⟨a, a2⟩
      rw [if_neg a, if_neg a2, if_neg r.1, if_neg r.2]
theorem own_rbad (c i n : Int32) : BAD (RHO c) i n = BAD c i n := by
  unfold BAD
  rw [own_rdgt]
  simp only [own_r46]
theorem own_rdot (c i n : Int32) : DOT (RHO c) i n = DOT c i n := by
  unfold DOT
  simp only [own_r46]
theorem own_rix (cs : List Int32) : IX (cs.map RHO) = IX cs := by
  unfold IX
  have e : (cs.map RHO).findIdx (fun c => decide (c = (46 : Int32))) = cs.findIdx (fun c => decide (c = (46 : Int32))) := by
    rw [List.findIdx_map]
    congr 1
    funext c
    simp [own_r46]
  rw [e, List.length_map]
theorem own_rget {cs : List Int32} {m : Nat} (h : m < cs.length) : (cs.map RHO).getD m 0 = RHO (cs.getD m 0) := by
  simp [List.getD_eq_getElem?_getD, h]
theorem own_rad {cs : List Int32} {a b : Nat} (h : b ≤ cs.length) : AD (cs.map RHO) a b = AD cs a b := by
  unfold AD
  have e : (a < b ∧ ∀ m, m < b → a ≤ m → (¬ (cs.map RHO).getD m 0 < (48 : Int32) ∧ ¬ (57 : Int32) < (cs.map RHO).getD m 0)) ↔ (a < b ∧ ∀ m, m < b → a ≤ m → (¬ cs.getD m 0 < (48 : Int32) ∧ ¬ (57 : Int32) < cs.getD m 0)) := by
    refine and_congr Iff.rfl (forall_congr' fun m => forall_congr' fun hm => forall_congr' fun _ => ?_)
    rw [own_rget (by omega)]
    exact own_rdg _
  by_cases q : (a < b ∧ ∀ m, m < b → a ≤ m → (¬ cs.getD m 0 < (48 : Int32) ∧ ¬ (57 : Int32) < cs.getD m 0))
  · rw [if_pos q, if_pos (e.mpr q)]
  · rw [if_neg q, if_neg (fun r => q (e.mp r))]
theorem own_rpd {cs : List Int32} (hs : cs.length ≤ 6) : PD (cs.map RHO) = PD cs := by
  unfold PD
  rw [own_rix, List.length_map, own_rad (Nat.le_refl _), own_rad (Nat.le_refl _)]
  rcases own_ix_c cs with ⟨e, -⟩ | ⟨p, hp, e, -⟩
  · rw [e, if_pos (by decide), if_pos (by decide)]
  · rw [e, own_nat (by omega), own_rad (by omega)]
theorem own_rcs (n d0 d1 d2 d3 d4 d5 : Int32) : CS n (RHO d0) (RHO d1) (RHO d2) (RHO d3) (RHO d4) (RHO d5) = (CS n d0 d1 d2 d3 d4 d5).map RHO := by
  unfold CS
  repeat' split
  all_goals rfl
theorem own_rv (c : Int32) : ∃ k : Fin 3, RHO c = ([(46 : Int32), 48, 65] : List Int32).getD k.val 0 := by
  unfold RHO
  split
  · exact ⟨0, rfl⟩
  · split
    · exact ⟨2, rfl⟩
    · split
      · exact ⟨2, rfl⟩
      · exact ⟨1, rfl⟩
def VC (k : Fin 3) : Int32 := ([(46 : Int32), 48, 65] : List Int32).getD k.val 0
set_option maxRecDepth 65536 in
theorem own_fin : ∀ (k : Fin 7) (a0 a1 a2 a3 a4 a5 : Fin 3), (PD (CS (Int32.ofNat k.val) (VC a0) (VC a1) (VC a2) (VC a3) (VC a4) (VC a5))) = (if (Int32.ofNat k.val) < (1 : Int32) then (0 : Int32) else (if (if (BAD (VC a0) (0 : Int32) (Int32.ofNat k.val)) = (0 : Int32) then (if (BAD (VC a1) (1 : Int32) (Int32.ofNat k.val)) = (0 : Int32) then (if (BAD (VC a2) (2 : Int32) (Int32.ofNat k.val)) = (0 : Int32) then (if (BAD (VC a3) (3 : Int32) (Int32.ofNat k.val)) = (0 : Int32) then (if (BAD (VC a4) (4 : Int32) (Int32.ofNat k.val)) = (0 : Int32) then (if (BAD (VC a5) (5 : Int32) (Int32.ofNat k.val)) = (0 : Int32) then (1 : Int32) else (0 : Int32)) else (0 : Int32)) else (0 : Int32)) else (0 : Int32)) else (0 : Int32)) else (0 : Int32)) = (0 : Int32) then (0 : Int32) else (if (1 : Int32) < ((((((DOT (VC a0) (0 : Int32) (Int32.ofNat k.val)) + (DOT (VC a1) (1 : Int32) (Int32.ofNat k.val))) + (DOT (VC a2) (2 : Int32) (Int32.ofNat k.val))) + (DOT (VC a3) (3 : Int32) (Int32.ofNat k.val))) + (DOT (VC a4) (4 : Int32) (Int32.ofNat k.val))) + (DOT (VC a5) (5 : Int32) (Int32.ofNat k.val))) then (0 : Int32) else (1 : Int32)))) := by decide +kernel
theorem own_law (nn q0 q1 q2 q3 q4 q5 : Int32) (gnn : ∃ k : Fin 7, nn = Int32.ofNat k.val) : LAW nn q0 q1 q2 q3 q4 q5 := by
  obtain ⟨k, rfl⟩ := gnn
  obtain ⟨a0, e0⟩ := own_rv q0
  obtain ⟨a1, e1⟩ := own_rv q1
  obtain ⟨a2, e2⟩ := own_rv q2
  obtain ⟨a3, e3⟩ := own_rv q3
  obtain ⟨a4, e4⟩ := own_rv q4
  obtain ⟨a5, e5⟩ := own_rv q5
  have h := own_fin k a0 a1 a2 a3 a4 a5
  unfold LAW
  rw [← own_rpd (own_csl _ _ _ _ _ _ _), ← own_rcs, ← own_rbad q0, ← own_rbad q1, ← own_rbad q2, ← own_rbad q3, ← own_rbad q4, ← own_rbad q5, ← own_rdot q0, ← own_rdot q1, ← own_rdot q2, ← own_rdot q3, ← own_rdot q4, ← own_rdot q5, e0, e1, e2, e3, e4, e5]
  exact h
theorem own_n7 (x : Int32) : ∃ k : Fin 7, ((x &&& (2147483647 : Int32)) % (7 : Int32)) = Int32.ofNat k.val := by
  obtain ⟨h1, h2⟩ := own_rem x (7 : Int32) (by decide)
  generalize ((x &&& (2147483647 : Int32)) % (7 : Int32)) = r at h1 h2
  rw [Int32.lt_iff_toInt_lt] at h1 h2
  have e0 : (0 : Int32).toInt = 0 := by decide
  have e1 : (7 : Int32).toInt = 7 := by decide
  refine ⟨⟨r.toInt.toNat, by omega⟩, ?_⟩
  apply Int32.toInt_inj.mp
  show _ = (Int32.ofNat r.toInt.toNat).toInt
  rw [Int32.toInt_ofNat_of_lt (by omega)]
  omega

theorem ef_rm0 (m : MethodId) (x0 : Int32) (x1 : Int32) (x2 : Int32) (x3 : Int32) : entryFrame m #[(.int x0), (.int x1), (.int x2), (.int x3)] maxLocals = mkF m 0 #[.val (.int x0), .val (.int x1), .val (.int x2), .val (.int x3), .unset, .unset, .unset, .unset, .unset, .unset, .unset, .unset, .unset, .unset, .unset] [] := by first | (simp [entryFrame, mkF, argsToLocals, Value.category, maxLocals]; done) | rfl
def Q_rm0 (Z : State) (p0 : Int32) (p1 : Int32) (p2 : Int32) (p3 : Int32) (zc : Int32) (fm : Value) (h0 : Heap) (n0 : Nat) (v : Option Value) (h : Heap) (L : List Loc) : Prop := (v = some (.int (1 : Int32))) ∧ (Fr n0 L) ∧ (Keep h0 h [])
theorem pd_24 : parseMethodDescriptor "(ICCCCCC)Ljava/lang/String;" = some ⟨[.int, .char, .char, .char, .char, .char, .char], some (.object "java/lang/String")⟩ := by decide +kernel
theorem pd_25 : parseMethodDescriptor "(CII)Z" = some ⟨[.char, .int, .int], some .boolean⟩ := by decide +kernel
theorem pd_26 : parseMethodDescriptor "(CII)I" = some ⟨[.char, .int, .int], some .int⟩ := by decide +kernel
theorem pd_27 : parseMethodDescriptor "(Ljava/lang/String;)Z" = some ⟨[(.object "java/lang/String")], some .boolean⟩ := by decide +kernel
set_option maxRecDepth 65536 in
set_option maxHeartbeats 40000000 in
theorem rm0 (l : Launch) (Z : State) (a0 : Array Value) (hw : ∀ d ∈ tables_1, d.before a0 Z = true) (ws : List Jvm.Cond) (p0 : Int32) (p1 : Int32) (p2 : Int32) (p3 : Int32) (zc : Int32) (fm : Value) (h0 : Heap) (n0 : Nat) (O0 : Old Z n0 h0) (SZ : Sta Z Z.heap "java/lang/String" "COMPACT_STRINGS" "Z" (.int zc)) (PZ : ¬ (zc = (0 : Int32))) (SF : Sta Z Z.heap "jdk/internal/util/Preconditions" "SIOOBE_FORMATTER" "Ljava/util/function/BiFunction;" fm) (RF : fm.isRef = true) (SA : Sta Z Z.heap "java/lang/StringUTF16" "$assertionsDisabled" "Z" (.int (1 : Int32))) (SH : Sta Z Z.heap "java/lang/StringUTF16" "HI_BYTE_SHIFT" "I" (.int (0 : Int32))) (SL : Sta Z Z.heap "java/lang/StringUTF16" "LO_BYTE_SHIFT" "I" (.int (8 : Int32))) :
    MetFree l x (head1 (Jvm.Cond.code x code maxLocals ret :: ws) room_1) (fun a U => a = #[(.int p0), (.int p1), (.int p2), (.int p3)] ∧ Z.Warmed39 U.vm ∧ U.heap = h0 ∧ CHv Z consts_1 U.vm h0 ∧ ∀ x ∈ ([] : List Addr), Safe Z consts_1 U.vm h0 x) (fun _ _ _ _ _ => True) (fun _ U o U' => ∃ v L, o = .returned v ∧ Q_rm0 Z p0 p1 p2 p3 zc fm h0 n0 v U'.heap L ∧ CHr Z consts_1 U.vm U.heap U'.vm U'.heap ∧ ReturnedEndW U o U' L room_1.cells room_1.slots) := by
  refine MetFree.of_bodySF (plainFor_of_name pn_5) hisR ?_
  intro p e s m args below meth c s₁ Bd hml0 hP hK
  obtain ⟨rfl, hZ, hh, hH0, hSf⟩ := hP
  have hx := Bd.exec
  have hby := Bd.bytes
  have hml : c.maxLocals = 15 := hml0
  have hEL : EW Z a0 consts_1 := own_EW hw
  have CR0 : CHr Z consts_1 s.vm h0 s.vm h0 := CHr.refl hH0
  have hown : s.vm.findClass "com/example/vestwright/vestwright/InputTextIsPlainDecimalPinLaw" = some m.cls := findClass_of_methodNamed Bd.named
  have hnm := (name_of_methodNamed Bd.named Bd.method).1
  have hS0 : s.Since s.vm h0.size := (State.WarmedH.refl s).since _
  have hstr : ∀ a ∈ Bundle.stringAtoms, a.before a0 Z = true := own_str hw
  have X0 : Stand p l e room_1 (s.setVm s.vm) m #[(.int p0), (.int p1), (.int p2), (.int p3)] below meth c s₁ [] 0 0 := Stand.of_body Bd
  have e0 : s₁.heap = h0 := by rw [← hh, Bd.state]; rfl
  have N0 := Fr.nil n0
  have Z0 : n0 ≤ h0.size := old_le O0
  have pre0 : ∀ t, Steps p.tables e below (s₁.setTop (mkF m 0 #[.val (.int p0), .val (.int p1), .val (.int p2), .val (.int p3), .unset, .unset, .unset, .unset, .unset, .unset, .unset, .unset, .unset, .unset, .unset] [])) t → Steps p.tables e below (s₁.setTop (entryFrame m #[(.int p0), (.int p1), (.int p2), (.int p3)] maxLocals)) t := fun t k => castTop (ef_rm0 m p0 p1 p2 p3) k
  obtain ⟨nn, enn, gnn⟩ : ∃ z, z = ((p0 &&& (2147483647 : Int32)) % (7 : Int32)) ∧ ∃ k : Fin 7, z = Int32.ofNat k.val := ⟨_, rfl, own_n7 p0⟩
  obtain ⟨q0, eq0, gq0⟩ : ∃ z, z = ((p1 &&& (65535 : Int32)).toUInt32.toUInt16.toUInt32.toInt32) ∧ C16 z := ⟨_, rfl, own_c16i _⟩
  obtain ⟨q1, eq1, gq1⟩ : ∃ z, z = (((p1.toUInt32 >>> ((16 : Int32) &&& 31).toUInt32).toInt32).toUInt32.toUInt16.toUInt32.toInt32) ∧ C16 z := ⟨_, rfl, own_c16i _⟩
  obtain ⟨q2, eq2, gq2⟩ : ∃ z, z = ((p2 &&& (65535 : Int32)).toUInt32.toUInt16.toUInt32.toInt32) ∧ C16 z := ⟨_, rfl, own_c16i _⟩
  obtain ⟨q3, eq3, gq3⟩ : ∃ z, z = (((p2.toUInt32 >>> ((16 : Int32) &&& 31).toUInt32).toInt32).toUInt32.toUInt16.toUInt32.toInt32) ∧ C16 z := ⟨_, rfl, own_c16i _⟩
  obtain ⟨q4, eq4, gq4⟩ : ∃ z, z = ((p3 &&& (65535 : Int32)).toUInt32.toUInt16.toUInt32.toInt32) ∧ C16 z := ⟨_, rfl, own_c16i _⟩
  obtain ⟨q5, eq5, gq5⟩ : ∃ z, z = (((p3.toUInt32 >>> ((16 : Int32) &&& 31).toUInt32).toInt32).toUInt32.toUInt16.toUInt32.toInt32) ∧ C16 z := ⟨_, rfl, own_c16i _⟩
  obtain ⟨_, _, ⟨T101, L101, k101, n101⟩, -, X101, hs101', hg101', ⟨Lc101, hQ101, l101, y101, z101, CX101⟩, st101⟩ := Jvm.RoadKit.callSS X0 hx (y := (⟨"com/example/vestwright/vestwright/InputTextIsPlainDecimalPinLaw", "make", "(ICCCCCC)Ljava/lang/String;"⟩ : MethodName)) hown (mvT hZ (hwk hw 2 rfl)) (mvT hZ (hwk hw 3 rfl)) (mvT hZ (hwk hw 4 rfl)) (mvT hZ (hwk hw 5 rfl)) (by decide) (own_backSH (W := 0) (rm1 l Z a0 hw [] nn q0 q1 q2 q3 q4 q5 zc h0 n0 O0 gq0 gq1 gq2 gq3 gq4 gq5 SZ PZ SA SH SL) hZ (hwk hw 5 rfl) (hwk hw 4 rfl) (by decide) (by decide) hEL CR0.1 (fun _ q => nomatch q)) (g := (mkF m 65 #[.val (.int p0), .val (.int p1), .val (.int p2), .val (.int p3), .val (.int nn), .val (.int q0), .val (.int q1), .val (.int q2), .val (.int q3), .val (.int q4), .val (.int q5), .unset, .unset, .unset, .unset] [(.int q5), (.int q4), (.int q3), (.int q2), (.int q1), (.int q0), (.int nn)])) rfl (by rw [hml]; rfl) (argsL := [(.int nn), (.int q0), (.int q1), (.int q2), (.int q3), (.int q4), (.int q5)]) (rest := []) (lenOf pd_24 rfl) rfl (by show 2 * 0 + _ ≤ _; exact Nat.le_of_eq rfl) (hb hby at_65) (fun _ _ => ⟨rfl, e0, (by decide : 0 + 6 ≤ _), (by decide : 0 + 28 ≤ _)⟩)
  dsimp only [Pt.U, Pt.locs, Pt.cells, Pt.slots] at X101 l101 y101 z101 st101 hQ101 hs101' hg101' CX101
  subst l101 y101 z101
  obtain ⟨X101b, hS101, hZ101, hown101⟩ := rebS hS0 (show _ ≤ s₁.heap.size from by rw [e0]; exact (Nat.le_refl _)) X101 hs101' hg101' hZ hown
  unfold Q_rm1 at hQ101
  obtain ⟨o_101, t_101, kb_101, cd_101, N9_101, vs_101, rfl, N101q, K101, ge_o_101, f101_0, f101_1, f101_2, f101_3, f101_4⟩ := hQ101
  have N101 := Fr.app N0 N101q
  have g_o_101 : n0 ≤ o_101 := Nat.le_trans (old_le O0) ge_o_101
  have O102 : Old Z n0 T101.heap := Old.keep O0 K101 all0
  obtain ⟨_, _, ⟨T103, L103, k103, n103⟩, -, X103, ⟨Lc103, hQ103, l103, y103, z103⟩, st103⟩ := Jvm.LawKit.callS X101b hx (y := (⟨"com/example/vestwright/vestwright/InputTextIsPlainDecimalPinLaw", "bad", "(CII)Z"⟩ : MethodName)) hown101 (mvT hZ101 (hwk hw 28 rfl)) (mvT hZ101 (hwk hw 29 rfl)) (mvT hZ101 (hwk hw 4 rfl)) (mvT hZ101 (hwk hw 30 rfl)) (by decide) (backOf (W := 0) (rm5 l Z a0 hw [] q0 (0 : Int32) nn T101.heap n0 O102 ) hZ101 (hwk hw 30 rfl) (hwk hw 4 rfl) (by decide) (by decide)) (g := (mkF m 75 #[.val (.int p0), .val (.int p1), .val (.int p2), .val (.int p3), .val (.int nn), .val (.int q0), .val (.int q1), .val (.int q2), .val (.int q3), .val (.int q4), .val (.int q5), .val (.ref o_101), .unset, .unset, .unset] [(.int nn), (.int (0 : Int32)), (.int q0)])) rfl (by rw [hml]; rfl) (argsL := [(.int q0), (.int (0 : Int32)), (.int nn)]) (rest := []) (lenOf pd_25 rfl) rfl (by show 2 * 0 + _ ≤ _; exact Nat.le_of_eq rfl) (hb hby at_75) (fun _ _ => ⟨rfl, (rfl : T101.heap = T101.heap), (by decide : 6 + 0 ≤ _), (by decide : 28 + 0 ≤ _)⟩)
  dsimp only [Pt.U, Pt.locs, Pt.cells, Pt.slots] at X103 l103 y103 z103 st103 hQ103
  subst l103 y103 z103
  unfold Q_rm5 at hQ103
  obtain ⟨rfl, N103q, e103⟩ := hQ103
  have N103 := Fr.app N101 N103q
  have S104 : ∀ t, Steps p.tables e below (T103.setTop (mkF m 78 #[.val (.int p0), .val (.int p1), .val (.int p2), .val (.int p3), .val (.int nn), .val (.int q0), .val (.int q1), .val (.int q2), .val (.int q3), .val (.int q4), .val (.int q5), .val (.ref o_101), .unset, .unset, .unset] [(.int (BAD q0 (0 : Int32) nn))])) t → Steps p.tables e below (s₁.setTop (entryFrame m #[(.int p0), (.int p1), (.int p2), (.int p3)] maxLocals)) t := fun t k => by
    refine pre0 t ?_
    show Steps p.tables e below (s₁.setTop (mkF m 0 #[.val (.int p0), .val (.int p1), .val (.int p2), .val (.int p3), .unset, .unset, .unset, .unset, .unset, .unset, .unset, .unset, .unset, .unset, .unset] [])) _
    refine XS.iloadN X0.here hx rfl (hb hby at_0) rfl ?_
    show Steps p.tables e below (s₁.setTop (mkF m 1 #[.val (.int p0), .val (.int p1), .val (.int p2), .val (.int p3), .unset, .unset, .unset, .unset, .unset, .unset, .unset, .unset, .unset, .unset, .unset] [(.int p0)])) _
    refine X0.ldcInt hx hown (mvT hZ (hwk hw 0 rfl)) (g := (mkF m 1 #[.val (.int p0), .val (.int p1), .val (.int p2), .val (.int p3), .unset, .unset, .unset, .unset, .unset, .unset, .unset, .unset, .unset, .unset, .unset] [(.int p0)])) rfl (hb hby at_1) _ ?_
    show Steps p.tables e below (s₁.setTop (mkF m 3 #[.val (.int p0), .val (.int p1), .val (.int p2), .val (.int p3), .unset, .unset, .unset, .unset, .unset, .unset, .unset, .unset, .unset, .unset, .unset] [(.int (2147483647 : Int32)), (.int p0)])) _
    refine XS.iand X0.here hx rfl (hb hby at_3) rfl ?_
    show Steps p.tables e below (s₁.setTop (mkF m 4 #[.val (.int p0), .val (.int p1), .val (.int p2), .val (.int p3), .unset, .unset, .unset, .unset, .unset, .unset, .unset, .unset, .unset, .unset, .unset] [(.int (p0 &&& (2147483647 : Int32)))])) _
    refine XS.bipush X0.here hx rfl (hb hby at_4) ?_
    show Steps p.tables e below (s₁.setTop (mkF m 6 #[.val (.int p0), .val (.int p1), .val (.int p2), .val (.int p3), .unset, .unset, .unset, .unset, .unset, .unset, .unset, .unset, .unset, .unset, .unset] [(.int (7 : Int32)), (.int (p0 &&& (2147483647 : Int32)))])) _
    refine Jvm.RoadKit.iremM (g := (mkF m 6 #[.val (.int p0), .val (.int p1), .val (.int p2), .val (.int p3), .unset, .unset, .unset, .unset, .unset, .unset, .unset, .unset, .unset, .unset, .unset] [(.int (7 : Int32)), (.int (p0 &&& (2147483647 : Int32)))])) X0 hx rfl (hb hby at_6) rfl (by decide) ?_
    show Steps p.tables e below (s₁.setTop (mkF m 7 #[.val (.int p0), .val (.int p1), .val (.int p2), .val (.int p3), .unset, .unset, .unset, .unset, .unset, .unset, .unset, .unset, .unset, .unset, .unset] [(.int ((p0 &&& (2147483647 : Int32)) % (7 : Int32)))])) _
    refine XS.istore X0.here hx rfl (hb hby at_7) rfl (l' := #[.val (.int p0), .val (.int p1), .val (.int p2), .val (.int p3), .val (.int ((p0 &&& (2147483647 : Int32)) % (7 : Int32))), .unset, .unset, .unset, .unset, .unset, .unset, .unset, .unset, .unset, .unset]) rfl ?_
    show Steps p.tables e below (s₁.setTop (mkF m 9 #[.val (.int p0), .val (.int p1), .val (.int p2), .val (.int p3), .val (.int ((p0 &&& (2147483647 : Int32)) % (7 : Int32))), .unset, .unset, .unset, .unset, .unset, .unset, .unset, .unset, .unset, .unset] [])) _
    refine XS.iloadN X0.here hx rfl (hb hby at_9) rfl ?_
    show Steps p.tables e below (s₁.setTop (mkF m 10 #[.val (.int p0), .val (.int p1), .val (.int p2), .val (.int p3), .val (.int ((p0 &&& (2147483647 : Int32)) % (7 : Int32))), .unset, .unset, .unset, .unset, .unset, .unset, .unset, .unset, .unset, .unset] [(.int p1)])) _
    refine X0.ldcInt hx hown (mvT hZ (hwk hw 1 rfl)) (g := (mkF m 10 #[.val (.int p0), .val (.int p1), .val (.int p2), .val (.int p3), .val (.int ((p0 &&& (2147483647 : Int32)) % (7 : Int32))), .unset, .unset, .unset, .unset, .unset, .unset, .unset, .unset, .unset, .unset] [(.int p1)])) rfl (hb hby at_10) _ ?_
    show Steps p.tables e below (s₁.setTop (mkF m 12 #[.val (.int p0), .val (.int p1), .val (.int p2), .val (.int p3), .val (.int ((p0 &&& (2147483647 : Int32)) % (7 : Int32))), .unset, .unset, .unset, .unset, .unset, .unset, .unset, .unset, .unset, .unset] [(.int (65535 : Int32)), (.int p1)])) _
    refine XS.iand X0.here hx rfl (hb hby at_12) rfl ?_
    show Steps p.tables e below (s₁.setTop (mkF m 13 #[.val (.int p0), .val (.int p1), .val (.int p2), .val (.int p3), .val (.int ((p0 &&& (2147483647 : Int32)) % (7 : Int32))), .unset, .unset, .unset, .unset, .unset, .unset, .unset, .unset, .unset, .unset] [(.int (p1 &&& (65535 : Int32)))])) _
    refine XS.i2c X0.here hx rfl (hb hby at_13) rfl ?_
    show Steps p.tables e below (s₁.setTop (mkF m 14 #[.val (.int p0), .val (.int p1), .val (.int p2), .val (.int p3), .val (.int ((p0 &&& (2147483647 : Int32)) % (7 : Int32))), .unset, .unset, .unset, .unset, .unset, .unset, .unset, .unset, .unset, .unset] [(.int ((p1 &&& (65535 : Int32)).toUInt32.toUInt16.toUInt32.toInt32))])) _
    refine XS.istore X0.here hx rfl (hb hby at_14) rfl (l' := #[.val (.int p0), .val (.int p1), .val (.int p2), .val (.int p3), .val (.int ((p0 &&& (2147483647 : Int32)) % (7 : Int32))), .val (.int ((p1 &&& (65535 : Int32)).toUInt32.toUInt16.toUInt32.toInt32)), .unset, .unset, .unset, .unset, .unset, .unset, .unset, .unset, .unset]) rfl ?_
    show Steps p.tables e below (s₁.setTop (mkF m 16 #[.val (.int p0), .val (.int p1), .val (.int p2), .val (.int p3), .val (.int ((p0 &&& (2147483647 : Int32)) % (7 : Int32))), .val (.int ((p1 &&& (65535 : Int32)).toUInt32.toUInt16.toUInt32.toInt32)), .unset, .unset, .unset, .unset, .unset, .unset, .unset, .unset, .unset] [])) _
    refine XS.iloadN X0.here hx rfl (hb hby at_16) rfl ?_
    refine XS.bipush X0.here hx rfl (hb hby at_17) ?_
    refine XS.iushr X0.here hx rfl (hb hby at_19) rfl ?_
    show Steps p.tables e below (s₁.setTop (mkF m 20 #[.val (.int p0), .val (.int p1), .val (.int p2), .val (.int p3), .val (.int ((p0 &&& (2147483647 : Int32)) % (7 : Int32))), .val (.int ((p1 &&& (65535 : Int32)).toUInt32.toUInt16.toUInt32.toInt32)), .unset, .unset, .unset, .unset, .unset, .unset, .unset, .unset, .unset] [(.int ((p1.toUInt32 >>> ((16 : Int32) &&& 31).toUInt32).toInt32))])) _
    refine XS.i2c X0.here hx rfl (hb hby at_20) rfl ?_
    show Steps p.tables e below (s₁.setTop (mkF m 21 #[.val (.int p0), .val (.int p1), .val (.int p2), .val (.int p3), .val (.int ((p0 &&& (2147483647 : Int32)) % (7 : Int32))), .val (.int ((p1 &&& (65535 : Int32)).toUInt32.toUInt16.toUInt32.toInt32)), .unset, .unset, .unset, .unset, .unset, .unset, .unset, .unset, .unset] [(.int (((p1.toUInt32 >>> ((16 : Int32) &&& 31).toUInt32).toInt32).toUInt32.toUInt16.toUInt32.toInt32))])) _
    refine XS.istore X0.here hx rfl (hb hby at_21) rfl (l' := #[.val (.int p0), .val (.int p1), .val (.int p2), .val (.int p3), .val (.int ((p0 &&& (2147483647 : Int32)) % (7 : Int32))), .val (.int ((p1 &&& (65535 : Int32)).toUInt32.toUInt16.toUInt32.toInt32)), .val (.int (((p1.toUInt32 >>> ((16 : Int32) &&& 31).toUInt32).toInt32).toUInt32.toUInt16.toUInt32.toInt32)), .unset, .unset, .unset, .unset, .unset, .unset, .unset, .unset]) rfl ?_
    show Steps p.tables e below (s₁.setTop (mkF m 23 #[.val (.int p0), .val (.int p1), .val (.int p2), .val (.int p3), .val (.int ((p0 &&& (2147483647 : Int32)) % (7 : Int32))), .val (.int ((p1 &&& (65535 : Int32)).toUInt32.toUInt16.toUInt32.toInt32)), .val (.int (((p1.toUInt32 >>> ((16 : Int32) &&& 31).toUInt32).toInt32).toUInt32.toUInt16.toUInt32.toInt32)), .unset, .unset, .unset, .unset, .unset, .unset, .unset, .unset] [])) _
    refine XS.iloadN X0.here hx rfl (hb hby at_23) rfl ?_
    show Steps p.tables e below (s₁.setTop (mkF m 24 #[.val (.int p0), .val (.int p1), .val (.int p2), .val (.int p3), .val (.int ((p0 &&& (2147483647 : Int32)) % (7 : Int32))), .val (.int ((p1 &&& (65535 : Int32)).toUInt32.toUInt16.toUInt32.toInt32)), .val (.int (((p1.toUInt32 >>> ((16 : Int32) &&& 31).toUInt32).toInt32).toUInt32.toUInt16.toUInt32.toInt32)), .unset, .unset, .unset, .unset, .unset, .unset, .unset, .unset] [(.int p2)])) _
    refine X0.ldcInt hx hown (mvT hZ (hwk hw 1 rfl)) (g := (mkF m 24 #[.val (.int p0), .val (.int p1), .val (.int p2), .val (.int p3), .val (.int ((p0 &&& (2147483647 : Int32)) % (7 : Int32))), .val (.int ((p1 &&& (65535 : Int32)).toUInt32.toUInt16.toUInt32.toInt32)), .val (.int (((p1.toUInt32 >>> ((16 : Int32) &&& 31).toUInt32).toInt32).toUInt32.toUInt16.toUInt32.toInt32)), .unset, .unset, .unset, .unset, .unset, .unset, .unset, .unset] [(.int p2)])) rfl (hb hby at_24) _ ?_
    show Steps p.tables e below (s₁.setTop (mkF m 26 #[.val (.int p0), .val (.int p1), .val (.int p2), .val (.int p3), .val (.int ((p0 &&& (2147483647 : Int32)) % (7 : Int32))), .val (.int ((p1 &&& (65535 : Int32)).toUInt32.toUInt16.toUInt32.toInt32)), .val (.int (((p1.toUInt32 >>> ((16 : Int32) &&& 31).toUInt32).toInt32).toUInt32.toUInt16.toUInt32.toInt32)), .unset, .unset, .unset, .unset, .unset, .unset, .unset, .unset] [(.int (65535 : Int32)), (.int p2)])) _
    refine XS.iand X0.here hx rfl (hb hby at_26) rfl ?_
    show Steps p.tables e below (s₁.setTop (mkF m 27 #[.val (.int p0), .val (.int p1), .val (.int p2), .val (.int p3), .val (.int ((p0 &&& (2147483647 : Int32)) % (7 : Int32))), .val (.int ((p1 &&& (65535 : Int32)).toUInt32.toUInt16.toUInt32.toInt32)), .val (.int (((p1.toUInt32 >>> ((16 : Int32) &&& 31).toUInt32).toInt32).toUInt32.toUInt16.toUInt32.toInt32)), .unset, .unset, .unset, .unset, .unset, .unset, .unset, .unset] [(.int (p2 &&& (65535 : Int32)))])) _
    refine XS.i2c X0.here hx rfl (hb hby at_27) rfl ?_
    show Steps p.tables e below (s₁.setTop (mkF m 28 #[.val (.int p0), .val (.int p1), .val (.int p2), .val (.int p3), .val (.int ((p0 &&& (2147483647 : Int32)) % (7 : Int32))), .val (.int ((p1 &&& (65535 : Int32)).toUInt32.toUInt16.toUInt32.toInt32)), .val (.int (((p1.toUInt32 >>> ((16 : Int32) &&& 31).toUInt32).toInt32).toUInt32.toUInt16.toUInt32.toInt32)), .unset, .unset, .unset, .unset, .unset, .unset, .unset, .unset] [(.int ((p2 &&& (65535 : Int32)).toUInt32.toUInt16.toUInt32.toInt32))])) _
    refine XS.istore X0.here hx rfl (hb hby at_28) rfl (l' := #[.val (.int p0), .val (.int p1), .val (.int p2), .val (.int p3), .val (.int ((p0 &&& (2147483647 : Int32)) % (7 : Int32))), .val (.int ((p1 &&& (65535 : Int32)).toUInt32.toUInt16.toUInt32.toInt32)), .val (.int (((p1.toUInt32 >>> ((16 : Int32) &&& 31).toUInt32).toInt32).toUInt32.toUInt16.toUInt32.toInt32)), .val (.int ((p2 &&& (65535 : Int32)).toUInt32.toUInt16.toUInt32.toInt32)), .unset, .unset, .unset, .unset, .unset, .unset, .unset]) rfl ?_
    show Steps p.tables e below (s₁.setTop (mkF m 30 #[.val (.int p0), .val (.int p1), .val (.int p2), .val (.int p3), .val (.int ((p0 &&& (2147483647 : Int32)) % (7 : Int32))), .val (.int ((p1 &&& (65535 : Int32)).toUInt32.toUInt16.toUInt32.toInt32)), .val (.int (((p1.toUInt32 >>> ((16 : Int32) &&& 31).toUInt32).toInt32).toUInt32.toUInt16.toUInt32.toInt32)), .val (.int ((p2 &&& (65535 : Int32)).toUInt32.toUInt16.toUInt32.toInt32)), .unset, .unset, .unset, .unset, .unset, .unset, .unset] [])) _
    refine XS.iloadN X0.here hx rfl (hb hby at_30) rfl ?_
    refine XS.bipush X0.here hx rfl (hb hby at_31) ?_
    refine XS.iushr X0.here hx rfl (hb hby at_33) rfl ?_
    show Steps p.tables e below (s₁.setTop (mkF m 34 #[.val (.int p0), .val (.int p1), .val (.int p2), .val (.int p3), .val (.int ((p0 &&& (2147483647 : Int32)) % (7 : Int32))), .val (.int ((p1 &&& (65535 : Int32)).toUInt32.toUInt16.toUInt32.toInt32)), .val (.int (((p1.toUInt32 >>> ((16 : Int32) &&& 31).toUInt32).toInt32).toUInt32.toUInt16.toUInt32.toInt32)), .val (.int ((p2 &&& (65535 : Int32)).toUInt32.toUInt16.toUInt32.toInt32)), .unset, .unset, .unset, .unset, .unset, .unset, .unset] [(.int ((p2.toUInt32 >>> ((16 : Int32) &&& 31).toUInt32).toInt32))])) _
    refine XS.i2c X0.here hx rfl (hb hby at_34) rfl ?_
    show Steps p.tables e below (s₁.setTop (mkF m 35 #[.val (.int p0), .val (.int p1), .val (.int p2), .val (.int p3), .val (.int ((p0 &&& (2147483647 : Int32)) % (7 : Int32))), .val (.int ((p1 &&& (65535 : Int32)).toUInt32.toUInt16.toUInt32.toInt32)), .val (.int (((p1.toUInt32 >>> ((16 : Int32) &&& 31).toUInt32).toInt32).toUInt32.toUInt16.toUInt32.toInt32)), .val (.int ((p2 &&& (65535 : Int32)).toUInt32.toUInt16.toUInt32.toInt32)), .unset, .unset, .unset, .unset, .unset, .unset, .unset] [(.int (((p2.toUInt32 >>> ((16 : Int32) &&& 31).toUInt32).toInt32).toUInt32.toUInt16.toUInt32.toInt32))])) _
    refine XS.istore X0.here hx rfl (hb hby at_35) rfl (l' := #[.val (.int p0), .val (.int p1), .val (.int p2), .val (.int p3), .val (.int ((p0 &&& (2147483647 : Int32)) % (7 : Int32))), .val (.int ((p1 &&& (65535 : Int32)).toUInt32.toUInt16.toUInt32.toInt32)), .val (.int (((p1.toUInt32 >>> ((16 : Int32) &&& 31).toUInt32).toInt32).toUInt32.toUInt16.toUInt32.toInt32)), .val (.int ((p2 &&& (65535 : Int32)).toUInt32.toUInt16.toUInt32.toInt32)), .val (.int (((p2.toUInt32 >>> ((16 : Int32) &&& 31).toUInt32).toInt32).toUInt32.toUInt16.toUInt32.toInt32)), .unset, .unset, .unset, .unset, .unset, .unset]) rfl ?_
    show Steps p.tables e below (s₁.setTop (mkF m 37 #[.val (.int p0), .val (.int p1), .val (.int p2), .val (.int p3), .val (.int ((p0 &&& (2147483647 : Int32)) % (7 : Int32))), .val (.int ((p1 &&& (65535 : Int32)).toUInt32.toUInt16.toUInt32.toInt32)), .val (.int (((p1.toUInt32 >>> ((16 : Int32) &&& 31).toUInt32).toInt32).toUInt32.toUInt16.toUInt32.toInt32)), .val (.int ((p2 &&& (65535 : Int32)).toUInt32.toUInt16.toUInt32.toInt32)), .val (.int (((p2.toUInt32 >>> ((16 : Int32) &&& 31).toUInt32).toInt32).toUInt32.toUInt16.toUInt32.toInt32)), .unset, .unset, .unset, .unset, .unset, .unset] [])) _
    refine XS.iloadN X0.here hx rfl (hb hby at_37) rfl ?_
    show Steps p.tables e below (s₁.setTop (mkF m 38 #[.val (.int p0), .val (.int p1), .val (.int p2), .val (.int p3), .val (.int ((p0 &&& (2147483647 : Int32)) % (7 : Int32))), .val (.int ((p1 &&& (65535 : Int32)).toUInt32.toUInt16.toUInt32.toInt32)), .val (.int (((p1.toUInt32 >>> ((16 : Int32) &&& 31).toUInt32).toInt32).toUInt32.toUInt16.toUInt32.toInt32)), .val (.int ((p2 &&& (65535 : Int32)).toUInt32.toUInt16.toUInt32.toInt32)), .val (.int (((p2.toUInt32 >>> ((16 : Int32) &&& 31).toUInt32).toInt32).toUInt32.toUInt16.toUInt32.toInt32)), .unset, .unset, .unset, .unset, .unset, .unset] [(.int p3)])) _
    refine X0.ldcInt hx hown (mvT hZ (hwk hw 1 rfl)) (g := (mkF m 38 #[.val (.int p0), .val (.int p1), .val (.int p2), .val (.int p3), .val (.int ((p0 &&& (2147483647 : Int32)) % (7 : Int32))), .val (.int ((p1 &&& (65535 : Int32)).toUInt32.toUInt16.toUInt32.toInt32)), .val (.int (((p1.toUInt32 >>> ((16 : Int32) &&& 31).toUInt32).toInt32).toUInt32.toUInt16.toUInt32.toInt32)), .val (.int ((p2 &&& (65535 : Int32)).toUInt32.toUInt16.toUInt32.toInt32)), .val (.int (((p2.toUInt32 >>> ((16 : Int32) &&& 31).toUInt32).toInt32).toUInt32.toUInt16.toUInt32.toInt32)), .unset, .unset, .unset, .unset, .unset, .unset] [(.int p3)])) rfl (hb hby at_38) _ ?_
    show Steps p.tables e below (s₁.setTop (mkF m 40 #[.val (.int p0), .val (.int p1), .val (.int p2), .val (.int p3), .val (.int ((p0 &&& (2147483647 : Int32)) % (7 : Int32))), .val (.int ((p1 &&& (65535 : Int32)).toUInt32.toUInt16.toUInt32.toInt32)), .val (.int (((p1.toUInt32 >>> ((16 : Int32) &&& 31).toUInt32).toInt32).toUInt32.toUInt16.toUInt32.toInt32)), .val (.int ((p2 &&& (65535 : Int32)).toUInt32.toUInt16.toUInt32.toInt32)), .val (.int (((p2.toUInt32 >>> ((16 : Int32) &&& 31).toUInt32).toInt32).toUInt32.toUInt16.toUInt32.toInt32)), .unset, .unset, .unset, .unset, .unset, .unset] [(.int (65535 : Int32)), (.int p3)])) _
    refine XS.iand X0.here hx rfl (hb hby at_40) rfl ?_
    show Steps p.tables e below (s₁.setTop (mkF m 41 #[.val (.int p0), .val (.int p1), .val (.int p2), .val (.int p3), .val (.int ((p0 &&& (2147483647 : Int32)) % (7 : Int32))), .val (.int ((p1 &&& (65535 : Int32)).toUInt32.toUInt16.toUInt32.toInt32)), .val (.int (((p1.toUInt32 >>> ((16 : Int32) &&& 31).toUInt32).toInt32).toUInt32.toUInt16.toUInt32.toInt32)), .val (.int ((p2 &&& (65535 : Int32)).toUInt32.toUInt16.toUInt32.toInt32)), .val (.int (((p2.toUInt32 >>> ((16 : Int32) &&& 31).toUInt32).toInt32).toUInt32.toUInt16.toUInt32.toInt32)), .unset, .unset, .unset, .unset, .unset, .unset] [(.int (p3 &&& (65535 : Int32)))])) _
    refine XS.i2c X0.here hx rfl (hb hby at_41) rfl ?_
    show Steps p.tables e below (s₁.setTop (mkF m 42 #[.val (.int p0), .val (.int p1), .val (.int p2), .val (.int p3), .val (.int ((p0 &&& (2147483647 : Int32)) % (7 : Int32))), .val (.int ((p1 &&& (65535 : Int32)).toUInt32.toUInt16.toUInt32.toInt32)), .val (.int (((p1.toUInt32 >>> ((16 : Int32) &&& 31).toUInt32).toInt32).toUInt32.toUInt16.toUInt32.toInt32)), .val (.int ((p2 &&& (65535 : Int32)).toUInt32.toUInt16.toUInt32.toInt32)), .val (.int (((p2.toUInt32 >>> ((16 : Int32) &&& 31).toUInt32).toInt32).toUInt32.toUInt16.toUInt32.toInt32)), .unset, .unset, .unset, .unset, .unset, .unset] [(.int ((p3 &&& (65535 : Int32)).toUInt32.toUInt16.toUInt32.toInt32))])) _
    refine XS.istore X0.here hx rfl (hb hby at_42) rfl (l' := #[.val (.int p0), .val (.int p1), .val (.int p2), .val (.int p3), .val (.int ((p0 &&& (2147483647 : Int32)) % (7 : Int32))), .val (.int ((p1 &&& (65535 : Int32)).toUInt32.toUInt16.toUInt32.toInt32)), .val (.int (((p1.toUInt32 >>> ((16 : Int32) &&& 31).toUInt32).toInt32).toUInt32.toUInt16.toUInt32.toInt32)), .val (.int ((p2 &&& (65535 : Int32)).toUInt32.toUInt16.toUInt32.toInt32)), .val (.int (((p2.toUInt32 >>> ((16 : Int32) &&& 31).toUInt32).toInt32).toUInt32.toUInt16.toUInt32.toInt32)), .val (.int ((p3 &&& (65535 : Int32)).toUInt32.toUInt16.toUInt32.toInt32)), .unset, .unset, .unset, .unset, .unset]) rfl ?_
    show Steps p.tables e below (s₁.setTop (mkF m 44 #[.val (.int p0), .val (.int p1), .val (.int p2), .val (.int p3), .val (.int ((p0 &&& (2147483647 : Int32)) % (7 : Int32))), .val (.int ((p1 &&& (65535 : Int32)).toUInt32.toUInt16.toUInt32.toInt32)), .val (.int (((p1.toUInt32 >>> ((16 : Int32) &&& 31).toUInt32).toInt32).toUInt32.toUInt16.toUInt32.toInt32)), .val (.int ((p2 &&& (65535 : Int32)).toUInt32.toUInt16.toUInt32.toInt32)), .val (.int (((p2.toUInt32 >>> ((16 : Int32) &&& 31).toUInt32).toInt32).toUInt32.toUInt16.toUInt32.toInt32)), .val (.int ((p3 &&& (65535 : Int32)).toUInt32.toUInt16.toUInt32.toInt32)), .unset, .unset, .unset, .unset, .unset] [])) _
    refine XS.iloadN X0.here hx rfl (hb hby at_44) rfl ?_
    refine XS.bipush X0.here hx rfl (hb hby at_45) ?_
    refine XS.iushr X0.here hx rfl (hb hby at_47) rfl ?_
    show Steps p.tables e below (s₁.setTop (mkF m 48 #[.val (.int p0), .val (.int p1), .val (.int p2), .val (.int p3), .val (.int ((p0 &&& (2147483647 : Int32)) % (7 : Int32))), .val (.int ((p1 &&& (65535 : Int32)).toUInt32.toUInt16.toUInt32.toInt32)), .val (.int (((p1.toUInt32 >>> ((16 : Int32) &&& 31).toUInt32).toInt32).toUInt32.toUInt16.toUInt32.toInt32)), .val (.int ((p2 &&& (65535 : Int32)).toUInt32.toUInt16.toUInt32.toInt32)), .val (.int (((p2.toUInt32 >>> ((16 : Int32) &&& 31).toUInt32).toInt32).toUInt32.toUInt16.toUInt32.toInt32)), .val (.int ((p3 &&& (65535 : Int32)).toUInt32.toUInt16.toUInt32.toInt32)), .unset, .unset, .unset, .unset, .unset] [(.int ((p3.toUInt32 >>> ((16 : Int32) &&& 31).toUInt32).toInt32))])) _
    refine XS.i2c X0.here hx rfl (hb hby at_48) rfl ?_
    show Steps p.tables e below (s₁.setTop (mkF m 49 #[.val (.int p0), .val (.int p1), .val (.int p2), .val (.int p3), .val (.int ((p0 &&& (2147483647 : Int32)) % (7 : Int32))), .val (.int ((p1 &&& (65535 : Int32)).toUInt32.toUInt16.toUInt32.toInt32)), .val (.int (((p1.toUInt32 >>> ((16 : Int32) &&& 31).toUInt32).toInt32).toUInt32.toUInt16.toUInt32.toInt32)), .val (.int ((p2 &&& (65535 : Int32)).toUInt32.toUInt16.toUInt32.toInt32)), .val (.int (((p2.toUInt32 >>> ((16 : Int32) &&& 31).toUInt32).toInt32).toUInt32.toUInt16.toUInt32.toInt32)), .val (.int ((p3 &&& (65535 : Int32)).toUInt32.toUInt16.toUInt32.toInt32)), .unset, .unset, .unset, .unset, .unset] [(.int (((p3.toUInt32 >>> ((16 : Int32) &&& 31).toUInt32).toInt32).toUInt32.toUInt16.toUInt32.toInt32))])) _
    refine XS.istore X0.here hx rfl (hb hby at_49) rfl (l' := #[.val (.int p0), .val (.int p1), .val (.int p2), .val (.int p3), .val (.int ((p0 &&& (2147483647 : Int32)) % (7 : Int32))), .val (.int ((p1 &&& (65535 : Int32)).toUInt32.toUInt16.toUInt32.toInt32)), .val (.int (((p1.toUInt32 >>> ((16 : Int32) &&& 31).toUInt32).toInt32).toUInt32.toUInt16.toUInt32.toInt32)), .val (.int ((p2 &&& (65535 : Int32)).toUInt32.toUInt16.toUInt32.toInt32)), .val (.int (((p2.toUInt32 >>> ((16 : Int32) &&& 31).toUInt32).toInt32).toUInt32.toUInt16.toUInt32.toInt32)), .val (.int ((p3 &&& (65535 : Int32)).toUInt32.toUInt16.toUInt32.toInt32)), .val (.int (((p3.toUInt32 >>> ((16 : Int32) &&& 31).toUInt32).toInt32).toUInt32.toUInt16.toUInt32.toInt32)), .unset, .unset, .unset, .unset]) rfl ?_
    show Steps p.tables e below (s₁.setTop (mkF m 51 #[.val (.int p0), .val (.int p1), .val (.int p2), .val (.int p3), .val (.int ((p0 &&& (2147483647 : Int32)) % (7 : Int32))), .val (.int ((p1 &&& (65535 : Int32)).toUInt32.toUInt16.toUInt32.toInt32)), .val (.int (((p1.toUInt32 >>> ((16 : Int32) &&& 31).toUInt32).toInt32).toUInt32.toUInt16.toUInt32.toInt32)), .val (.int ((p2 &&& (65535 : Int32)).toUInt32.toUInt16.toUInt32.toInt32)), .val (.int (((p2.toUInt32 >>> ((16 : Int32) &&& 31).toUInt32).toInt32).toUInt32.toUInt16.toUInt32.toInt32)), .val (.int ((p3 &&& (65535 : Int32)).toUInt32.toUInt16.toUInt32.toInt32)), .val (.int (((p3.toUInt32 >>> ((16 : Int32) &&& 31).toUInt32).toInt32).toUInt32.toUInt16.toUInt32.toInt32)), .unset, .unset, .unset, .unset] [])) _
    rw [← enn]
    show Steps p.tables e below (s₁.setTop (mkF m 51 #[.val (.int p0), .val (.int p1), .val (.int p2), .val (.int p3), .val (.int nn), .val (.int ((p1 &&& (65535 : Int32)).toUInt32.toUInt16.toUInt32.toInt32)), .val (.int (((p1.toUInt32 >>> ((16 : Int32) &&& 31).toUInt32).toInt32).toUInt32.toUInt16.toUInt32.toInt32)), .val (.int ((p2 &&& (65535 : Int32)).toUInt32.toUInt16.toUInt32.toInt32)), .val (.int (((p2.toUInt32 >>> ((16 : Int32) &&& 31).toUInt32).toInt32).toUInt32.toUInt16.toUInt32.toInt32)), .val (.int ((p3 &&& (65535 : Int32)).toUInt32.toUInt16.toUInt32.toInt32)), .val (.int (((p3.toUInt32 >>> ((16 : Int32) &&& 31).toUInt32).toInt32).toUInt32.toUInt16.toUInt32.toInt32)), .unset, .unset, .unset, .unset] [])) _
    rw [← eq0]
    show Steps p.tables e below (s₁.setTop (mkF m 51 #[.val (.int p0), .val (.int p1), .val (.int p2), .val (.int p3), .val (.int nn), .val (.int q0), .val (.int (((p1.toUInt32 >>> ((16 : Int32) &&& 31).toUInt32).toInt32).toUInt32.toUInt16.toUInt32.toInt32)), .val (.int ((p2 &&& (65535 : Int32)).toUInt32.toUInt16.toUInt32.toInt32)), .val (.int (((p2.toUInt32 >>> ((16 : Int32) &&& 31).toUInt32).toInt32).toUInt32.toUInt16.toUInt32.toInt32)), .val (.int ((p3 &&& (65535 : Int32)).toUInt32.toUInt16.toUInt32.toInt32)), .val (.int (((p3.toUInt32 >>> ((16 : Int32) &&& 31).toUInt32).toInt32).toUInt32.toUInt16.toUInt32.toInt32)), .unset, .unset, .unset, .unset] [])) _
    rw [← eq1]
    show Steps p.tables e below (s₁.setTop (mkF m 51 #[.val (.int p0), .val (.int p1), .val (.int p2), .val (.int p3), .val (.int nn), .val (.int q0), .val (.int q1), .val (.int ((p2 &&& (65535 : Int32)).toUInt32.toUInt16.toUInt32.toInt32)), .val (.int (((p2.toUInt32 >>> ((16 : Int32) &&& 31).toUInt32).toInt32).toUInt32.toUInt16.toUInt32.toInt32)), .val (.int ((p3 &&& (65535 : Int32)).toUInt32.toUInt16.toUInt32.toInt32)), .val (.int (((p3.toUInt32 >>> ((16 : Int32) &&& 31).toUInt32).toInt32).toUInt32.toUInt16.toUInt32.toInt32)), .unset, .unset, .unset, .unset] [])) _
    rw [← eq2]
    show Steps p.tables e below (s₁.setTop (mkF m 51 #[.val (.int p0), .val (.int p1), .val (.int p2), .val (.int p3), .val (.int nn), .val (.int q0), .val (.int q1), .val (.int q2), .val (.int (((p2.toUInt32 >>> ((16 : Int32) &&& 31).toUInt32).toInt32).toUInt32.toUInt16.toUInt32.toInt32)), .val (.int ((p3 &&& (65535 : Int32)).toUInt32.toUInt16.toUInt32.toInt32)), .val (.int (((p3.toUInt32 >>> ((16 : Int32) &&& 31).toUInt32).toInt32).toUInt32.toUInt16.toUInt32.toInt32)), .unset, .unset, .unset, .unset] [])) _
    rw [← eq3]
    show Steps p.tables e below (s₁.setTop (mkF m 51 #[.val (.int p0), .val (.int p1), .val (.int p2), .val (.int p3), .val (.int nn), .val (.int q0), .val (.int q1), .val (.int q2), .val (.int q3), .val (.int ((p3 &&& (65535 : Int32)).toUInt32.toUInt16.toUInt32.toInt32)), .val (.int (((p3.toUInt32 >>> ((16 : Int32) &&& 31).toUInt32).toInt32).toUInt32.toUInt16.toUInt32.toInt32)), .unset, .unset, .unset, .unset] [])) _
    rw [← eq4]
    show Steps p.tables e below (s₁.setTop (mkF m 51 #[.val (.int p0), .val (.int p1), .val (.int p2), .val (.int p3), .val (.int nn), .val (.int q0), .val (.int q1), .val (.int q2), .val (.int q3), .val (.int q4), .val (.int (((p3.toUInt32 >>> ((16 : Int32) &&& 31).toUInt32).toInt32).toUInt32.toUInt16.toUInt32.toInt32)), .unset, .unset, .unset, .unset] [])) _
    rw [← eq5]
    show Steps p.tables e below (s₁.setTop (mkF m 51 #[.val (.int p0), .val (.int p1), .val (.int p2), .val (.int p3), .val (.int nn), .val (.int q0), .val (.int q1), .val (.int q2), .val (.int q3), .val (.int q4), .val (.int q5), .unset, .unset, .unset, .unset] [])) _
    refine XS.iload X0.here hx rfl (hb hby at_51) rfl ?_
    refine XS.iload X0.here hx rfl (hb hby at_53) rfl ?_
    refine XS.iload X0.here hx rfl (hb hby at_55) rfl ?_
    refine XS.iload X0.here hx rfl (hb hby at_57) rfl ?_
    show Steps p.tables e below (s₁.setTop (mkF m 59 #[.val (.int p0), .val (.int p1), .val (.int p2), .val (.int p3), .val (.int nn), .val (.int q0), .val (.int q1), .val (.int q2), .val (.int q3), .val (.int q4), .val (.int q5), .unset, .unset, .unset, .unset] [(.int q2), (.int q1), (.int q0), (.int nn)])) _
    refine XS.iload X0.here hx rfl (hb hby at_59) rfl ?_
    refine XS.iload X0.here hx rfl (hb hby at_61) rfl ?_
    refine XS.iload X0.here hx rfl (hb hby at_63) rfl ?_
    show Steps p.tables e below (s₁.setTop (mkF m 65 #[.val (.int p0), .val (.int p1), .val (.int p2), .val (.int p3), .val (.int nn), .val (.int q0), .val (.int q1), .val (.int q2), .val (.int q3), .val (.int q4), .val (.int q5), .unset, .unset, .unset, .unset] [(.int q5), (.int q4), (.int q3), (.int q2), (.int q1), (.int q0), (.int nn)])) _
    refine st101.trans ?_
    show Steps p.tables e below (T101.setTop (mkF m 68 #[.val (.int p0), .val (.int p1), .val (.int p2), .val (.int p3), .val (.int nn), .val (.int q0), .val (.int q1), .val (.int q2), .val (.int q3), .val (.int q4), .val (.int q5), .unset, .unset, .unset, .unset] [(.ref o_101)])) _
    refine XS.astore X101b.here hx rfl (hb hby at_68) rfl rfl (l' := #[.val (.int p0), .val (.int p1), .val (.int p2), .val (.int p3), .val (.int nn), .val (.int q0), .val (.int q1), .val (.int q2), .val (.int q3), .val (.int q4), .val (.int q5), .val (.ref o_101), .unset, .unset, .unset]) rfl ?_
    show Steps p.tables e below (T101.setTop (mkF m 70 #[.val (.int p0), .val (.int p1), .val (.int p2), .val (.int p3), .val (.int nn), .val (.int q0), .val (.int q1), .val (.int q2), .val (.int q3), .val (.int q4), .val (.int q5), .val (.ref o_101), .unset, .unset, .unset] [])) _
    refine XS.iload X101b.here hx rfl (hb hby at_70) rfl ?_
    refine XS.iconst X101b.here hx rfl (hb hby at_72) ?_
    refine XS.iload X101b.here hx rfl (hb hby at_73) rfl ?_
    show Steps p.tables e below (T101.setTop (mkF m 75 #[.val (.int p0), .val (.int p1), .val (.int p2), .val (.int p3), .val (.int nn), .val (.int q0), .val (.int q1), .val (.int q2), .val (.int q3), .val (.int q4), .val (.int q5), .val (.ref o_101), .unset, .unset, .unset] [(.int nn), (.int (0 : Int32)), (.int q0)])) _
    refine st103 _ ?_
    exact k
  obtain ⟨T106, L106, X106, e106, N106, S106⟩ : ∃ (T' : State) (L' : List Loc), LocStand X103 T' L' ∧ T'.heap = T101.heap ∧ Fr n0 L' ∧ ∀ t, Steps p.tables e below (T'.setTop (mkF m 141 #[.val (.int p0), .val (.int p1), .val (.int p2), .val (.int p3), .val (.int nn), .val (.int q0), .val (.int q1), .val (.int q2), .val (.int q3), .val (.int q4), .val (.int q5), .val (.ref o_101), .unset, .unset, .unset] [(.int (if (BAD q0 (0 : Int32) nn) = (0 : Int32) then (if (BAD q1 (1 : Int32) nn) = (0 : Int32) then (if (BAD q2 (2 : Int32) nn) = (0 : Int32) then (if (BAD q3 (3 : Int32) nn) = (0 : Int32) then (if (BAD q4 (4 : Int32) nn) = (0 : Int32) then (if (BAD q5 (5 : Int32) nn) = (0 : Int32) then (1 : Int32) else (0 : Int32)) else (0 : Int32)) else (0 : Int32)) else (0 : Int32)) else (0 : Int32)) else (0 : Int32)))])) t → Steps p.tables e below (s₁.setTop (entryFrame m #[(.int p0), (.int p1), (.int p2), (.int p3)] maxLocals)) t := by
    by_cases hc105 : (BAD q0 (0 : Int32) nn) = (0 : Int32)
    · obtain ⟨_, _, ⟨T107, L107, k107, n107⟩, -, X107, ⟨Lc107, hQ107, l107, y107, z107⟩, st107⟩ := Jvm.LawKit.callS X103 hx (y := (⟨"com/example/vestwright/vestwright/InputTextIsPlainDecimalPinLaw", "bad", "(CII)Z"⟩ : MethodName)) hown101 (mvT hZ101 (hwk hw 28 rfl)) (mvT hZ101 (hwk hw 29 rfl)) (mvT hZ101 (hwk hw 4 rfl)) (mvT hZ101 (hwk hw 30 rfl)) (by decide) (backOf (W := 0) (rm5 l Z a0 hw [] q1 (1 : Int32) nn T101.heap n0 O102 ) hZ101 (hwk hw 30 rfl) (hwk hw 4 rfl) (by decide) (by decide)) (g := (mkF m 86 #[.val (.int p0), .val (.int p1), .val (.int p2), .val (.int p3), .val (.int nn), .val (.int q0), .val (.int q1), .val (.int q2), .val (.int q3), .val (.int q4), .val (.int q5), .val (.ref o_101), .unset, .unset, .unset] [(.int nn), (.int (1 : Int32)), (.int q1)])) rfl (by rw [hml]; rfl) (argsL := [(.int q1), (.int (1 : Int32)), (.int nn)]) (rest := []) (lenOf pd_25 rfl) rfl (by show 2 * 0 + _ ≤ _; exact Nat.le_of_eq rfl) (hb hby at_86) (fun _ _ => ⟨rfl, e103, (by decide : 6 + 0 ≤ _), (by decide : 28 + 0 ≤ _)⟩)
      dsimp only [Pt.U, Pt.locs, Pt.cells, Pt.slots] at X107 l107 y107 z107 st107 hQ107
      subst l107 y107 z107
      unfold Q_rm5 at hQ107
      obtain ⟨rfl, N107q, e107⟩ := hQ107
      have N107 := Fr.app N103 N107q
      by_cases hc108 : (BAD q1 (1 : Int32) nn) = (0 : Int32)
      · obtain ⟨_, _, ⟨T109, L109, k109, n109⟩, -, X109, ⟨Lc109, hQ109, l109, y109, z109⟩, st109⟩ := Jvm.LawKit.callS X107 hx (y := (⟨"com/example/vestwright/vestwright/InputTextIsPlainDecimalPinLaw", "bad", "(CII)Z"⟩ : MethodName)) hown101 (mvT hZ101 (hwk hw 28 rfl)) (mvT hZ101 (hwk hw 29 rfl)) (mvT hZ101 (hwk hw 4 rfl)) (mvT hZ101 (hwk hw 30 rfl)) (by decide) (backOf (W := 0) (rm5 l Z a0 hw [] q2 (2 : Int32) nn T101.heap n0 O102 ) hZ101 (hwk hw 30 rfl) (hwk hw 4 rfl) (by decide) (by decide)) (g := (mkF m 97 #[.val (.int p0), .val (.int p1), .val (.int p2), .val (.int p3), .val (.int nn), .val (.int q0), .val (.int q1), .val (.int q2), .val (.int q3), .val (.int q4), .val (.int q5), .val (.ref o_101), .unset, .unset, .unset] [(.int nn), (.int (2 : Int32)), (.int q2)])) rfl (by rw [hml]; rfl) (argsL := [(.int q2), (.int (2 : Int32)), (.int nn)]) (rest := []) (lenOf pd_25 rfl) rfl (by show 2 * 0 + _ ≤ _; exact Nat.le_of_eq rfl) (hb hby at_97) (fun _ _ => ⟨rfl, e107, (by decide : 6 + 0 ≤ _), (by decide : 28 + 0 ≤ _)⟩)
        dsimp only [Pt.U, Pt.locs, Pt.cells, Pt.slots] at X109 l109 y109 z109 st109 hQ109
        subst l109 y109 z109
        unfold Q_rm5 at hQ109
        obtain ⟨rfl, N109q, e109⟩ := hQ109
        have N109 := Fr.app N107 N109q
        by_cases hc110 : (BAD q2 (2 : Int32) nn) = (0 : Int32)
        · obtain ⟨_, _, ⟨T111, L111, k111, n111⟩, -, X111, ⟨Lc111, hQ111, l111, y111, z111⟩, st111⟩ := Jvm.LawKit.callS X109 hx (y := (⟨"com/example/vestwright/vestwright/InputTextIsPlainDecimalPinLaw", "bad", "(CII)Z"⟩ : MethodName)) hown101 (mvT hZ101 (hwk hw 28 rfl)) (mvT hZ101 (hwk hw 29 rfl)) (mvT hZ101 (hwk hw 4 rfl)) (mvT hZ101 (hwk hw 30 rfl)) (by decide) (backOf (W := 0) (rm5 l Z a0 hw [] q3 (3 : Int32) nn T101.heap n0 O102 ) hZ101 (hwk hw 30 rfl) (hwk hw 4 rfl) (by decide) (by decide)) (g := (mkF m 108 #[.val (.int p0), .val (.int p1), .val (.int p2), .val (.int p3), .val (.int nn), .val (.int q0), .val (.int q1), .val (.int q2), .val (.int q3), .val (.int q4), .val (.int q5), .val (.ref o_101), .unset, .unset, .unset] [(.int nn), (.int (3 : Int32)), (.int q3)])) rfl (by rw [hml]; rfl) (argsL := [(.int q3), (.int (3 : Int32)), (.int nn)]) (rest := []) (lenOf pd_25 rfl) rfl (by show 2 * 0 + _ ≤ _; exact Nat.le_of_eq rfl) (hb hby at_108) (fun _ _ => ⟨rfl, e109, (by decide : 6 + 0 ≤ _), (by decide : 28 + 0 ≤ _)⟩)
          dsimp only [Pt.U, Pt.locs, Pt.cells, Pt.slots] at X111 l111 y111 z111 st111 hQ111
          subst l111 y111 z111
          unfold Q_rm5 at hQ111
          obtain ⟨rfl, N111q, e111⟩ := hQ111
          have N111 := Fr.app N109 N111q
          by_cases hc112 : (BAD q3 (3 : Int32) nn) = (0 : Int32)
          · obtain ⟨_, _, ⟨T113, L113, k113, n113⟩, -, X113, ⟨Lc113, hQ113, l113, y113, z113⟩, st113⟩ := Jvm.LawKit.callS X111 hx (y := (⟨"com/example/vestwright/vestwright/InputTextIsPlainDecimalPinLaw", "bad", "(CII)Z"⟩ : MethodName)) hown101 (mvT hZ101 (hwk hw 28 rfl)) (mvT hZ101 (hwk hw 29 rfl)) (mvT hZ101 (hwk hw 4 rfl)) (mvT hZ101 (hwk hw 30 rfl)) (by decide) (backOf (W := 0) (rm5 l Z a0 hw [] q4 (4 : Int32) nn T101.heap n0 O102 ) hZ101 (hwk hw 30 rfl) (hwk hw 4 rfl) (by decide) (by decide)) (g := (mkF m 119 #[.val (.int p0), .val (.int p1), .val (.int p2), .val (.int p3), .val (.int nn), .val (.int q0), .val (.int q1), .val (.int q2), .val (.int q3), .val (.int q4), .val (.int q5), .val (.ref o_101), .unset, .unset, .unset] [(.int nn), (.int (4 : Int32)), (.int q4)])) rfl (by rw [hml]; rfl) (argsL := [(.int q4), (.int (4 : Int32)), (.int nn)]) (rest := []) (lenOf pd_25 rfl) rfl (by show 2 * 0 + _ ≤ _; exact Nat.le_of_eq rfl) (hb hby at_119) (fun _ _ => ⟨rfl, e111, (by decide : 6 + 0 ≤ _), (by decide : 28 + 0 ≤ _)⟩)
            dsimp only [Pt.U, Pt.locs, Pt.cells, Pt.slots] at X113 l113 y113 z113 st113 hQ113
            subst l113 y113 z113
            unfold Q_rm5 at hQ113
            obtain ⟨rfl, N113q, e113⟩ := hQ113
            have N113 := Fr.app N111 N113q
            by_cases hc114 : (BAD q4 (4 : Int32) nn) = (0 : Int32)
            · obtain ⟨_, _, ⟨T115, L115, k115, n115⟩, -, X115, ⟨Lc115, hQ115, l115, y115, z115⟩, st115⟩ := Jvm.LawKit.callS X113 hx (y := (⟨"com/example/vestwright/vestwright/InputTextIsPlainDecimalPinLaw", "bad", "(CII)Z"⟩ : MethodName)) hown101 (mvT hZ101 (hwk hw 28 rfl)) (mvT hZ101 (hwk hw 29 rfl)) (mvT hZ101 (hwk hw 4 rfl)) (mvT hZ101 (hwk hw 30 rfl)) (by decide) (backOf (W := 0) (rm5 l Z a0 hw [] q5 (5 : Int32) nn T101.heap n0 O102 ) hZ101 (hwk hw 30 rfl) (hwk hw 4 rfl) (by decide) (by decide)) (g := (mkF m 130 #[.val (.int p0), .val (.int p1), .val (.int p2), .val (.int p3), .val (.int nn), .val (.int q0), .val (.int q1), .val (.int q2), .val (.int q3), .val (.int q4), .val (.int q5), .val (.ref o_101), .unset, .unset, .unset] [(.int nn), (.int (5 : Int32)), (.int q5)])) rfl (by rw [hml]; rfl) (argsL := [(.int q5), (.int (5 : Int32)), (.int nn)]) (rest := []) (lenOf pd_25 rfl) rfl (by show 2 * 0 + _ ≤ _; exact Nat.le_of_eq rfl) (hb hby at_130) (fun _ _ => ⟨rfl, e113, (by decide : 6 + 0 ≤ _), (by decide : 28 + 0 ≤ _)⟩)
              dsimp only [Pt.U, Pt.locs, Pt.cells, Pt.slots] at X115 l115 y115 z115 st115 hQ115
              subst l115 y115 z115
              unfold Q_rm5 at hQ115
              obtain ⟨rfl, N115q, e115⟩ := hQ115
              have N115 := Fr.app N113 N115q
              by_cases hc116 : (BAD q5 (5 : Int32) nn) = (0 : Int32)
              · refine ⟨T115, _, X115, e115, N115, fun t k => ?_⟩
                try simp only [if_pos hc105, if_pos hc108, if_pos hc110, if_pos hc112, if_pos hc114, if_pos hc116] at k
                refine S104 t ?_
                show Steps p.tables e below (T103.setTop (mkF m 78 #[.val (.int p0), .val (.int p1), .val (.int p2), .val (.int p3), .val (.int nn), .val (.int q0), .val (.int q1), .val (.int q2), .val (.int q3), .val (.int q4), .val (.int q5), .val (.ref o_101), .unset, .unset, .unset] [(.int (BAD q0 (0 : Int32) nn))])) _
                refine XS.ifNo X103.here hx rfl (hb hby at_78) rfl ((if0 _ _).trans (teq hc105).2) ?_
                show Steps p.tables e below (T103.setTop (mkF m 81 #[.val (.int p0), .val (.int p1), .val (.int p2), .val (.int p3), .val (.int nn), .val (.int q0), .val (.int q1), .val (.int q2), .val (.int q3), .val (.int q4), .val (.int q5), .val (.ref o_101), .unset, .unset, .unset] [])) _
                refine XS.iload X103.here hx rfl (hb hby at_81) rfl ?_
                refine XS.iconst X103.here hx rfl (hb hby at_83) ?_
                refine XS.iload X103.here hx rfl (hb hby at_84) rfl ?_
                show Steps p.tables e below (T103.setTop (mkF m 86 #[.val (.int p0), .val (.int p1), .val (.int p2), .val (.int p3), .val (.int nn), .val (.int q0), .val (.int q1), .val (.int q2), .val (.int q3), .val (.int q4), .val (.int q5), .val (.ref o_101), .unset, .unset, .unset] [(.int nn), (.int (1 : Int32)), (.int q1)])) _
                refine st107 _ ?_
                show Steps p.tables e below (T107.setTop (mkF m 89 #[.val (.int p0), .val (.int p1), .val (.int p2), .val (.int p3), .val (.int nn), .val (.int q0), .val (.int q1), .val (.int q2), .val (.int q3), .val (.int q4), .val (.int q5), .val (.ref o_101), .unset, .unset, .unset] [(.int (BAD q1 (1 : Int32) nn))])) _
                refine XS.ifNo X107.here hx rfl (hb hby at_89) rfl ((if0 _ _).trans (teq hc108).2) ?_
                show Steps p.tables e below (T107.setTop (mkF m 92 #[.val (.int p0), .val (.int p1), .val (.int p2), .val (.int p3), .val (.int nn), .val (.int q0), .val (.int q1), .val (.int q2), .val (.int q3), .val (.int q4), .val (.int q5), .val (.ref o_101), .unset, .unset, .unset] [])) _
                refine XS.iload X107.here hx rfl (hb hby at_92) rfl ?_
                refine XS.iconst X107.here hx rfl (hb hby at_94) ?_
                refine XS.iload X107.here hx rfl (hb hby at_95) rfl ?_
                show Steps p.tables e below (T107.setTop (mkF m 97 #[.val (.int p0), .val (.int p1), .val (.int p2), .val (.int p3), .val (.int nn), .val (.int q0), .val (.int q1), .val (.int q2), .val (.int q3), .val (.int q4), .val (.int q5), .val (.ref o_101), .unset, .unset, .unset] [(.int nn), (.int (2 : Int32)), (.int q2)])) _
                refine st109 _ ?_
                show Steps p.tables e below (T109.setTop (mkF m 100 #[.val (.int p0), .val (.int p1), .val (.int p2), .val (.int p3), .val (.int nn), .val (.int q0), .val (.int q1), .val (.int q2), .val (.int q3), .val (.int q4), .val (.int q5), .val (.ref o_101), .unset, .unset, .unset] [(.int (BAD q2 (2 : Int32) nn))])) _
                refine XS.ifNo X109.here hx rfl (hb hby at_100) rfl ((if0 _ _).trans (teq hc110).2) ?_
                show Steps p.tables e below (T109.setTop (mkF m 103 #[.val (.int p0), .val (.int p1), .val (.int p2), .val (.int p3), .val (.int nn), .val (.int q0), .val (.int q1), .val (.int q2), .val (.int q3), .val (.int q4), .val (.int q5), .val (.ref o_101), .unset, .unset, .unset] [])) _
                refine XS.iload X109.here hx rfl (hb hby at_103) rfl ?_
                refine XS.iconst X109.here hx rfl (hb hby at_105) ?_
                refine XS.iload X109.here hx rfl (hb hby at_106) rfl ?_
                show Steps p.tables e below (T109.setTop (mkF m 108 #[.val (.int p0), .val (.int p1), .val (.int p2), .val (.int p3), .val (.int nn), .val (.int q0), .val (.int q1), .val (.int q2), .val (.int q3), .val (.int q4), .val (.int q5), .val (.ref o_101), .unset, .unset, .unset] [(.int nn), (.int (3 : Int32)), (.int q3)])) _
                refine st111 _ ?_
                show Steps p.tables e below (T111.setTop (mkF m 111 #[.val (.int p0), .val (.int p1), .val (.int p2), .val (.int p3), .val (.int nn), .val (.int q0), .val (.int q1), .val (.int q2), .val (.int q3), .val (.int q4), .val (.int q5), .val (.ref o_101), .unset, .unset, .unset] [(.int (BAD q3 (3 : Int32) nn))])) _
                refine XS.ifNo X111.here hx rfl (hb hby at_111) rfl ((if0 _ _).trans (teq hc112).2) ?_
                show Steps p.tables e below (T111.setTop (mkF m 114 #[.val (.int p0), .val (.int p1), .val (.int p2), .val (.int p3), .val (.int nn), .val (.int q0), .val (.int q1), .val (.int q2), .val (.int q3), .val (.int q4), .val (.int q5), .val (.ref o_101), .unset, .unset, .unset] [])) _
                refine XS.iload X111.here hx rfl (hb hby at_114) rfl ?_
                refine XS.iconst X111.here hx rfl (hb hby at_116) ?_
                refine XS.iload X111.here hx rfl (hb hby at_117) rfl ?_
                show Steps p.tables e below (T111.setTop (mkF m 119 #[.val (.int p0), .val (.int p1), .val (.int p2), .val (.int p3), .val (.int nn), .val (.int q0), .val (.int q1), .val (.int q2), .val (.int q3), .val (.int q4), .val (.int q5), .val (.ref o_101), .unset, .unset, .unset] [(.int nn), (.int (4 : Int32)), (.int q4)])) _
                refine st113 _ ?_
                show Steps p.tables e below (T113.setTop (mkF m 122 #[.val (.int p0), .val (.int p1), .val (.int p2), .val (.int p3), .val (.int nn), .val (.int q0), .val (.int q1), .val (.int q2), .val (.int q3), .val (.int q4), .val (.int q5), .val (.ref o_101), .unset, .unset, .unset] [(.int (BAD q4 (4 : Int32) nn))])) _
                refine XS.ifNo X113.here hx rfl (hb hby at_122) rfl ((if0 _ _).trans (teq hc114).2) ?_
                show Steps p.tables e below (T113.setTop (mkF m 125 #[.val (.int p0), .val (.int p1), .val (.int p2), .val (.int p3), .val (.int nn), .val (.int q0), .val (.int q1), .val (.int q2), .val (.int q3), .val (.int q4), .val (.int q5), .val (.ref o_101), .unset, .unset, .unset] [])) _
                refine XS.iload X113.here hx rfl (hb hby at_125) rfl ?_
                refine XS.iconst X113.here hx rfl (hb hby at_127) ?_
                refine XS.iload X113.here hx rfl (hb hby at_128) rfl ?_
                show Steps p.tables e below (T113.setTop (mkF m 130 #[.val (.int p0), .val (.int p1), .val (.int p2), .val (.int p3), .val (.int nn), .val (.int q0), .val (.int q1), .val (.int q2), .val (.int q3), .val (.int q4), .val (.int q5), .val (.ref o_101), .unset, .unset, .unset] [(.int nn), (.int (5 : Int32)), (.int q5)])) _
                refine st115 _ ?_
                show Steps p.tables e below (T115.setTop (mkF m 133 #[.val (.int p0), .val (.int p1), .val (.int p2), .val (.int p3), .val (.int nn), .val (.int q0), .val (.int q1), .val (.int q2), .val (.int q3), .val (.int q4), .val (.int q5), .val (.ref o_101), .unset, .unset, .unset] [(.int (BAD q5 (5 : Int32) nn))])) _
                refine XS.ifNo X115.here hx rfl (hb hby at_133) rfl ((if0 _ _).trans (teq hc116).2) ?_
                show Steps p.tables e below (T115.setTop (mkF m 136 #[.val (.int p0), .val (.int p1), .val (.int p2), .val (.int p3), .val (.int nn), .val (.int q0), .val (.int q1), .val (.int q2), .val (.int q3), .val (.int q4), .val (.int q5), .val (.ref o_101), .unset, .unset, .unset] [])) _
                refine XS.iconst X115.here hx rfl (hb hby at_136) ?_
                refine XS.goto X115.here hx rfl (pc0 := 137) (pc' := 141) rfl (hb hby at_137) (by decide) (by decide) ?_
                exact k
              · refine ⟨T115, _, X115, e115, N115, fun t k => ?_⟩
                try simp only [if_pos hc105, if_pos hc108, if_pos hc110, if_pos hc112, if_pos hc114, if_neg hc116] at k
                refine S104 t ?_
                show Steps p.tables e below (T103.setTop (mkF m 78 #[.val (.int p0), .val (.int p1), .val (.int p2), .val (.int p3), .val (.int nn), .val (.int q0), .val (.int q1), .val (.int q2), .val (.int q3), .val (.int q4), .val (.int q5), .val (.ref o_101), .unset, .unset, .unset] [(.int (BAD q0 (0 : Int32) nn))])) _
                refine XS.ifNo X103.here hx rfl (hb hby at_78) rfl ((if0 _ _).trans (teq hc105).2) ?_
                show Steps p.tables e below (T103.setTop (mkF m 81 #[.val (.int p0), .val (.int p1), .val (.int p2), .val (.int p3), .val (.int nn), .val (.int q0), .val (.int q1), .val (.int q2), .val (.int q3), .val (.int q4), .val (.int q5), .val (.ref o_101), .unset, .unset, .unset] [])) _
                refine XS.iload X103.here hx rfl (hb hby at_81) rfl ?_
                refine XS.iconst X103.here hx rfl (hb hby at_83) ?_
                refine XS.iload X103.here hx rfl (hb hby at_84) rfl ?_
                show Steps p.tables e below (T103.setTop (mkF m 86 #[.val (.int p0), .val (.int p1), .val (.int p2), .val (.int p3), .val (.int nn), .val (.int q0), .val (.int q1), .val (.int q2), .val (.int q3), .val (.int q4), .val (.int q5), .val (.ref o_101), .unset, .unset, .unset] [(.int nn), (.int (1 : Int32)), (.int q1)])) _
                refine st107 _ ?_
                show Steps p.tables e below (T107.setTop (mkF m 89 #[.val (.int p0), .val (.int p1), .val (.int p2), .val (.int p3), .val (.int nn), .val (.int q0), .val (.int q1), .val (.int q2), .val (.int q3), .val (.int q4), .val (.int q5), .val (.ref o_101), .unset, .unset, .unset] [(.int (BAD q1 (1 : Int32) nn))])) _
                refine XS.ifNo X107.here hx rfl (hb hby at_89) rfl ((if0 _ _).trans (teq hc108).2) ?_
                show Steps p.tables e below (T107.setTop (mkF m 92 #[.val (.int p0), .val (.int p1), .val (.int p2), .val (.int p3), .val (.int nn), .val (.int q0), .val (.int q1), .val (.int q2), .val (.int q3), .val (.int q4), .val (.int q5), .val (.ref o_101), .unset, .unset, .unset] [])) _
                refine XS.iload X107.here hx rfl (hb hby at_92) rfl ?_
                refine XS.iconst X107.here hx rfl (hb hby at_94) ?_
                refine XS.iload X107.here hx rfl (hb hby at_95) rfl ?_
                show Steps p.tables e below (T107.setTop (mkF m 97 #[.val (.int p0), .val (.int p1), .val (.int p2), .val (.int p3), .val (.int nn), .val (.int q0), .val (.int q1), .val (.int q2), .val (.int q3), .val (.int q4), .val (.int q5), .val (.ref o_101), .unset, .unset, .unset] [(.int nn), (.int (2 : Int32)), (.int q2)])) _
                refine st109 _ ?_
                show Steps p.tables e below (T109.setTop (mkF m 100 #[.val (.int p0), .val (.int p1), .val (.int p2), .val (.int p3), .val (.int nn), .val (.int q0), .val (.int q1), .val (.int q2), .val (.int q3), .val (.int q4), .val (.int q5), .val (.ref o_101), .unset, .unset, .unset] [(.int (BAD q2 (2 : Int32) nn))])) _
                refine XS.ifNo X109.here hx rfl (hb hby at_100) rfl ((if0 _ _).trans (teq hc110).2) ?_
                show Steps p.tables e below (T109.setTop (mkF m 103 #[.val (.int p0), .val (.int p1), .val (.int p2), .val (.int p3), .val (.int nn), .val (.int q0), .val (.int q1), .val (.int q2), .val (.int q3), .val (.int q4), .val (.int q5), .val (.ref o_101), .unset, .unset, .unset] [])) _
                refine XS.iload X109.here hx rfl (hb hby at_103) rfl ?_
                refine XS.iconst X109.here hx rfl (hb hby at_105) ?_
                refine XS.iload X109.here hx rfl (hb hby at_106) rfl ?_
                show Steps p.tables e below (T109.setTop (mkF m 108 #[.val (.int p0), .val (.int p1), .val (.int p2), .val (.int p3), .val (.int nn), .val (.int q0), .val (.int q1), .val (.int q2), .val (.int q3), .val (.int q4), .val (.int q5), .val (.ref o_101), .unset, .unset, .unset] [(.int nn), (.int (3 : Int32)), (.int q3)])) _
                refine st111 _ ?_
                show Steps p.tables e below (T111.setTop (mkF m 111 #[.val (.int p0), .val (.int p1), .val (.int p2), .val (.int p3), .val (.int nn), .val (.int q0), .val (.int q1), .val (.int q2), .val (.int q3), .val (.int q4), .val (.int q5), .val (.ref o_101), .unset, .unset, .unset] [(.int (BAD q3 (3 : Int32) nn))])) _
                refine XS.ifNo X111.here hx rfl (hb hby at_111) rfl ((if0 _ _).trans (teq hc112).2) ?_
                show Steps p.tables e below (T111.setTop (mkF m 114 #[.val (.int p0), .val (.int p1), .val (.int p2), .val (.int p3), .val (.int nn), .val (.int q0), .val (.int q1), .val (.int q2), .val (.int q3), .val (.int q4), .val (.int q5), .val (.ref o_101), .unset, .unset, .unset] [])) _
                refine XS.iload X111.here hx rfl (hb hby at_114) rfl ?_
                refine XS.iconst X111.here hx rfl (hb hby at_116) ?_
                refine XS.iload X111.here hx rfl (hb hby at_117) rfl ?_
                show Steps p.tables e below (T111.setTop (mkF m 119 #[.val (.int p0), .val (.int p1), .val (.int p2), .val (.int p3), .val (.int nn), .val (.int q0), .val (.int q1), .val (.int q2), .val (.int q3), .val (.int q4), .val (.int q5), .val (.ref o_101), .unset, .unset, .unset] [(.int nn), (.int (4 : Int32)), (.int q4)])) _
                refine st113 _ ?_
                show Steps p.tables e below (T113.setTop (mkF m 122 #[.val (.int p0), .val (.int p1), .val (.int p2), .val (.int p3), .val (.int nn), .val (.int q0), .val (.int q1), .val (.int q2), .val (.int q3), .val (.int q4), .val (.int q5), .val (.ref o_101), .unset, .unset, .unset] [(.int (BAD q4 (4 : Int32) nn))])) _
                refine XS.ifNo X113.here hx rfl (hb hby at_122) rfl ((if0 _ _).trans (teq hc114).2) ?_
                show Steps p.tables e below (T113.setTop (mkF m 125 #[.val (.int p0), .val (.int p1), .val (.int p2), .val (.int p3), .val (.int nn), .val (.int q0), .val (.int q1), .val (.int q2), .val (.int q3), .val (.int q4), .val (.int q5), .val (.ref o_101), .unset, .unset, .unset] [])) _
                refine XS.iload X113.here hx rfl (hb hby at_125) rfl ?_
                refine XS.iconst X113.here hx rfl (hb hby at_127) ?_
                refine XS.iload X113.here hx rfl (hb hby at_128) rfl ?_
                show Steps p.tables e below (T113.setTop (mkF m 130 #[.val (.int p0), .val (.int p1), .val (.int p2), .val (.int p3), .val (.int nn), .val (.int q0), .val (.int q1), .val (.int q2), .val (.int q3), .val (.int q4), .val (.int q5), .val (.ref o_101), .unset, .unset, .unset] [(.int nn), (.int (5 : Int32)), (.int q5)])) _
                refine st115 _ ?_
                show Steps p.tables e below (T115.setTop (mkF m 133 #[.val (.int p0), .val (.int p1), .val (.int p2), .val (.int p3), .val (.int nn), .val (.int q0), .val (.int q1), .val (.int q2), .val (.int q3), .val (.int q4), .val (.int q5), .val (.ref o_101), .unset, .unset, .unset] [(.int (BAD q5 (5 : Int32) nn))])) _
                refine XS.ifYes X115.here hx rfl (pc0 := 133) (pc' := 140) rfl (hb hby at_133) rfl ((if0 _ _).trans (feq hc116).2) (by decide) (by decide) ?_
                show Steps p.tables e below (T115.setTop (mkF m 140 #[.val (.int p0), .val (.int p1), .val (.int p2), .val (.int p3), .val (.int nn), .val (.int q0), .val (.int q1), .val (.int q2), .val (.int q3), .val (.int q4), .val (.int q5), .val (.ref o_101), .unset, .unset, .unset] [])) _
                refine XS.iconst X115.here hx rfl (hb hby at_140) ?_
                exact k
            · refine ⟨T113, _, X113, e113, N113, fun t k => ?_⟩
              try simp only [if_pos hc105, if_pos hc108, if_pos hc110, if_pos hc112, if_neg hc114] at k
              refine S104 t ?_
              show Steps p.tables e below (T103.setTop (mkF m 78 #[.val (.int p0), .val (.int p1), .val (.int p2), .val (.int p3), .val (.int nn), .val (.int q0), .val (.int q1), .val (.int q2), .val (.int q3), .val (.int q4), .val (.int q5), .val (.ref o_101), .unset, .unset, .unset] [(.int (BAD q0 (0 : Int32) nn))])) _
              refine XS.ifNo X103.here hx rfl (hb hby at_78) rfl ((if0 _ _).trans (teq hc105).2) ?_
              show Steps p.tables e below (T103.setTop (mkF m 81 #[.val (.int p0), .val (.int p1), .val (.int p2), .val (.int p3), .val (.int nn), .val (.int q0), .val (.int q1), .val (.int q2), .val (.int q3), .val (.int q4), .val (.int q5), .val (.ref o_101), .unset, .unset, .unset] [])) _
              refine XS.iload X103.here hx rfl (hb hby at_81) rfl ?_
              refine XS.iconst X103.here hx rfl (hb hby at_83) ?_
              refine XS.iload X103.here hx rfl (hb hby at_84) rfl ?_
              show Steps p.tables e below (T103.setTop (mkF m 86 #[.val (.int p0), .val (.int p1), .val (.int p2), .val (.int p3), .val (.int nn), .val (.int q0), .val (.int q1), .val (.int q2), .val (.int q3), .val (.int q4), .val (.int q5), .val (.ref o_101), .unset, .unset, .unset] [(.int nn), (.int (1 : Int32)), (.int q1)])) _
              refine st107 _ ?_
              show Steps p.tables e below (T107.setTop (mkF m 89 #[.val (.int p0), .val (.int p1), .val (.int p2), .val (.int p3), .val (.int nn), .val (.int q0), .val (.int q1), .val (.int q2), .val (.int q3), .val (.int q4), .val (.int q5), .val (.ref o_101), .unset, .unset, .unset] [(.int (BAD q1 (1 : Int32) nn))])) _
              refine XS.ifNo X107.here hx rfl (hb hby at_89) rfl ((if0 _ _).trans (teq hc108).2) ?_
              show Steps p.tables e below (T107.setTop (mkF m 92 #[.val (.int p0), .val (.int p1), .val (.int p2), .val (.int p3), .val (.int nn), .val (.int q0), .val (.int q1), .val (.int q2), .val (.int q3), .val (.int q4), .val (.int q5), .val (.ref o_101), .unset, .unset, .unset] [])) _
              refine XS.iload X107.here hx rfl (hb hby at_92) rfl ?_
              refine XS.iconst X107.here hx rfl (hb hby at_94) ?_
              refine XS.iload X107.here hx rfl (hb hby at_95) rfl ?_
              show Steps p.tables e below (T107.setTop (mkF m 97 #[.val (.int p0), .val (.int p1), .val (.int p2), .val (.int p3), .val (.int nn), .val (.int q0), .val (.int q1), .val (.int q2), .val (.int q3), .val (.int q4), .val (.int q5), .val (.ref o_101), .unset, .unset, .unset] [(.int nn), (.int (2 : Int32)), (.int q2)])) _
              refine st109 _ ?_
              show Steps p.tables e below (T109.setTop (mkF m 100 #[.val (.int p0), .val (.int p1), .val (.int p2), .val (.int p3), .val (.int nn), .val (.int q0), .val (.int q1), .val (.int q2), .val (.int q3), .val (.int q4), .val (.int q5), .val (.ref o_101), .unset, .unset, .unset] [(.int (BAD q2 (2 : Int32) nn))])) _
              refine XS.ifNo X109.here hx rfl (hb hby at_100) rfl ((if0 _ _).trans (teq hc110).2) ?_
              show Steps p.tables e below (T109.setTop (mkF m 103 #[.val (.int p0), .val (.int p1), .val (.int p2), .val (.int p3), .val (.int nn), .val (.int q0), .val (.int q1), .val (.int q2), .val (.int q3), .val (.int q4), .val (.int q5), .val (.ref o_101), .unset, .unset, .unset] [])) _
              refine XS.iload X109.here hx rfl (hb hby at_103) rfl ?_
              refine XS.iconst X109.here hx rfl (hb hby at_105) ?_
              refine XS.iload X109.here hx rfl (hb hby at_106) rfl ?_
              show Steps p.tables e below (T109.setTop (mkF m 108 #[.val (.int p0), .val (.int p1), .val (.int p2), .val (.int p3), .val (.int nn), .val (.int q0), .val (.int q1), .val (.int q2), .val (.int q3), .val (.int q4), .val (.int q5), .val (.ref o_101), .unset, .unset, .unset] [(.int nn), (.int (3 : Int32)), (.int q3)])) _
              refine st111 _ ?_
              show Steps p.tables e below (T111.setTop (mkF m 111 #[.val (.int p0), .val (.int p1), .val (.int p2), .val (.int p3), .val (.int nn), .val (.int q0), .val (.int q1), .val (.int q2), .val (.int q3), .val (.int q4), .val (.int q5), .val (.ref o_101), .unset, .unset, .unset] [(.int (BAD q3 (3 : Int32) nn))])) _
              refine XS.ifNo X111.here hx rfl (hb hby at_111) rfl ((if0 _ _).trans (teq hc112).2) ?_
              show Steps p.tables e below (T111.setTop (mkF m 114 #[.val (.int p0), .val (.int p1), .val (.int p2), .val (.int p3), .val (.int nn), .val (.int q0), .val (.int q1), .val (.int q2), .val (.int q3), .val (.int q4), .val (.int q5), .val (.ref o_101), .unset, .unset, .unset] [])) _
              refine XS.iload X111.here hx rfl (hb hby at_114) rfl ?_
              refine XS.iconst X111.here hx rfl (hb hby at_116) ?_
              refine XS.iload X111.here hx rfl (hb hby at_117) rfl ?_
              show Steps p.tables e below (T111.setTop (mkF m 119 #[.val (.int p0), .val (.int p1), .val (.int p2), .val (.int p3), .val (.int nn), .val (.int q0), .val (.int q1), .val (.int q2), .val (.int q3), .val (.int q4), .val (.int q5), .val (.ref o_101), .unset, .unset, .unset] [(.int nn), (.int (4 : Int32)), (.int q4)])) _
              refine st113 _ ?_
              show Steps p.tables e below (T113.setTop (mkF m 122 #[.val (.int p0), .val (.int p1), .val (.int p2), .val (.int p3), .val (.int nn), .val (.int q0), .val (.int q1), .val (.int q2), .val (.int q3), .val (.int q4), .val (.int q5), .val (.ref o_101), .unset, .unset, .unset] [(.int (BAD q4 (4 : Int32) nn))])) _
              refine XS.ifYes X113.here hx rfl (pc0 := 122) (pc' := 140) rfl (hb hby at_122) rfl ((if0 _ _).trans (feq hc114).2) (by decide) (by decide) ?_
              show Steps p.tables e below (T113.setTop (mkF m 140 #[.val (.int p0), .val (.int p1), .val (.int p2), .val (.int p3), .val (.int nn), .val (.int q0), .val (.int q1), .val (.int q2), .val (.int q3), .val (.int q4), .val (.int q5), .val (.ref o_101), .unset, .unset, .unset] [])) _
              refine XS.iconst X113.here hx rfl (hb hby at_140) ?_
              exact k
          · refine ⟨T111, _, X111, e111, N111, fun t k => ?_⟩
            try simp only [if_pos hc105, if_pos hc108, if_pos hc110, if_neg hc112] at k
            refine S104 t ?_
            show Steps p.tables e below (T103.setTop (mkF m 78 #[.val (.int p0), .val (.int p1), .val (.int p2), .val (.int p3), .val (.int nn), .val (.int q0), .val (.int q1), .val (.int q2), .val (.int q3), .val (.int q4), .val (.int q5), .val (.ref o_101), .unset, .unset, .unset] [(.int (BAD q0 (0 : Int32) nn))])) _
            refine XS.ifNo X103.here hx rfl (hb hby at_78) rfl ((if0 _ _).trans (teq hc105).2) ?_
            show Steps p.tables e below (T103.setTop (mkF m 81 #[.val (.int p0), .val (.int p1), .val (.int p2), .val (.int p3), .val (.int nn), .val (.int q0), .val (.int q1), .val (.int q2), .val (.int q3), .val (.int q4), .val (.int q5), .val (.ref o_101), .unset, .unset, .unset] [])) _
            refine XS.iload X103.here hx rfl (hb hby at_81) rfl ?_
            refine XS.iconst X103.here hx rfl (hb hby at_83) ?_
            refine XS.iload X103.here hx rfl (hb hby at_84) rfl ?_
            show Steps p.tables e below (T103.setTop (mkF m 86 #[.val (.int p0), .val (.int p1), .val (.int p2), .val (.int p3), .val (.int nn), .val (.int q0), .val (.int q1), .val (.int q2), .val (.int q3), .val (.int q4), .val (.int q5), .val (.ref o_101), .unset, .unset, .unset] [(.int nn), (.int (1 : Int32)), (.int q1)])) _
            refine st107 _ ?_
            show Steps p.tables e below (T107.setTop (mkF m 89 #[.val (.int p0), .val (.int p1), .val (.int p2), .val (.int p3), .val (.int nn), .val (.int q0), .val (.int q1), .val (.int q2), .val (.int q3), .val (.int q4), .val (.int q5), .val (.ref o_101), .unset, .unset, .unset] [(.int (BAD q1 (1 : Int32) nn))])) _
            refine XS.ifNo X107.here hx rfl (hb hby at_89) rfl ((if0 _ _).trans (teq hc108).2) ?_
            show Steps p.tables e below (T107.setTop (mkF m 92 #[.val (.int p0), .val (.int p1), .val (.int p2), .val (.int p3), .val (.int nn), .val (.int q0), .val (.int q1), .val (.int q2), .val (.int q3), .val (.int q4), .val (.int q5), .val (.ref o_101), .unset, .unset, .unset] [])) _
            refine XS.iload X107.here hx rfl (hb hby at_92) rfl ?_
            refine XS.iconst X107.here hx rfl (hb hby at_94) ?_
            refine XS.iload X107.here hx rfl (hb hby at_95) rfl ?_
            show Steps p.tables e below (T107.setTop (mkF m 97 #[.val (.int p0), .val (.int p1), .val (.int p2), .val (.int p3), .val (.int nn), .val (.int q0), .val (.int q1), .val (.int q2), .val (.int q3), .val (.int q4), .val (.int q5), .val (.ref o_101), .unset, .unset, .unset] [(.int nn), (.int (2 : Int32)), (.int q2)])) _
            refine st109 _ ?_
            show Steps p.tables e below (T109.setTop (mkF m 100 #[.val (.int p0), .val (.int p1), .val (.int p2), .val (.int p3), .val (.int nn), .val (.int q0), .val (.int q1), .val (.int q2), .val (.int q3), .val (.int q4), .val (.int q5), .val (.ref o_101), .unset, .unset, .unset] [(.int (BAD q2 (2 : Int32) nn))])) _
            refine XS.ifNo X109.here hx rfl (hb hby at_100) rfl ((if0 _ _).trans (teq hc110).2) ?_
            show Steps p.tables e below (T109.setTop (mkF m 103 #[.val (.int p0), .val (.int p1), .val (.int p2), .val (.int p3), .val (.int nn), .val (.int q0), .val (.int q1), .val (.int q2), .val (.int q3), .val (.int q4), .val (.int q5), .val (.ref o_101), .unset, .unset, .unset] [])) _
            refine XS.iload X109.here hx rfl (hb hby at_103) rfl ?_
            refine XS.iconst X109.here hx rfl (hb hby at_105) ?_
            refine XS.iload X109.here hx rfl (hb hby at_106) rfl ?_
            show Steps p.tables e below (T109.setTop (mkF m 108 #[.val (.int p0), .val (.int p1), .val (.int p2), .val (.int p3), .val (.int nn), .val (.int q0), .val (.int q1), .val (.int q2), .val (.int q3), .val (.int q4), .val (.int q5), .val (.ref o_101), .unset, .unset, .unset] [(.int nn), (.int (3 : Int32)), (.int q3)])) _
            refine st111 _ ?_
            show Steps p.tables e below (T111.setTop (mkF m 111 #[.val (.int p0), .val (.int p1), .val (.int p2), .val (.int p3), .val (.int nn), .val (.int q0), .val (.int q1), .val (.int q2), .val (.int q3), .val (.int q4), .val (.int q5), .val (.ref o_101), .unset, .unset, .unset] [(.int (BAD q3 (3 : Int32) nn))])) _
            refine XS.ifYes X111.here hx rfl (pc0 := 111) (pc' := 140) rfl (hb hby at_111) rfl ((if0 _ _).trans (feq hc112).2) (by decide) (by decide) ?_
            show Steps p.tables e below (T111.setTop (mkF m 140 #[.val (.int p0), .val (.int p1), .val (.int p2), .val (.int p3), .val (.int nn), .val (.int q0), .val (.int q1), .val (.int q2), .val (.int q3), .val (.int q4), .val (.int q5), .val (.ref o_101), .unset, .unset, .unset] [])) _
            refine XS.iconst X111.here hx rfl (hb hby at_140) ?_
            exact k
        · refine ⟨T109, _, X109, e109, N109, fun t k => ?_⟩
          try simp only [if_pos hc105, if_pos hc108, if_neg hc110] at k
          refine S104 t ?_
          show Steps p.tables e below (T103.setTop (mkF m 78 #[.val (.int p0), .val (.int p1), .val (.int p2), .val (.int p3), .val (.int nn), .val (.int q0), .val (.int q1), .val (.int q2), .val (.int q3), .val (.int q4), .val (.int q5), .val (.ref o_101), .unset, .unset, .unset] [(.int (BAD q0 (0 : Int32) nn))])) _
          refine XS.ifNo X103.here hx rfl (hb hby at_78) rfl ((if0 _ _).trans (teq hc105).2) ?_
          show Steps p.tables e below (T103.setTop (mkF m 81 #[.val (.int p0), .val (.int p1), .val (.int p2), .val (.int p3), .val (.int nn), .val (.int q0), .val (.int q1), .val (.int q2), .val (.int q3), .val (.int q4), .val (.int q5), .val (.ref o_101), .unset, .unset, .unset] [])) _
          refine XS.iload X103.here hx rfl (hb hby at_81) rfl ?_
          refine XS.iconst X103.here hx rfl (hb hby at_83) ?_
          refine XS.iload X103.here hx rfl (hb hby at_84) rfl ?_
          show Steps p.tables e below (T103.setTop (mkF m 86 #[.val (.int p0), .val (.int p1), .val (.int p2), .val (.int p3), .val (.int nn), .val (.int q0), .val (.int q1), .val (.int q2), .val (.int q3), .val (.int q4), .val (.int q5), .val (.ref o_101), .unset, .unset, .unset] [(.int nn), (.int (1 : Int32)), (.int q1)])) _
          refine st107 _ ?_
          show Steps p.tables e below (T107.setTop (mkF m 89 #[.val (.int p0), .val (.int p1), .val (.int p2), .val (.int p3), .val (.int nn), .val (.int q0), .val (.int q1), .val (.int q2), .val (.int q3), .val (.int q4), .val (.int q5), .val (.ref o_101), .unset, .unset, .unset] [(.int (BAD q1 (1 : Int32) nn))])) _
          refine XS.ifNo X107.here hx rfl (hb hby at_89) rfl ((if0 _ _).trans (teq hc108).2) ?_
          show Steps p.tables e below (T107.setTop (mkF m 92 #[.val (.int p0), .val (.int p1), .val (.int p2), .val (.int p3), .val (.int nn), .val (.int q0), .val (.int q1), .val (.int q2), .val (.int q3), .val (.int q4), .val (.int q5), .val (.ref o_101), .unset, .unset, .unset] [])) _
          refine XS.iload X107.here hx rfl (hb hby at_92) rfl ?_
          refine XS.iconst X107.here hx rfl (hb hby at_94) ?_
          refine XS.iload X107.here hx rfl (hb hby at_95) rfl ?_
          show Steps p.tables e below (T107.setTop (mkF m 97 #[.val (.int p0), .val (.int p1), .val (.int p2), .val (.int p3), .val (.int nn), .val (.int q0), .val (.int q1), .val (.int q2), .val (.int q3), .val (.int q4), .val (.int q5), .val (.ref o_101), .unset, .unset, .unset] [(.int nn), (.int (2 : Int32)), (.int q2)])) _
          refine st109 _ ?_
          show Steps p.tables e below (T109.setTop (mkF m 100 #[.val (.int p0), .val (.int p1), .val (.int p2), .val (.int p3), .val (.int nn), .val (.int q0), .val (.int q1), .val (.int q2), .val (.int q3), .val (.int q4), .val (.int q5), .val (.ref o_101), .unset, .unset, .unset] [(.int (BAD q2 (2 : Int32) nn))])) _
          refine XS.ifYes X109.here hx rfl (pc0 := 100) (pc' := 140) rfl (hb hby at_100) rfl ((if0 _ _).trans (feq hc110).2) (by decide) (by decide) ?_
          show Steps p.tables e below (T109.setTop (mkF m 140 #[.val (.int p0), .val (.int p1), .val (.int p2), .val (.int p3), .val (.int nn), .val (.int q0), .val (.int q1), .val (.int q2), .val (.int q3), .val (.int q4), .val (.int q5), .val (.ref o_101), .unset, .unset, .unset] [])) _
          refine XS.iconst X109.here hx rfl (hb hby at_140) ?_
          exact k
      · refine ⟨T107, _, X107, e107, N107, fun t k => ?_⟩
        try simp only [if_pos hc105, if_neg hc108] at k
        refine S104 t ?_
        show Steps p.tables e below (T103.setTop (mkF m 78 #[.val (.int p0), .val (.int p1), .val (.int p2), .val (.int p3), .val (.int nn), .val (.int q0), .val (.int q1), .val (.int q2), .val (.int q3), .val (.int q4), .val (.int q5), .val (.ref o_101), .unset, .unset, .unset] [(.int (BAD q0 (0 : Int32) nn))])) _
        refine XS.ifNo X103.here hx rfl (hb hby at_78) rfl ((if0 _ _).trans (teq hc105).2) ?_
        show Steps p.tables e below (T103.setTop (mkF m 81 #[.val (.int p0), .val (.int p1), .val (.int p2), .val (.int p3), .val (.int nn), .val (.int q0), .val (.int q1), .val (.int q2), .val (.int q3), .val (.int q4), .val (.int q5), .val (.ref o_101), .unset, .unset, .unset] [])) _
        refine XS.iload X103.here hx rfl (hb hby at_81) rfl ?_
        refine XS.iconst X103.here hx rfl (hb hby at_83) ?_
        refine XS.iload X103.here hx rfl (hb hby at_84) rfl ?_
        show Steps p.tables e below (T103.setTop (mkF m 86 #[.val (.int p0), .val (.int p1), .val (.int p2), .val (.int p3), .val (.int nn), .val (.int q0), .val (.int q1), .val (.int q2), .val (.int q3), .val (.int q4), .val (.int q5), .val (.ref o_101), .unset, .unset, .unset] [(.int nn), (.int (1 : Int32)), (.int q1)])) _
        refine st107 _ ?_
        show Steps p.tables e below (T107.setTop (mkF m 89 #[.val (.int p0), .val (.int p1), .val (.int p2), .val (.int p3), .val (.int nn), .val (.int q0), .val (.int q1), .val (.int q2), .val (.int q3), .val (.int q4), .val (.int q5), .val (.ref o_101), .unset, .unset, .unset] [(.int (BAD q1 (1 : Int32) nn))])) _
        refine XS.ifYes X107.here hx rfl (pc0 := 89) (pc' := 140) rfl (hb hby at_89) rfl ((if0 _ _).trans (feq hc108).2) (by decide) (by decide) ?_
        show Steps p.tables e below (T107.setTop (mkF m 140 #[.val (.int p0), .val (.int p1), .val (.int p2), .val (.int p3), .val (.int nn), .val (.int q0), .val (.int q1), .val (.int q2), .val (.int q3), .val (.int q4), .val (.int q5), .val (.ref o_101), .unset, .unset, .unset] [])) _
        refine XS.iconst X107.here hx rfl (hb hby at_140) ?_
        exact k
    · refine ⟨T103, _, X103, e103, N103, fun t k => ?_⟩
      try simp only [if_neg hc105] at k
      refine S104 t ?_
      show Steps p.tables e below (T103.setTop (mkF m 78 #[.val (.int p0), .val (.int p1), .val (.int p2), .val (.int p3), .val (.int nn), .val (.int q0), .val (.int q1), .val (.int q2), .val (.int q3), .val (.int q4), .val (.int q5), .val (.ref o_101), .unset, .unset, .unset] [(.int (BAD q0 (0 : Int32) nn))])) _
      refine XS.ifYes X103.here hx rfl (pc0 := 78) (pc' := 140) rfl (hb hby at_78) rfl ((if0 _ _).trans (feq hc105).2) (by decide) (by decide) ?_
      show Steps p.tables e below (T103.setTop (mkF m 140 #[.val (.int p0), .val (.int p1), .val (.int p2), .val (.int p3), .val (.int nn), .val (.int q0), .val (.int q1), .val (.int q2), .val (.int q3), .val (.int q4), .val (.int q5), .val (.ref o_101), .unset, .unset, .unset] [])) _
      refine XS.iconst X103.here hx rfl (hb hby at_140) ?_
      exact k
  unfold LocStand at X106
  obtain ⟨_, _, ⟨T117, L117, k117, n117⟩, -, X117, ⟨Lc117, hQ117, l117, y117, z117⟩, st117⟩ := Jvm.LawKit.callS X106 hx (y := (⟨"com/example/vestwright/vestwright/InputTextIsPlainDecimalPinLaw", "dot", "(CII)I"⟩ : MethodName)) hown101 (mvT hZ101 (hwk hw 31 rfl)) (mvT hZ101 (hwk hw 32 rfl)) (mvT hZ101 (hwk hw 4 rfl)) (mvT hZ101 (hwk hw 33 rfl)) (by decide) (backOf (W := 0) (rm6 l Z a0 hw [] q0 (0 : Int32) nn T101.heap n0 O102 ) hZ101 (hwk hw 33 rfl) (hwk hw 4 rfl) (by decide) (by decide)) (g := (mkF m 148 #[.val (.int p0), .val (.int p1), .val (.int p2), .val (.int p3), .val (.int nn), .val (.int q0), .val (.int q1), .val (.int q2), .val (.int q3), .val (.int q4), .val (.int q5), .val (.ref o_101), .val (.int (if (BAD q0 (0 : Int32) nn) = (0 : Int32) then (if (BAD q1 (1 : Int32) nn) = (0 : Int32) then (if (BAD q2 (2 : Int32) nn) = (0 : Int32) then (if (BAD q3 (3 : Int32) nn) = (0 : Int32) then (if (BAD q4 (4 : Int32) nn) = (0 : Int32) then (if (BAD q5 (5 : Int32) nn) = (0 : Int32) then (1 : Int32) else (0 : Int32)) else (0 : Int32)) else (0 : Int32)) else (0 : Int32)) else (0 : Int32)) else (0 : Int32))), .unset, .unset] [(.int nn), (.int (0 : Int32)), (.int q0)])) rfl (by rw [hml]; rfl) (argsL := [(.int q0), (.int (0 : Int32)), (.int nn)]) (rest := []) (lenOf pd_26 rfl) rfl (by show 2 * 0 + _ ≤ _; exact Nat.le_of_eq rfl) (hb hby at_148) (fun _ _ => ⟨rfl, e106, (by decide : 6 + 0 ≤ _), (by decide : 28 + 0 ≤ _)⟩)
  dsimp only [Pt.U, Pt.locs, Pt.cells, Pt.slots] at X117 l117 y117 z117 st117 hQ117
  subst l117 y117 z117
  unfold Q_rm6 at hQ117
  obtain ⟨rfl, N117q, e117⟩ := hQ117
  have N117 := Fr.app N106 N117q
  obtain ⟨_, _, ⟨T118, L118, k118, n118⟩, -, X118, ⟨Lc118, hQ118, l118, y118, z118⟩, st118⟩ := Jvm.LawKit.callS X117 hx (y := (⟨"com/example/vestwright/vestwright/InputTextIsPlainDecimalPinLaw", "dot", "(CII)I"⟩ : MethodName)) hown101 (mvT hZ101 (hwk hw 31 rfl)) (mvT hZ101 (hwk hw 32 rfl)) (mvT hZ101 (hwk hw 4 rfl)) (mvT hZ101 (hwk hw 33 rfl)) (by decide) (backOf (W := 1) (rm6 l Z a0 hw [] q1 (1 : Int32) nn T101.heap n0 O102 ) hZ101 (hwk hw 33 rfl) (hwk hw 4 rfl) (by decide) (by decide)) (g := (mkF m 156 #[.val (.int p0), .val (.int p1), .val (.int p2), .val (.int p3), .val (.int nn), .val (.int q0), .val (.int q1), .val (.int q2), .val (.int q3), .val (.int q4), .val (.int q5), .val (.ref o_101), .val (.int (if (BAD q0 (0 : Int32) nn) = (0 : Int32) then (if (BAD q1 (1 : Int32) nn) = (0 : Int32) then (if (BAD q2 (2 : Int32) nn) = (0 : Int32) then (if (BAD q3 (3 : Int32) nn) = (0 : Int32) then (if (BAD q4 (4 : Int32) nn) = (0 : Int32) then (if (BAD q5 (5 : Int32) nn) = (0 : Int32) then (1 : Int32) else (0 : Int32)) else (0 : Int32)) else (0 : Int32)) else (0 : Int32)) else (0 : Int32)) else (0 : Int32))), .unset, .unset] [(.int nn), (.int (1 : Int32)), (.int q1), (.int (DOT q0 (0 : Int32) nn))])) rfl (by rw [hml]; rfl) (argsL := [(.int q1), (.int (1 : Int32)), (.int nn)]) (rest := [(.int (DOT q0 (0 : Int32) nn))]) (lenOf pd_26 rfl) rfl (by show 2 * 0 + _ ≤ _; exact Nat.le_of_eq rfl) (hb hby at_156) (fun _ _ => ⟨rfl, e117, (by decide : 6 + 0 ≤ _), (by decide : 28 + 0 ≤ _)⟩)
  dsimp only [Pt.U, Pt.locs, Pt.cells, Pt.slots] at X118 l118 y118 z118 st118 hQ118
  subst l118 y118 z118
  unfold Q_rm6 at hQ118
  obtain ⟨rfl, N118q, e118⟩ := hQ118
  have N118 := Fr.app N117 N118q
  obtain ⟨_, _, ⟨T119, L119, k119, n119⟩, -, X119, ⟨Lc119, hQ119, l119, y119, z119⟩, st119⟩ := Jvm.LawKit.callS X118 hx (y := (⟨"com/example/vestwright/vestwright/InputTextIsPlainDecimalPinLaw", "dot", "(CII)I"⟩ : MethodName)) hown101 (mvT hZ101 (hwk hw 31 rfl)) (mvT hZ101 (hwk hw 32 rfl)) (mvT hZ101 (hwk hw 4 rfl)) (mvT hZ101 (hwk hw 33 rfl)) (by decide) (backOf (W := 1) (rm6 l Z a0 hw [] q2 (2 : Int32) nn T101.heap n0 O102 ) hZ101 (hwk hw 33 rfl) (hwk hw 4 rfl) (by decide) (by decide)) (g := (mkF m 165 #[.val (.int p0), .val (.int p1), .val (.int p2), .val (.int p3), .val (.int nn), .val (.int q0), .val (.int q1), .val (.int q2), .val (.int q3), .val (.int q4), .val (.int q5), .val (.ref o_101), .val (.int (if (BAD q0 (0 : Int32) nn) = (0 : Int32) then (if (BAD q1 (1 : Int32) nn) = (0 : Int32) then (if (BAD q2 (2 : Int32) nn) = (0 : Int32) then (if (BAD q3 (3 : Int32) nn) = (0 : Int32) then (if (BAD q4 (4 : Int32) nn) = (0 : Int32) then (if (BAD q5 (5 : Int32) nn) = (0 : Int32) then (1 : Int32) else (0 : Int32)) else (0 : Int32)) else (0 : Int32)) else (0 : Int32)) else (0 : Int32)) else (0 : Int32))), .unset, .unset] [(.int nn), (.int (2 : Int32)), (.int q2), (.int ((DOT q0 (0 : Int32) nn) + (DOT q1 (1 : Int32) nn)))])) rfl (by rw [hml]; rfl) (argsL := [(.int q2), (.int (2 : Int32)), (.int nn)]) (rest := [(.int ((DOT q0 (0 : Int32) nn) + (DOT q1 (1 : Int32) nn)))]) (lenOf pd_26 rfl) rfl (by show 2 * 0 + _ ≤ _; exact Nat.le_of_eq rfl) (hb hby at_165) (fun _ _ => ⟨rfl, e118, (by decide : 6 + 0 ≤ _), (by decide : 28 + 0 ≤ _)⟩)
  dsimp only [Pt.U, Pt.locs, Pt.cells, Pt.slots] at X119 l119 y119 z119 st119 hQ119
  subst l119 y119 z119
  unfold Q_rm6 at hQ119
  obtain ⟨rfl, N119q, e119⟩ := hQ119
  have N119 := Fr.app N118 N119q
  obtain ⟨_, _, ⟨T120, L120, k120, n120⟩, -, X120, ⟨Lc120, hQ120, l120, y120, z120⟩, st120⟩ := Jvm.LawKit.callS X119 hx (y := (⟨"com/example/vestwright/vestwright/InputTextIsPlainDecimalPinLaw", "dot", "(CII)I"⟩ : MethodName)) hown101 (mvT hZ101 (hwk hw 31 rfl)) (mvT hZ101 (hwk hw 32 rfl)) (mvT hZ101 (hwk hw 4 rfl)) (mvT hZ101 (hwk hw 33 rfl)) (by decide) (backOf (W := 1) (rm6 l Z a0 hw [] q3 (3 : Int32) nn T101.heap n0 O102 ) hZ101 (hwk hw 33 rfl) (hwk hw 4 rfl) (by decide) (by decide)) (g := (mkF m 174 #[.val (.int p0), .val (.int p1), .val (.int p2), .val (.int p3), .val (.int nn), .val (.int q0), .val (.int q1), .val (.int q2), .val (.int q3), .val (.int q4), .val (.int q5), .val (.ref o_101), .val (.int (if (BAD q0 (0 : Int32) nn) = (0 : Int32) then (if (BAD q1 (1 : Int32) nn) = (0 : Int32) then (if (BAD q2 (2 : Int32) nn) = (0 : Int32) then (if (BAD q3 (3 : Int32) nn) = (0 : Int32) then (if (BAD q4 (4 : Int32) nn) = (0 : Int32) then (if (BAD q5 (5 : Int32) nn) = (0 : Int32) then (1 : Int32) else (0 : Int32)) else (0 : Int32)) else (0 : Int32)) else (0 : Int32)) else (0 : Int32)) else (0 : Int32))), .unset, .unset] [(.int nn), (.int (3 : Int32)), (.int q3), (.int (((DOT q0 (0 : Int32) nn) + (DOT q1 (1 : Int32) nn)) + (DOT q2 (2 : Int32) nn)))])) rfl (by rw [hml]; rfl) (argsL := [(.int q3), (.int (3 : Int32)), (.int nn)]) (rest := [(.int (((DOT q0 (0 : Int32) nn) + (DOT q1 (1 : Int32) nn)) + (DOT q2 (2 : Int32) nn)))]) (lenOf pd_26 rfl) rfl (by show 2 * 0 + _ ≤ _; exact Nat.le_of_eq rfl) (hb hby at_174) (fun _ _ => ⟨rfl, e119, (by decide : 6 + 0 ≤ _), (by decide : 28 + 0 ≤ _)⟩)
  dsimp only [Pt.U, Pt.locs, Pt.cells, Pt.slots] at X120 l120 y120 z120 st120 hQ120
  subst l120 y120 z120
  unfold Q_rm6 at hQ120
  obtain ⟨rfl, N120q, e120⟩ := hQ120
  have N120 := Fr.app N119 N120q
  obtain ⟨_, _, ⟨T121, L121, k121, n121⟩, -, X121, ⟨Lc121, hQ121, l121, y121, z121⟩, st121⟩ := Jvm.LawKit.callS X120 hx (y := (⟨"com/example/vestwright/vestwright/InputTextIsPlainDecimalPinLaw", "dot", "(CII)I"⟩ : MethodName)) hown101 (mvT hZ101 (hwk hw 31 rfl)) (mvT hZ101 (hwk hw 32 rfl)) (mvT hZ101 (hwk hw 4 rfl)) (mvT hZ101 (hwk hw 33 rfl)) (by decide) (backOf (W := 1) (rm6 l Z a0 hw [] q4 (4 : Int32) nn T101.heap n0 O102 ) hZ101 (hwk hw 33 rfl) (hwk hw 4 rfl) (by decide) (by decide)) (g := (mkF m 183 #[.val (.int p0), .val (.int p1), .val (.int p2), .val (.int p3), .val (.int nn), .val (.int q0), .val (.int q1), .val (.int q2), .val (.int q3), .val (.int q4), .val (.int q5), .val (.ref o_101), .val (.int (if (BAD q0 (0 : Int32) nn) = (0 : Int32) then (if (BAD q1 (1 : Int32) nn) = (0 : Int32) then (if (BAD q2 (2 : Int32) nn) = (0 : Int32) then (if (BAD q3 (3 : Int32) nn) = (0 : Int32) then (if (BAD q4 (4 : Int32) nn) = (0 : Int32) then (if (BAD q5 (5 : Int32) nn) = (0 : Int32) then (1 : Int32) else (0 : Int32)) else (0 : Int32)) else (0 : Int32)) else (0 : Int32)) else (0 : Int32)) else (0 : Int32))), .unset, .unset] [(.int nn), (.int (4 : Int32)), (.int q4), (.int ((((DOT q0 (0 : Int32) nn) + (DOT q1 (1 : Int32) nn)) + (DOT q2 (2 : Int32) nn)) + (DOT q3 (3 : Int32) nn)))])) rfl (by rw [hml]; rfl) (argsL := [(.int q4), (.int (4 : Int32)), (.int nn)]) (rest := [(.int ((((DOT q0 (0 : Int32) nn) + (DOT q1 (1 : Int32) nn)) + (DOT q2 (2 : Int32) nn)) + (DOT q3 (3 : Int32) nn)))]) (lenOf pd_26 rfl) rfl (by show 2 * 0 + _ ≤ _; exact Nat.le_of_eq rfl) (hb hby at_183) (fun _ _ => ⟨rfl, e120, (by decide : 6 + 0 ≤ _), (by decide : 28 + 0 ≤ _)⟩)
  dsimp only [Pt.U, Pt.locs, Pt.cells, Pt.slots] at X121 l121 y121 z121 st121 hQ121
  subst l121 y121 z121
  unfold Q_rm6 at hQ121
  obtain ⟨rfl, N121q, e121⟩ := hQ121
  have N121 := Fr.app N120 N121q
  obtain ⟨_, _, ⟨T122, L122, k122, n122⟩, -, X122, ⟨Lc122, hQ122, l122, y122, z122⟩, st122⟩ := Jvm.LawKit.callS X121 hx (y := (⟨"com/example/vestwright/vestwright/InputTextIsPlainDecimalPinLaw", "dot", "(CII)I"⟩ : MethodName)) hown101 (mvT hZ101 (hwk hw 31 rfl)) (mvT hZ101 (hwk hw 32 rfl)) (mvT hZ101 (hwk hw 4 rfl)) (mvT hZ101 (hwk hw 33 rfl)) (by decide) (backOf (W := 1) (rm6 l Z a0 hw [] q5 (5 : Int32) nn T101.heap n0 O102 ) hZ101 (hwk hw 33 rfl) (hwk hw 4 rfl) (by decide) (by decide)) (g := (mkF m 192 #[.val (.int p0), .val (.int p1), .val (.int p2), .val (.int p3), .val (.int nn), .val (.int q0), .val (.int q1), .val (.int q2), .val (.int q3), .val (.int q4), .val (.int q5), .val (.ref o_101), .val (.int (if (BAD q0 (0 : Int32) nn) = (0 : Int32) then (if (BAD q1 (1 : Int32) nn) = (0 : Int32) then (if (BAD q2 (2 : Int32) nn) = (0 : Int32) then (if (BAD q3 (3 : Int32) nn) = (0 : Int32) then (if (BAD q4 (4 : Int32) nn) = (0 : Int32) then (if (BAD q5 (5 : Int32) nn) = (0 : Int32) then (1 : Int32) else (0 : Int32)) else (0 : Int32)) else (0 : Int32)) else (0 : Int32)) else (0 : Int32)) else (0 : Int32))), .unset, .unset] [(.int nn), (.int (5 : Int32)), (.int q5), (.int (((((DOT q0 (0 : Int32) nn) + (DOT q1 (1 : Int32) nn)) + (DOT q2 (2 : Int32) nn)) + (DOT q3 (3 : Int32) nn)) + (DOT q4 (4 : Int32) nn)))])) rfl (by rw [hml]; rfl) (argsL := [(.int q5), (.int (5 : Int32)), (.int nn)]) (rest := [(.int (((((DOT q0 (0 : Int32) nn) + (DOT q1 (1 : Int32) nn)) + (DOT q2 (2 : Int32) nn)) + (DOT q3 (3 : Int32) nn)) + (DOT q4 (4 : Int32) nn)))]) (lenOf pd_26 rfl) rfl (by show 2 * 0 + _ ≤ _; exact Nat.le_of_eq rfl) (hb hby at_192) (fun _ _ => ⟨rfl, e121, (by decide : 6 + 0 ≤ _), (by decide : 28 + 0 ≤ _)⟩)
  dsimp only [Pt.U, Pt.locs, Pt.cells, Pt.slots] at X122 l122 y122 z122 st122 hQ122
  subst l122 y122 z122
  unfold Q_rm6 at hQ122
  obtain ⟨rfl, N122q, e122⟩ := hQ122
  have N122 := Fr.app N121 N122q
  have S123 : ∀ t, Steps p.tables e below (T122.setTop (mkF m 201 #[.val (.int p0), .val (.int p1), .val (.int p2), .val (.int p3), .val (.int nn), .val (.int q0), .val (.int q1), .val (.int q2), .val (.int q3), .val (.int q4), .val (.int q5), .val (.ref o_101), .val (.int (if (BAD q0 (0 : Int32) nn) = (0 : Int32) then (if (BAD q1 (1 : Int32) nn) = (0 : Int32) then (if (BAD q2 (2 : Int32) nn) = (0 : Int32) then (if (BAD q3 (3 : Int32) nn) = (0 : Int32) then (if (BAD q4 (4 : Int32) nn) = (0 : Int32) then (if (BAD q5 (5 : Int32) nn) = (0 : Int32) then (1 : Int32) else (0 : Int32)) else (0 : Int32)) else (0 : Int32)) else (0 : Int32)) else (0 : Int32)) else (0 : Int32))), .val (.int ((((((DOT q0 (0 : Int32) nn) + (DOT q1 (1 : Int32) nn)) + (DOT q2 (2 : Int32) nn)) + (DOT q3 (3 : Int32) nn)) + (DOT q4 (4 : Int32) nn)) + (DOT q5 (5 : Int32) nn))), .unset] [(.int (1 : Int32)), (.int nn)])) t → Steps p.tables e below (s₁.setTop (entryFrame m #[(.int p0), (.int p1), (.int p2), (.int p3)] maxLocals)) t := fun t k => by
    refine S106 t ?_
    show Steps p.tables e below (T106.setTop (mkF m 141 #[.val (.int p0), .val (.int p1), .val (.int p2), .val (.int p3), .val (.int nn), .val (.int q0), .val (.int q1), .val (.int q2), .val (.int q3), .val (.int q4), .val (.int q5), .val (.ref o_101), .unset, .unset, .unset] [(.int (if (BAD q0 (0 : Int32) nn) = (0 : Int32) then (if (BAD q1 (1 : Int32) nn) = (0 : Int32) then (if (BAD q2 (2 : Int32) nn) = (0 : Int32) then (if (BAD q3 (3 : Int32) nn) = (0 : Int32) then (if (BAD q4 (4 : Int32) nn) = (0 : Int32) then (if (BAD q5 (5 : Int32) nn) = (0 : Int32) then (1 : Int32) else (0 : Int32)) else (0 : Int32)) else (0 : Int32)) else (0 : Int32)) else (0 : Int32)) else (0 : Int32)))])) _
    refine XS.istore X106.here hx rfl (hb hby at_141) rfl (l' := #[.val (.int p0), .val (.int p1), .val (.int p2), .val (.int p3), .val (.int nn), .val (.int q0), .val (.int q1), .val (.int q2), .val (.int q3), .val (.int q4), .val (.int q5), .val (.ref o_101), .val (.int (if (BAD q0 (0 : Int32) nn) = (0 : Int32) then (if (BAD q1 (1 : Int32) nn) = (0 : Int32) then (if (BAD q2 (2 : Int32) nn) = (0 : Int32) then (if (BAD q3 (3 : Int32) nn) = (0 : Int32) then (if (BAD q4 (4 : Int32) nn) = (0 : Int32) then (if (BAD q5 (5 : Int32) nn) = (0 : Int32) then (1 : Int32) else (0 : Int32)) else (0 : Int32)) else (0 : Int32)) else (0 : Int32)) else (0 : Int32)) else (0 : Int32))), .unset, .unset]) rfl ?_
    show Steps p.tables e below (T106.setTop (mkF m 143 #[.val (.int p0), .val (.int p1), .val (.int p2), .val (.int p3), .val (.int nn), .val (.int q0), .val (.int q1), .val (.int q2), .val (.int q3), .val (.int q4), .val (.int q5), .val (.ref o_101), .val (.int (if (BAD q0 (0 : Int32) nn) = (0 : Int32) then (if (BAD q1 (1 : Int32) nn) = (0 : Int32) then (if (BAD q2 (2 : Int32) nn) = (0 : Int32) then (if (BAD q3 (3 : Int32) nn) = (0 : Int32) then (if (BAD q4 (4 : Int32) nn) = (0 : Int32) then (if (BAD q5 (5 : Int32) nn) = (0 : Int32) then (1 : Int32) else (0 : Int32)) else (0 : Int32)) else (0 : Int32)) else (0 : Int32)) else (0 : Int32)) else (0 : Int32))), .unset, .unset] [])) _
    refine XS.iload X106.here hx rfl (hb hby at_143) rfl ?_
    refine XS.iconst X106.here hx rfl (hb hby at_145) ?_
    refine XS.iload X106.here hx rfl (hb hby at_146) rfl ?_
    show Steps p.tables e below (T106.setTop (mkF m 148 #[.val (.int p0), .val (.int p1), .val (.int p2), .val (.int p3), .val (.int nn), .val (.int q0), .val (.int q1), .val (.int q2), .val (.int q3), .val (.int q4), .val (.int q5), .val (.ref o_101), .val (.int (if (BAD q0 (0 : Int32) nn) = (0 : Int32) then (if (BAD q1 (1 : Int32) nn) = (0 : Int32) then (if (BAD q2 (2 : Int32) nn) = (0 : Int32) then (if (BAD q3 (3 : Int32) nn) = (0 : Int32) then (if (BAD q4 (4 : Int32) nn) = (0 : Int32) then (if (BAD q5 (5 : Int32) nn) = (0 : Int32) then (1 : Int32) else (0 : Int32)) else (0 : Int32)) else (0 : Int32)) else (0 : Int32)) else (0 : Int32)) else (0 : Int32))), .unset, .unset] [(.int nn), (.int (0 : Int32)), (.int q0)])) _
    refine st117 _ ?_
    show Steps p.tables e below (T117.setTop (mkF m 151 #[.val (.int p0), .val (.int p1), .val (.int p2), .val (.int p3), .val (.int nn), .val (.int q0), .val (.int q1), .val (.int q2), .val (.int q3), .val (.int q4), .val (.int q5), .val (.ref o_101), .val (.int (if (BAD q0 (0 : Int32) nn) = (0 : Int32) then (if (BAD q1 (1 : Int32) nn) = (0 : Int32) then (if (BAD q2 (2 : Int32) nn) = (0 : Int32) then (if (BAD q3 (3 : Int32) nn) = (0 : Int32) then (if (BAD q4 (4 : Int32) nn) = (0 : Int32) then (if (BAD q5 (5 : Int32) nn) = (0 : Int32) then (1 : Int32) else (0 : Int32)) else (0 : Int32)) else (0 : Int32)) else (0 : Int32)) else (0 : Int32)) else (0 : Int32))), .unset, .unset] [(.int (DOT q0 (0 : Int32) nn))])) _
    refine XS.iload X117.here hx rfl (hb hby at_151) rfl ?_
    refine XS.iconst X117.here hx rfl (hb hby at_153) ?_
    refine XS.iload X117.here hx rfl (hb hby at_154) rfl ?_
    show Steps p.tables e below (T117.setTop (mkF m 156 #[.val (.int p0), .val (.int p1), .val (.int p2), .val (.int p3), .val (.int nn), .val (.int q0), .val (.int q1), .val (.int q2), .val (.int q3), .val (.int q4), .val (.int q5), .val (.ref o_101), .val (.int (if (BAD q0 (0 : Int32) nn) = (0 : Int32) then (if (BAD q1 (1 : Int32) nn) = (0 : Int32) then (if (BAD q2 (2 : Int32) nn) = (0 : Int32) then (if (BAD q3 (3 : Int32) nn) = (0 : Int32) then (if (BAD q4 (4 : Int32) nn) = (0 : Int32) then (if (BAD q5 (5 : Int32) nn) = (0 : Int32) then (1 : Int32) else (0 : Int32)) else (0 : Int32)) else (0 : Int32)) else (0 : Int32)) else (0 : Int32)) else (0 : Int32))), .unset, .unset] [(.int nn), (.int (1 : Int32)), (.int q1), (.int (DOT q0 (0 : Int32) nn))])) _
    refine st118 _ ?_
    show Steps p.tables e below (T118.setTop (mkF m 159 #[.val (.int p0), .val (.int p1), .val (.int p2), .val (.int p3), .val (.int nn), .val (.int q0), .val (.int q1), .val (.int q2), .val (.int q3), .val (.int q4), .val (.int q5), .val (.ref o_101), .val (.int (if (BAD q0 (0 : Int32) nn) = (0 : Int32) then (if (BAD q1 (1 : Int32) nn) = (0 : Int32) then (if (BAD q2 (2 : Int32) nn) = (0 : Int32) then (if (BAD q3 (3 : Int32) nn) = (0 : Int32) then (if (BAD q4 (4 : Int32) nn) = (0 : Int32) then (if (BAD q5 (5 : Int32) nn) = (0 : Int32) then (1 : Int32) else (0 : Int32)) else (0 : Int32)) else (0 : Int32)) else (0 : Int32)) else (0 : Int32)) else (0 : Int32))), .unset, .unset] [(.int (DOT q1 (1 : Int32) nn)), (.int (DOT q0 (0 : Int32) nn))])) _
    refine XS.iadd X118.here hx rfl (hb hby at_159) rfl ?_
    show Steps p.tables e below (T118.setTop (mkF m 160 #[.val (.int p0), .val (.int p1), .val (.int p2), .val (.int p3), .val (.int nn), .val (.int q0), .val (.int q1), .val (.int q2), .val (.int q3), .val (.int q4), .val (.int q5), .val (.ref o_101), .val (.int (if (BAD q0 (0 : Int32) nn) = (0 : Int32) then (if (BAD q1 (1 : Int32) nn) = (0 : Int32) then (if (BAD q2 (2 : Int32) nn) = (0 : Int32) then (if (BAD q3 (3 : Int32) nn) = (0 : Int32) then (if (BAD q4 (4 : Int32) nn) = (0 : Int32) then (if (BAD q5 (5 : Int32) nn) = (0 : Int32) then (1 : Int32) else (0 : Int32)) else (0 : Int32)) else (0 : Int32)) else (0 : Int32)) else (0 : Int32)) else (0 : Int32))), .unset, .unset] [(.int ((DOT q0 (0 : Int32) nn) + (DOT q1 (1 : Int32) nn)))])) _
    refine XS.iload X118.here hx rfl (hb hby at_160) rfl ?_
    refine XS.iconst X118.here hx rfl (hb hby at_162) ?_
    refine XS.iload X118.here hx rfl (hb hby at_163) rfl ?_
    show Steps p.tables e below (T118.setTop (mkF m 165 #[.val (.int p0), .val (.int p1), .val (.int p2), .val (.int p3), .val (.int nn), .val (.int q0), .val (.int q1), .val (.int q2), .val (.int q3), .val (.int q4), .val (.int q5), .val (.ref o_101), .val (.int (if (BAD q0 (0 : Int32) nn) = (0 : Int32) then (if (BAD q1 (1 : Int32) nn) = (0 : Int32) then (if (BAD q2 (2 : Int32) nn) = (0 : Int32) then (if (BAD q3 (3 : Int32) nn) = (0 : Int32) then (if (BAD q4 (4 : Int32) nn) = (0 : Int32) then (if (BAD q5 (5 : Int32) nn) = (0 : Int32) then (1 : Int32) else (0 : Int32)) else (0 : Int32)) else (0 : Int32)) else (0 : Int32)) else (0 : Int32)) else (0 : Int32))), .unset, .unset] [(.int nn), (.int (2 : Int32)), (.int q2), (.int ((DOT q0 (0 : Int32) nn) + (DOT q1 (1 : Int32) nn)))])) _
    refine st119 _ ?_
    show Steps p.tables e below (T119.setTop (mkF m 168 #[.val (.int p0), .val (.int p1), .val (.int p2), .val (.int p3), .val (.int nn), .val (.int q0), .val (.int q1), .val (.int q2), .val (.int q3), .val (.int q4), .val (.int q5), .val (.ref o_101), .val (.int (if (BAD q0 (0 : Int32) nn) = (0 : Int32) then (if (BAD q1 (1 : Int32) nn) = (0 : Int32) then (if (BAD q2 (2 : Int32) nn) = (0 : Int32) then (if (BAD q3 (3 : Int32) nn) = (0 : Int32) then (if (BAD q4 (4 : Int32) nn) = (0 : Int32) then (if (BAD q5 (5 : Int32) nn) = (0 : Int32) then (1 : Int32) else (0 : Int32)) else (0 : Int32)) else (0 : Int32)) else (0 : Int32)) else (0 : Int32)) else (0 : Int32))), .unset, .unset] [(.int (DOT q2 (2 : Int32) nn)), (.int ((DOT q0 (0 : Int32) nn) + (DOT q1 (1 : Int32) nn)))])) _
    refine XS.iadd X119.here hx rfl (hb hby at_168) rfl ?_
    show Steps p.tables e below (T119.setTop (mkF m 169 #[.val (.int p0), .val (.int p1), .val (.int p2), .val (.int p3), .val (.int nn), .val (.int q0), .val (.int q1), .val (.int q2), .val (.int q3), .val (.int q4), .val (.int q5), .val (.ref o_101), .val (.int (if (BAD q0 (0 : Int32) nn) = (0 : Int32) then (if (BAD q1 (1 : Int32) nn) = (0 : Int32) then (if (BAD q2 (2 : Int32) nn) = (0 : Int32) then (if (BAD q3 (3 : Int32) nn) = (0 : Int32) then (if (BAD q4 (4 : Int32) nn) = (0 : Int32) then (if (BAD q5 (5 : Int32) nn) = (0 : Int32) then (1 : Int32) else (0 : Int32)) else (0 : Int32)) else (0 : Int32)) else (0 : Int32)) else (0 : Int32)) else (0 : Int32))), .unset, .unset] [(.int (((DOT q0 (0 : Int32) nn) + (DOT q1 (1 : Int32) nn)) + (DOT q2 (2 : Int32) nn)))])) _
    refine XS.iload X119.here hx rfl (hb hby at_169) rfl ?_
    refine XS.iconst X119.here hx rfl (hb hby at_171) ?_
    refine XS.iload X119.here hx rfl (hb hby at_172) rfl ?_
    show Steps p.tables e below (T119.setTop (mkF m 174 #[.val (.int p0), .val (.int p1), .val (.int p2), .val (.int p3), .val (.int nn), .val (.int q0), .val (.int q1), .val (.int q2), .val (.int q3), .val (.int q4), .val (.int q5), .val (.ref o_101), .val (.int (if (BAD q0 (0 : Int32) nn) = (0 : Int32) then (if (BAD q1 (1 : Int32) nn) = (0 : Int32) then (if (BAD q2 (2 : Int32) nn) = (0 : Int32) then (if (BAD q3 (3 : Int32) nn) = (0 : Int32) then (if (BAD q4 (4 : Int32) nn) = (0 : Int32) then (if (BAD q5 (5 : Int32) nn) = (0 : Int32) then (1 : Int32) else (0 : Int32)) else (0 : Int32)) else (0 : Int32)) else (0 : Int32)) else (0 : Int32)) else (0 : Int32))), .unset, .unset] [(.int nn), (.int (3 : Int32)), (.int q3), (.int (((DOT q0 (0 : Int32) nn) + (DOT q1 (1 : Int32) nn)) + (DOT q2 (2 : Int32) nn)))])) _
    refine st120 _ ?_
    show Steps p.tables e below (T120.setTop (mkF m 177 #[.val (.int p0), .val (.int p1), .val (.int p2), .val (.int p3), .val (.int nn), .val (.int q0), .val (.int q1), .val (.int q2), .val (.int q3), .val (.int q4), .val (.int q5), .val (.ref o_101), .val (.int (if (BAD q0 (0 : Int32) nn) = (0 : Int32) then (if (BAD q1 (1 : Int32) nn) = (0 : Int32) then (if (BAD q2 (2 : Int32) nn) = (0 : Int32) then (if (BAD q3 (3 : Int32) nn) = (0 : Int32) then (if (BAD q4 (4 : Int32) nn) = (0 : Int32) then (if (BAD q5 (5 : Int32) nn) = (0 : Int32) then (1 : Int32) else (0 : Int32)) else (0 : Int32)) else (0 : Int32)) else (0 : Int32)) else (0 : Int32)) else (0 : Int32))), .unset, .unset] [(.int (DOT q3 (3 : Int32) nn)), (.int (((DOT q0 (0 : Int32) nn) + (DOT q1 (1 : Int32) nn)) + (DOT q2 (2 : Int32) nn)))])) _
    refine XS.iadd X120.here hx rfl (hb hby at_177) rfl ?_
    show Steps p.tables e below (T120.setTop (mkF m 178 #[.val (.int p0), .val (.int p1), .val (.int p2), .val (.int p3), .val (.int nn), .val (.int q0), .val (.int q1), .val (.int q2), .val (.int q3), .val (.int q4), .val (.int q5), .val (.ref o_101), .val (.int (if (BAD q0 (0 : Int32) nn) = (0 : Int32) then (if (BAD q1 (1 : Int32) nn) = (0 : Int32) then (if (BAD q2 (2 : Int32) nn) = (0 : Int32) then (if (BAD q3 (3 : Int32) nn) = (0 : Int32) then (if (BAD q4 (4 : Int32) nn) = (0 : Int32) then (if (BAD q5 (5 : Int32) nn) = (0 : Int32) then (1 : Int32) else (0 : Int32)) else (0 : Int32)) else (0 : Int32)) else (0 : Int32)) else (0 : Int32)) else (0 : Int32))), .unset, .unset] [(.int ((((DOT q0 (0 : Int32) nn) + (DOT q1 (1 : Int32) nn)) + (DOT q2 (2 : Int32) nn)) + (DOT q3 (3 : Int32) nn)))])) _
    refine XS.iload X120.here hx rfl (hb hby at_178) rfl ?_
    refine XS.iconst X120.here hx rfl (hb hby at_180) ?_
    refine XS.iload X120.here hx rfl (hb hby at_181) rfl ?_
    show Steps p.tables e below (T120.setTop (mkF m 183 #[.val (.int p0), .val (.int p1), .val (.int p2), .val (.int p3), .val (.int nn), .val (.int q0), .val (.int q1), .val (.int q2), .val (.int q3), .val (.int q4), .val (.int q5), .val (.ref o_101), .val (.int (if (BAD q0 (0 : Int32) nn) = (0 : Int32) then (if (BAD q1 (1 : Int32) nn) = (0 : Int32) then (if (BAD q2 (2 : Int32) nn) = (0 : Int32) then (if (BAD q3 (3 : Int32) nn) = (0 : Int32) then (if (BAD q4 (4 : Int32) nn) = (0 : Int32) then (if (BAD q5 (5 : Int32) nn) = (0 : Int32) then (1 : Int32) else (0 : Int32)) else (0 : Int32)) else (0 : Int32)) else (0 : Int32)) else (0 : Int32)) else (0 : Int32))), .unset, .unset] [(.int nn), (.int (4 : Int32)), (.int q4), (.int ((((DOT q0 (0 : Int32) nn) + (DOT q1 (1 : Int32) nn)) + (DOT q2 (2 : Int32) nn)) + (DOT q3 (3 : Int32) nn)))])) _
    refine st121 _ ?_
    show Steps p.tables e below (T121.setTop (mkF m 186 #[.val (.int p0), .val (.int p1), .val (.int p2), .val (.int p3), .val (.int nn), .val (.int q0), .val (.int q1), .val (.int q2), .val (.int q3), .val (.int q4), .val (.int q5), .val (.ref o_101), .val (.int (if (BAD q0 (0 : Int32) nn) = (0 : Int32) then (if (BAD q1 (1 : Int32) nn) = (0 : Int32) then (if (BAD q2 (2 : Int32) nn) = (0 : Int32) then (if (BAD q3 (3 : Int32) nn) = (0 : Int32) then (if (BAD q4 (4 : Int32) nn) = (0 : Int32) then (if (BAD q5 (5 : Int32) nn) = (0 : Int32) then (1 : Int32) else (0 : Int32)) else (0 : Int32)) else (0 : Int32)) else (0 : Int32)) else (0 : Int32)) else (0 : Int32))), .unset, .unset] [(.int (DOT q4 (4 : Int32) nn)), (.int ((((DOT q0 (0 : Int32) nn) + (DOT q1 (1 : Int32) nn)) + (DOT q2 (2 : Int32) nn)) + (DOT q3 (3 : Int32) nn)))])) _
    refine XS.iadd X121.here hx rfl (hb hby at_186) rfl ?_
    show Steps p.tables e below (T121.setTop (mkF m 187 #[.val (.int p0), .val (.int p1), .val (.int p2), .val (.int p3), .val (.int nn), .val (.int q0), .val (.int q1), .val (.int q2), .val (.int q3), .val (.int q4), .val (.int q5), .val (.ref o_101), .val (.int (if (BAD q0 (0 : Int32) nn) = (0 : Int32) then (if (BAD q1 (1 : Int32) nn) = (0 : Int32) then (if (BAD q2 (2 : Int32) nn) = (0 : Int32) then (if (BAD q3 (3 : Int32) nn) = (0 : Int32) then (if (BAD q4 (4 : Int32) nn) = (0 : Int32) then (if (BAD q5 (5 : Int32) nn) = (0 : Int32) then (1 : Int32) else (0 : Int32)) else (0 : Int32)) else (0 : Int32)) else (0 : Int32)) else (0 : Int32)) else (0 : Int32))), .unset, .unset] [(.int (((((DOT q0 (0 : Int32) nn) + (DOT q1 (1 : Int32) nn)) + (DOT q2 (2 : Int32) nn)) + (DOT q3 (3 : Int32) nn)) + (DOT q4 (4 : Int32) nn)))])) _
    refine XS.iload X121.here hx rfl (hb hby at_187) rfl ?_
    refine XS.iconst X121.here hx rfl (hb hby at_189) ?_
    refine XS.iload X121.here hx rfl (hb hby at_190) rfl ?_
    show Steps p.tables e below (T121.setTop (mkF m 192 #[.val (.int p0), .val (.int p1), .val (.int p2), .val (.int p3), .val (.int nn), .val (.int q0), .val (.int q1), .val (.int q2), .val (.int q3), .val (.int q4), .val (.int q5), .val (.ref o_101), .val (.int (if (BAD q0 (0 : Int32) nn) = (0 : Int32) then (if (BAD q1 (1 : Int32) nn) = (0 : Int32) then (if (BAD q2 (2 : Int32) nn) = (0 : Int32) then (if (BAD q3 (3 : Int32) nn) = (0 : Int32) then (if (BAD q4 (4 : Int32) nn) = (0 : Int32) then (if (BAD q5 (5 : Int32) nn) = (0 : Int32) then (1 : Int32) else (0 : Int32)) else (0 : Int32)) else (0 : Int32)) else (0 : Int32)) else (0 : Int32)) else (0 : Int32))), .unset, .unset] [(.int nn), (.int (5 : Int32)), (.int q5), (.int (((((DOT q0 (0 : Int32) nn) + (DOT q1 (1 : Int32) nn)) + (DOT q2 (2 : Int32) nn)) + (DOT q3 (3 : Int32) nn)) + (DOT q4 (4 : Int32) nn)))])) _
    refine st122 _ ?_
    show Steps p.tables e below (T122.setTop (mkF m 195 #[.val (.int p0), .val (.int p1), .val (.int p2), .val (.int p3), .val (.int nn), .val (.int q0), .val (.int q1), .val (.int q2), .val (.int q3), .val (.int q4), .val (.int q5), .val (.ref o_101), .val (.int (if (BAD q0 (0 : Int32) nn) = (0 : Int32) then (if (BAD q1 (1 : Int32) nn) = (0 : Int32) then (if (BAD q2 (2 : Int32) nn) = (0 : Int32) then (if (BAD q3 (3 : Int32) nn) = (0 : Int32) then (if (BAD q4 (4 : Int32) nn) = (0 : Int32) then (if (BAD q5 (5 : Int32) nn) = (0 : Int32) then (1 : Int32) else (0 : Int32)) else (0 : Int32)) else (0 : Int32)) else (0 : Int32)) else (0 : Int32)) else (0 : Int32))), .unset, .unset] [(.int (DOT q5 (5 : Int32) nn)), (.int (((((DOT q0 (0 : Int32) nn) + (DOT q1 (1 : Int32) nn)) + (DOT q2 (2 : Int32) nn)) + (DOT q3 (3 : Int32) nn)) + (DOT q4 (4 : Int32) nn)))])) _
    refine XS.iadd X122.here hx rfl (hb hby at_195) rfl ?_
    show Steps p.tables e below (T122.setTop (mkF m 196 #[.val (.int p0), .val (.int p1), .val (.int p2), .val (.int p3), .val (.int nn), .val (.int q0), .val (.int q1), .val (.int q2), .val (.int q3), .val (.int q4), .val (.int q5), .val (.ref o_101), .val (.int (if (BAD q0 (0 : Int32) nn) = (0 : Int32) then (if (BAD q1 (1 : Int32) nn) = (0 : Int32) then (if (BAD q2 (2 : Int32) nn) = (0 : Int32) then (if (BAD q3 (3 : Int32) nn) = (0 : Int32) then (if (BAD q4 (4 : Int32) nn) = (0 : Int32) then (if (BAD q5 (5 : Int32) nn) = (0 : Int32) then (1 : Int32) else (0 : Int32)) else (0 : Int32)) else (0 : Int32)) else (0 : Int32)) else (0 : Int32)) else (0 : Int32))), .unset, .unset] [(.int ((((((DOT q0 (0 : Int32) nn) + (DOT q1 (1 : Int32) nn)) + (DOT q2 (2 : Int32) nn)) + (DOT q3 (3 : Int32) nn)) + (DOT q4 (4 : Int32) nn)) + (DOT q5 (5 : Int32) nn)))])) _
    refine XS.istore X122.here hx rfl (hb hby at_196) rfl (l' := #[.val (.int p0), .val (.int p1), .val (.int p2), .val (.int p3), .val (.int nn), .val (.int q0), .val (.int q1), .val (.int q2), .val (.int q3), .val (.int q4), .val (.int q5), .val (.ref o_101), .val (.int (if (BAD q0 (0 : Int32) nn) = (0 : Int32) then (if (BAD q1 (1 : Int32) nn) = (0 : Int32) then (if (BAD q2 (2 : Int32) nn) = (0 : Int32) then (if (BAD q3 (3 : Int32) nn) = (0 : Int32) then (if (BAD q4 (4 : Int32) nn) = (0 : Int32) then (if (BAD q5 (5 : Int32) nn) = (0 : Int32) then (1 : Int32) else (0 : Int32)) else (0 : Int32)) else (0 : Int32)) else (0 : Int32)) else (0 : Int32)) else (0 : Int32))), .val (.int ((((((DOT q0 (0 : Int32) nn) + (DOT q1 (1 : Int32) nn)) + (DOT q2 (2 : Int32) nn)) + (DOT q3 (3 : Int32) nn)) + (DOT q4 (4 : Int32) nn)) + (DOT q5 (5 : Int32) nn))), .unset]) rfl ?_
    show Steps p.tables e below (T122.setTop (mkF m 198 #[.val (.int p0), .val (.int p1), .val (.int p2), .val (.int p3), .val (.int nn), .val (.int q0), .val (.int q1), .val (.int q2), .val (.int q3), .val (.int q4), .val (.int q5), .val (.ref o_101), .val (.int (if (BAD q0 (0 : Int32) nn) = (0 : Int32) then (if (BAD q1 (1 : Int32) nn) = (0 : Int32) then (if (BAD q2 (2 : Int32) nn) = (0 : Int32) then (if (BAD q3 (3 : Int32) nn) = (0 : Int32) then (if (BAD q4 (4 : Int32) nn) = (0 : Int32) then (if (BAD q5 (5 : Int32) nn) = (0 : Int32) then (1 : Int32) else (0 : Int32)) else (0 : Int32)) else (0 : Int32)) else (0 : Int32)) else (0 : Int32)) else (0 : Int32))), .val (.int ((((((DOT q0 (0 : Int32) nn) + (DOT q1 (1 : Int32) nn)) + (DOT q2 (2 : Int32) nn)) + (DOT q3 (3 : Int32) nn)) + (DOT q4 (4 : Int32) nn)) + (DOT q5 (5 : Int32) nn))), .unset] [])) _
    refine XS.iload X122.here hx rfl (hb hby at_198) rfl ?_
    refine XS.iconst X122.here hx rfl (hb hby at_200) ?_
    exact k
  have S125 : ∀ t, Steps p.tables e below (T122.setTop (mkF m 220 #[.val (.int p0), .val (.int p1), .val (.int p2), .val (.int p3), .val (.int nn), .val (.int q0), .val (.int q1), .val (.int q2), .val (.int q3), .val (.int q4), .val (.int q5), .val (.ref o_101), .val (.int (if (BAD q0 (0 : Int32) nn) = (0 : Int32) then (if (BAD q1 (1 : Int32) nn) = (0 : Int32) then (if (BAD q2 (2 : Int32) nn) = (0 : Int32) then (if (BAD q3 (3 : Int32) nn) = (0 : Int32) then (if (BAD q4 (4 : Int32) nn) = (0 : Int32) then (if (BAD q5 (5 : Int32) nn) = (0 : Int32) then (1 : Int32) else (0 : Int32)) else (0 : Int32)) else (0 : Int32)) else (0 : Int32)) else (0 : Int32)) else (0 : Int32))), .val (.int ((((((DOT q0 (0 : Int32) nn) + (DOT q1 (1 : Int32) nn)) + (DOT q2 (2 : Int32) nn)) + (DOT q3 (3 : Int32) nn)) + (DOT q4 (4 : Int32) nn)) + (DOT q5 (5 : Int32) nn))), .unset] [(.int (if nn < (1 : Int32) then (0 : Int32) else (if (if (BAD q0 (0 : Int32) nn) = (0 : Int32) then (if (BAD q1 (1 : Int32) nn) = (0 : Int32) then (if (BAD q2 (2 : Int32) nn) = (0 : Int32) then (if (BAD q3 (3 : Int32) nn) = (0 : Int32) then (if (BAD q4 (4 : Int32) nn) = (0 : Int32) then (if (BAD q5 (5 : Int32) nn) = (0 : Int32) then (1 : Int32) else (0 : Int32)) else (0 : Int32)) else (0 : Int32)) else (0 : Int32)) else (0 : Int32)) else (0 : Int32)) = (0 : Int32) then (0 : Int32) else (if (1 : Int32) < ((((((DOT q0 (0 : Int32) nn) + (DOT q1 (1 : Int32) nn)) + (DOT q2 (2 : Int32) nn)) + (DOT q3 (3 : Int32) nn)) + (DOT q4 (4 : Int32) nn)) + (DOT q5 (5 : Int32) nn)) then (0 : Int32) else (1 : Int32)))))])) t → Steps p.tables e below (s₁.setTop (entryFrame m #[(.int p0), (.int p1), (.int p2), (.int p3)] maxLocals)) t := by
    by_cases hc124 : nn < (1 : Int32)
    · intro t k
      try simp only [if_pos hc124] at k
      refine S123 t ?_
      show Steps p.tables e below (T122.setTop (mkF m 201 #[.val (.int p0), .val (.int p1), .val (.int p2), .val (.int p3), .val (.int nn), .val (.int q0), .val (.int q1), .val (.int q2), .val (.int q3), .val (.int q4), .val (.int q5), .val (.ref o_101), .val (.int (if (BAD q0 (0 : Int32) nn) = (0 : Int32) then (if (BAD q1 (1 : Int32) nn) = (0 : Int32) then (if (BAD q2 (2 : Int32) nn) = (0 : Int32) then (if (BAD q3 (3 : Int32) nn) = (0 : Int32) then (if (BAD q4 (4 : Int32) nn) = (0 : Int32) then (if (BAD q5 (5 : Int32) nn) = (0 : Int32) then (1 : Int32) else (0 : Int32)) else (0 : Int32)) else (0 : Int32)) else (0 : Int32)) else (0 : Int32)) else (0 : Int32))), .val (.int ((((((DOT q0 (0 : Int32) nn) + (DOT q1 (1 : Int32) nn)) + (DOT q2 (2 : Int32) nn)) + (DOT q3 (3 : Int32) nn)) + (DOT q4 (4 : Int32) nn)) + (DOT q5 (5 : Int32) nn))), .unset] [(.int (1 : Int32)), (.int nn)])) _
      refine XS.icmpYes X122.here hx rfl (pc0 := 201) (pc' := 219) rfl (hb hby at_201) rfl (tlt hc124).1 (by decide) (by decide) ?_
      show Steps p.tables e below (T122.setTop (mkF m 219 #[.val (.int p0), .val (.int p1), .val (.int p2), .val (.int p3), .val (.int nn), .val (.int q0), .val (.int q1), .val (.int q2), .val (.int q3), .val (.int q4), .val (.int q5), .val (.ref o_101), .val (.int (if (BAD q0 (0 : Int32) nn) = (0 : Int32) then (if (BAD q1 (1 : Int32) nn) = (0 : Int32) then (if (BAD q2 (2 : Int32) nn) = (0 : Int32) then (if (BAD q3 (3 : Int32) nn) = (0 : Int32) then (if (BAD q4 (4 : Int32) nn) = (0 : Int32) then (if (BAD q5 (5 : Int32) nn) = (0 : Int32) then (1 : Int32) else (0 : Int32)) else (0 : Int32)) else (0 : Int32)) else (0 : Int32)) else (0 : Int32)) else (0 : Int32))), .val (.int ((((((DOT q0 (0 : Int32) nn) + (DOT q1 (1 : Int32) nn)) + (DOT q2 (2 : Int32) nn)) + (DOT q3 (3 : Int32) nn)) + (DOT q4 (4 : Int32) nn)) + (DOT q5 (5 : Int32) nn))), .unset] [])) _
      refine XS.iconst X122.here hx rfl (hb hby at_219) ?_
      exact k
    · by_cases hc126 : (if (BAD q0 (0 : Int32) nn) = (0 : Int32) then (if (BAD q1 (1 : Int32) nn) = (0 : Int32) then (if (BAD q2 (2 : Int32) nn) = (0 : Int32) then (if (BAD q3 (3 : Int32) nn) = (0 : Int32) then (if (BAD q4 (4 : Int32) nn) = (0 : Int32) then (if (BAD q5 (5 : Int32) nn) = (0 : Int32) then (1 : Int32) else (0 : Int32)) else (0 : Int32)) else (0 : Int32)) else (0 : Int32)) else (0 : Int32)) else (0 : Int32)) = (0 : Int32)
      · intro t k
        try simp only [if_neg hc124, if_pos hc126] at k
        refine S123 t ?_
        show Steps p.tables e below (T122.setTop (mkF m 201 #[.val (.int p0), .val (.int p1), .val (.int p2), .val (.int p3), .val (.int nn), .val (.int q0), .val (.int q1), .val (.int q2), .val (.int q3), .val (.int q4), .val (.int q5), .val (.ref o_101), .val (.int (if (BAD q0 (0 : Int32) nn) = (0 : Int32) then (if (BAD q1 (1 : Int32) nn) = (0 : Int32) then (if (BAD q2 (2 : Int32) nn) = (0 : Int32) then (if (BAD q3 (3 : Int32) nn) = (0 : Int32) then (if (BAD q4 (4 : Int32) nn) = (0 : Int32) then (if (BAD q5 (5 : Int32) nn) = (0 : Int32) then (1 : Int32) else (0 : Int32)) else (0 : Int32)) else (0 : Int32)) else (0 : Int32)) else (0 : Int32)) else (0 : Int32))), .val (.int ((((((DOT q0 (0 : Int32) nn) + (DOT q1 (1 : Int32) nn)) + (DOT q2 (2 : Int32) nn)) + (DOT q3 (3 : Int32) nn)) + (DOT q4 (4 : Int32) nn)) + (DOT q5 (5 : Int32) nn))), .unset] [(.int (1 : Int32)), (.int nn)])) _
        refine XS.icmpNo X122.here hx rfl (hb hby at_201) rfl (flt hc124).1 ?_
        show Steps p.tables e below (T122.setTop (mkF m 204 #[.val (.int p0), .val (.int p1), .val (.int p2), .val (.int p3), .val (.int nn), .val (.int q0), .val (.int q1), .val (.int q2), .val (.int q3), .val (.int q4), .val (.int q5), .val (.ref o_101), .val (.int (if (BAD q0 (0 : Int32) nn) = (0 : Int32) then (if (BAD q1 (1 : Int32) nn) = (0 : Int32) then (if (BAD q2 (2 : Int32) nn) = (0 : Int32) then (if (BAD q3 (3 : Int32) nn) = (0 : Int32) then (if (BAD q4 (4 : Int32) nn) = (0 : Int32) then (if (BAD q5 (5 : Int32) nn) = (0 : Int32) then (1 : Int32) else (0 : Int32)) else (0 : Int32)) else (0 : Int32)) else (0 : Int32)) else (0 : Int32)) else (0 : Int32))), .val (.int ((((((DOT q0 (0 : Int32) nn) + (DOT q1 (1 : Int32) nn)) + (DOT q2 (2 : Int32) nn)) + (DOT q3 (3 : Int32) nn)) + (DOT q4 (4 : Int32) nn)) + (DOT q5 (5 : Int32) nn))), .unset] [])) _
        refine XS.iload X122.here hx rfl (hb hby at_204) rfl ?_
        refine XS.ifYes X122.here hx rfl (pc0 := 206) (pc' := 219) rfl (hb hby at_206) rfl ((if0 _ _).trans (teq hc126).1) (by decide) (by decide) ?_
        show Steps p.tables e below (T122.setTop (mkF m 219 #[.val (.int p0), .val (.int p1), .val (.int p2), .val (.int p3), .val (.int nn), .val (.int q0), .val (.int q1), .val (.int q2), .val (.int q3), .val (.int q4), .val (.int q5), .val (.ref o_101), .val (.int (if (BAD q0 (0 : Int32) nn) = (0 : Int32) then (if (BAD q1 (1 : Int32) nn) = (0 : Int32) then (if (BAD q2 (2 : Int32) nn) = (0 : Int32) then (if (BAD q3 (3 : Int32) nn) = (0 : Int32) then (if (BAD q4 (4 : Int32) nn) = (0 : Int32) then (if (BAD q5 (5 : Int32) nn) = (0 : Int32) then (1 : Int32) else (0 : Int32)) else (0 : Int32)) else (0 : Int32)) else (0 : Int32)) else (0 : Int32)) else (0 : Int32))), .val (.int ((((((DOT q0 (0 : Int32) nn) + (DOT q1 (1 : Int32) nn)) + (DOT q2 (2 : Int32) nn)) + (DOT q3 (3 : Int32) nn)) + (DOT q4 (4 : Int32) nn)) + (DOT q5 (5 : Int32) nn))), .unset] [])) _
        refine XS.iconst X122.here hx rfl (hb hby at_219) ?_
        exact k
      · by_cases hc127 : (1 : Int32) < ((((((DOT q0 (0 : Int32) nn) + (DOT q1 (1 : Int32) nn)) + (DOT q2 (2 : Int32) nn)) + (DOT q3 (3 : Int32) nn)) + (DOT q4 (4 : Int32) nn)) + (DOT q5 (5 : Int32) nn))
        · intro t k
          try simp only [if_neg hc124, if_neg hc126, if_pos hc127] at k
          refine S123 t ?_
          show Steps p.tables e below (T122.setTop (mkF m 201 #[.val (.int p0), .val (.int p1), .val (.int p2), .val (.int p3), .val (.int nn), .val (.int q0), .val (.int q1), .val (.int q2), .val (.int q3), .val (.int q4), .val (.int q5), .val (.ref o_101), .val (.int (if (BAD q0 (0 : Int32) nn) = (0 : Int32) then (if (BAD q1 (1 : Int32) nn) = (0 : Int32) then (if (BAD q2 (2 : Int32) nn) = (0 : Int32) then (if (BAD q3 (3 : Int32) nn) = (0 : Int32) then (if (BAD q4 (4 : Int32) nn) = (0 : Int32) then (if (BAD q5 (5 : Int32) nn) = (0 : Int32) then (1 : Int32) else (0 : Int32)) else (0 : Int32)) else (0 : Int32)) else (0 : Int32)) else (0 : Int32)) else (0 : Int32))), .val (.int ((((((DOT q0 (0 : Int32) nn) + (DOT q1 (1 : Int32) nn)) + (DOT q2 (2 : Int32) nn)) + (DOT q3 (3 : Int32) nn)) + (DOT q4 (4 : Int32) nn)) + (DOT q5 (5 : Int32) nn))), .unset] [(.int (1 : Int32)), (.int nn)])) _
          refine XS.icmpNo X122.here hx rfl (hb hby at_201) rfl (flt hc124).1 ?_
          show Steps p.tables e below (T122.setTop (mkF m 204 #[.val (.int p0), .val (.int p1), .val (.int p2), .val (.int p3), .val (.int nn), .val (.int q0), .val (.int q1), .val (.int q2), .val (.int q3), .val (.int q4), .val (.int q5), .val (.ref o_101), .val (.int (if (BAD q0 (0 : Int32) nn) = (0 : Int32) then (if (BAD q1 (1 : Int32) nn) = (0 : Int32) then (if (BAD q2 (2 : Int32) nn) = (0 : Int32) then (if (BAD q3 (3 : Int32) nn) = (0 : Int32) then (if (BAD q4 (4 : Int32) nn) = (0 : Int32) then (if (BAD q5 (5 : Int32) nn) = (0 : Int32) then (1 : Int32) else (0 : Int32)) else (0 : Int32)) else (0 : Int32)) else (0 : Int32)) else (0 : Int32)) else (0 : Int32))), .val (.int ((((((DOT q0 (0 : Int32) nn) + (DOT q1 (1 : Int32) nn)) + (DOT q2 (2 : Int32) nn)) + (DOT q3 (3 : Int32) nn)) + (DOT q4 (4 : Int32) nn)) + (DOT q5 (5 : Int32) nn))), .unset] [])) _
          refine XS.iload X122.here hx rfl (hb hby at_204) rfl ?_
          refine XS.ifNo X122.here hx rfl (hb hby at_206) rfl ((if0 _ _).trans (feq hc126).1) ?_
          show Steps p.tables e below (T122.setTop (mkF m 209 #[.val (.int p0), .val (.int p1), .val (.int p2), .val (.int p3), .val (.int nn), .val (.int q0), .val (.int q1), .val (.int q2), .val (.int q3), .val (.int q4), .val (.int q5), .val (.ref o_101), .val (.int (if (BAD q0 (0 : Int32) nn) = (0 : Int32) then (if (BAD q1 (1 : Int32) nn) = (0 : Int32) then (if (BAD q2 (2 : Int32) nn) = (0 : Int32) then (if (BAD q3 (3 : Int32) nn) = (0 : Int32) then (if (BAD q4 (4 : Int32) nn) = (0 : Int32) then (if (BAD q5 (5 : Int32) nn) = (0 : Int32) then (1 : Int32) else (0 : Int32)) else (0 : Int32)) else (0 : Int32)) else (0 : Int32)) else (0 : Int32)) else (0 : Int32))), .val (.int ((((((DOT q0 (0 : Int32) nn) + (DOT q1 (1 : Int32) nn)) + (DOT q2 (2 : Int32) nn)) + (DOT q3 (3 : Int32) nn)) + (DOT q4 (4 : Int32) nn)) + (DOT q5 (5 : Int32) nn))), .unset] [])) _
          refine XS.iload X122.here hx rfl (hb hby at_209) rfl ?_
          refine XS.iconst X122.here hx rfl (hb hby at_211) ?_
          refine XS.icmpYes X122.here hx rfl (pc0 := 212) (pc' := 219) rfl (hb hby at_212) rfl (tlt hc127).2.2.1 (by decide) (by decide) ?_
          show Steps p.tables e below (T122.setTop (mkF m 219 #[.val (.int p0), .val (.int p1), .val (.int p2), .val (.int p3), .val (.int nn), .val (.int q0), .val (.int q1), .val (.int q2), .val (.int q3), .val (.int q4), .val (.int q5), .val (.ref o_101), .val (.int (if (BAD q0 (0 : Int32) nn) = (0 : Int32) then (if (BAD q1 (1 : Int32) nn) = (0 : Int32) then (if (BAD q2 (2 : Int32) nn) = (0 : Int32) then (if (BAD q3 (3 : Int32) nn) = (0 : Int32) then (if (BAD q4 (4 : Int32) nn) = (0 : Int32) then (if (BAD q5 (5 : Int32) nn) = (0 : Int32) then (1 : Int32) else (0 : Int32)) else (0 : Int32)) else (0 : Int32)) else (0 : Int32)) else (0 : Int32)) else (0 : Int32))), .val (.int ((((((DOT q0 (0 : Int32) nn) + (DOT q1 (1 : Int32) nn)) + (DOT q2 (2 : Int32) nn)) + (DOT q3 (3 : Int32) nn)) + (DOT q4 (4 : Int32) nn)) + (DOT q5 (5 : Int32) nn))), .unset] [])) _
          refine XS.iconst X122.here hx rfl (hb hby at_219) ?_
          exact k
        · intro t k
          try simp only [if_neg hc124, if_neg hc126, if_neg hc127] at k
          refine S123 t ?_
          show Steps p.tables e below (T122.setTop (mkF m 201 #[.val (.int p0), .val (.int p1), .val (.int p2), .val (.int p3), .val (.int nn), .val (.int q0), .val (.int q1), .val (.int q2), .val (.int q3), .val (.int q4), .val (.int q5), .val (.ref o_101), .val (.int (if (BAD q0 (0 : Int32) nn) = (0 : Int32) then (if (BAD q1 (1 : Int32) nn) = (0 : Int32) then (if (BAD q2 (2 : Int32) nn) = (0 : Int32) then (if (BAD q3 (3 : Int32) nn) = (0 : Int32) then (if (BAD q4 (4 : Int32) nn) = (0 : Int32) then (if (BAD q5 (5 : Int32) nn) = (0 : Int32) then (1 : Int32) else (0 : Int32)) else (0 : Int32)) else (0 : Int32)) else (0 : Int32)) else (0 : Int32)) else (0 : Int32))), .val (.int ((((((DOT q0 (0 : Int32) nn) + (DOT q1 (1 : Int32) nn)) + (DOT q2 (2 : Int32) nn)) + (DOT q3 (3 : Int32) nn)) + (DOT q4 (4 : Int32) nn)) + (DOT q5 (5 : Int32) nn))), .unset] [(.int (1 : Int32)), (.int nn)])) _
          refine XS.icmpNo X122.here hx rfl (hb hby at_201) rfl (flt hc124).1 ?_
          show Steps p.tables e below (T122.setTop (mkF m 204 #[.val (.int p0), .val (.int p1), .val (.int p2), .val (.int p3), .val (.int nn), .val (.int q0), .val (.int q1), .val (.int q2), .val (.int q3), .val (.int q4), .val (.int q5), .val (.ref o_101), .val (.int (if (BAD q0 (0 : Int32) nn) = (0 : Int32) then (if (BAD q1 (1 : Int32) nn) = (0 : Int32) then (if (BAD q2 (2 : Int32) nn) = (0 : Int32) then (if (BAD q3 (3 : Int32) nn) = (0 : Int32) then (if (BAD q4 (4 : Int32) nn) = (0 : Int32) then (if (BAD q5 (5 : Int32) nn) = (0 : Int32) then (1 : Int32) else (0 : Int32)) else (0 : Int32)) else (0 : Int32)) else (0 : Int32)) else (0 : Int32)) else (0 : Int32))), .val (.int ((((((DOT q0 (0 : Int32) nn) + (DOT q1 (1 : Int32) nn)) + (DOT q2 (2 : Int32) nn)) + (DOT q3 (3 : Int32) nn)) + (DOT q4 (4 : Int32) nn)) + (DOT q5 (5 : Int32) nn))), .unset] [])) _
          refine XS.iload X122.here hx rfl (hb hby at_204) rfl ?_
          refine XS.ifNo X122.here hx rfl (hb hby at_206) rfl ((if0 _ _).trans (feq hc126).1) ?_
          show Steps p.tables e below (T122.setTop (mkF m 209 #[.val (.int p0), .val (.int p1), .val (.int p2), .val (.int p3), .val (.int nn), .val (.int q0), .val (.int q1), .val (.int q2), .val (.int q3), .val (.int q4), .val (.int q5), .val (.ref o_101), .val (.int (if (BAD q0 (0 : Int32) nn) = (0 : Int32) then (if (BAD q1 (1 : Int32) nn) = (0 : Int32) then (if (BAD q2 (2 : Int32) nn) = (0 : Int32) then (if (BAD q3 (3 : Int32) nn) = (0 : Int32) then (if (BAD q4 (4 : Int32) nn) = (0 : Int32) then (if (BAD q5 (5 : Int32) nn) = (0 : Int32) then (1 : Int32) else (0 : Int32)) else (0 : Int32)) else (0 : Int32)) else (0 : Int32)) else (0 : Int32)) else (0 : Int32))), .val (.int ((((((DOT q0 (0 : Int32) nn) + (DOT q1 (1 : Int32) nn)) + (DOT q2 (2 : Int32) nn)) + (DOT q3 (3 : Int32) nn)) + (DOT q4 (4 : Int32) nn)) + (DOT q5 (5 : Int32) nn))), .unset] [])) _
          refine XS.iload X122.here hx rfl (hb hby at_209) rfl ?_
          refine XS.iconst X122.here hx rfl (hb hby at_211) ?_
          refine XS.icmpNo X122.here hx rfl (hb hby at_212) rfl (flt hc127).2.2.1 ?_
          show Steps p.tables e below (T122.setTop (mkF m 215 #[.val (.int p0), .val (.int p1), .val (.int p2), .val (.int p3), .val (.int nn), .val (.int q0), .val (.int q1), .val (.int q2), .val (.int q3), .val (.int q4), .val (.int q5), .val (.ref o_101), .val (.int (if (BAD q0 (0 : Int32) nn) = (0 : Int32) then (if (BAD q1 (1 : Int32) nn) = (0 : Int32) then (if (BAD q2 (2 : Int32) nn) = (0 : Int32) then (if (BAD q3 (3 : Int32) nn) = (0 : Int32) then (if (BAD q4 (4 : Int32) nn) = (0 : Int32) then (if (BAD q5 (5 : Int32) nn) = (0 : Int32) then (1 : Int32) else (0 : Int32)) else (0 : Int32)) else (0 : Int32)) else (0 : Int32)) else (0 : Int32)) else (0 : Int32))), .val (.int ((((((DOT q0 (0 : Int32) nn) + (DOT q1 (1 : Int32) nn)) + (DOT q2 (2 : Int32) nn)) + (DOT q3 (3 : Int32) nn)) + (DOT q4 (4 : Int32) nn)) + (DOT q5 (5 : Int32) nn))), .unset] [])) _
          refine XS.iconst X122.here hx rfl (hb hby at_215) ?_
          refine XS.goto X122.here hx rfl (pc0 := 216) (pc' := 220) rfl (hb hby at_216) (by decide) (by decide) ?_
          exact k
  obtain ⟨_, _, ⟨T128, L128, k128, n128⟩, -, X128, ⟨Lc128, hQ128, l128, y128, z128⟩, st128⟩ := Jvm.LawKit.callS X122 hx (y := (⟨"com/example/vestwright/vestwright/InputText", "isPlainDecimal", "(Ljava/lang/String;)Z"⟩ : MethodName)) hown101 (mvT hZ101 (hwk hw 34 rfl)) (mvT hZ101 (hwk hw 35 rfl)) (mvT hZ101 (hwk hw 36 rfl)) (mvT hZ101 (hwk hw 37 rfl)) (by decide) (backOf (W := 0) (rm7 l Z a0 hw [] o_101 t_101 kb_101 cd_101 N9_101 vs_101 (CS nn q0 q1 q2 q3 q4 q5) zc fm T101.heap n0 O102 f101_0 f101_1 f101_2 f101_3 f101_4 (own_csl _ _ _ _ _ _ _) (own_csq gq0 gq1 gq2 gq3 gq4 gq5) SZ PZ SF RF SA SH SL) hZ101 (hwk hw 37 rfl) (hwk hw 36 rfl) (by decide) (by decide)) (g := (mkF m 224 #[.val (.int p0), .val (.int p1), .val (.int p2), .val (.int p3), .val (.int nn), .val (.int q0), .val (.int q1), .val (.int q2), .val (.int q3), .val (.int q4), .val (.int q5), .val (.ref o_101), .val (.int (if (BAD q0 (0 : Int32) nn) = (0 : Int32) then (if (BAD q1 (1 : Int32) nn) = (0 : Int32) then (if (BAD q2 (2 : Int32) nn) = (0 : Int32) then (if (BAD q3 (3 : Int32) nn) = (0 : Int32) then (if (BAD q4 (4 : Int32) nn) = (0 : Int32) then (if (BAD q5 (5 : Int32) nn) = (0 : Int32) then (1 : Int32) else (0 : Int32)) else (0 : Int32)) else (0 : Int32)) else (0 : Int32)) else (0 : Int32)) else (0 : Int32))), .val (.int ((((((DOT q0 (0 : Int32) nn) + (DOT q1 (1 : Int32) nn)) + (DOT q2 (2 : Int32) nn)) + (DOT q3 (3 : Int32) nn)) + (DOT q4 (4 : Int32) nn)) + (DOT q5 (5 : Int32) nn))), .val (.int (if nn < (1 : Int32) then (0 : Int32) else (if (if (BAD q0 (0 : Int32) nn) = (0 : Int32) then (if (BAD q1 (1 : Int32) nn) = (0 : Int32) then (if (BAD q2 (2 : Int32) nn) = (0 : Int32) then (if (BAD q3 (3 : Int32) nn) = (0 : Int32) then (if (BAD q4 (4 : Int32) nn) = (0 : Int32) then (if (BAD q5 (5 : Int32) nn) = (0 : Int32) then (1 : Int32) else (0 : Int32)) else (0 : Int32)) else (0 : Int32)) else (0 : Int32)) else (0 : Int32)) else (0 : Int32)) = (0 : Int32) then (0 : Int32) else (if (1 : Int32) < ((((((DOT q0 (0 : Int32) nn) + (DOT q1 (1 : Int32) nn)) + (DOT q2 (2 : Int32) nn)) + (DOT q3 (3 : Int32) nn)) + (DOT q4 (4 : Int32) nn)) + (DOT q5 (5 : Int32) nn)) then (0 : Int32) else (1 : Int32)))))] [(.ref o_101)])) rfl (by rw [hml]; rfl) (argsL := [(.ref o_101)]) (rest := []) (lenOf pd_27 rfl) rfl (by show 2 * 0 + _ ≤ _; exact Nat.le_of_eq rfl) (hb hby at_224) (fun _ _ => ⟨rfl, e122, (by decide : 6 + 0 ≤ _), (by decide : 28 + 0 ≤ _)⟩)
  dsimp only [Pt.U, Pt.locs, Pt.cells, Pt.slots] at X128 l128 y128 z128 st128 hQ128
  subst l128 y128 z128
  unfold Q_rm7 at hQ128
  obtain ⟨rfl, N128q, e128⟩ := hQ128
  have N128 := Fr.app N122 N128q
  have K129 : Keep h0 T101.heap [] := Keep.trans (Keep.refl h0 []) K101 all0
  have CR130 : CHr Z consts_1 s.vm h0 T101.vm T101.heap := CHr.trans CR0 CX101
  obtain ⟨fs, hr, hrun, hended, hRE⟩ := X128.leaveW hS101 (show _ ≤ T128.heap.size from by rw [e128]; exact (Nat.le_refl _)) (v := some (.int (1 : Int32))) (fun h => by rw [Bd.returns] at h; cases h)
  have CRl : CHr Z consts_1 s.vm s.heap (T128.setFrames fs).vm (T128.setFrames fs).heap := by
    have q := CHr.trans CR130 (CHv.at X128 hZ101 hEL CR130.1)
    rw [← hh, ← e128] at q
    exact q
  refine ⟨_, _, S125 _ ?_, hrun, hended, _, _, rfl, ?_, CRl, hRE.1, hRE.2.1, hRE.2.2.1, hRE.2.2.2.mono (by decide) (by decide)⟩
  · show Steps p.tables e below (T122.setTop (mkF m 220 #[.val (.int p0), .val (.int p1), .val (.int p2), .val (.int p3), .val (.int nn), .val (.int q0), .val (.int q1), .val (.int q2), .val (.int q3), .val (.int q4), .val (.int q5), .val (.ref o_101), .val (.int (if (BAD q0 (0 : Int32) nn) = (0 : Int32) then (if (BAD q1 (1 : Int32) nn) = (0 : Int32) then (if (BAD q2 (2 : Int32) nn) = (0 : Int32) then (if (BAD q3 (3 : Int32) nn) = (0 : Int32) then (if (BAD q4 (4 : Int32) nn) = (0 : Int32) then (if (BAD q5 (5 : Int32) nn) = (0 : Int32) then (1 : Int32) else (0 : Int32)) else (0 : Int32)) else (0 : Int32)) else (0 : Int32)) else (0 : Int32)) else (0 : Int32))), .val (.int ((((((DOT q0 (0 : Int32) nn) + (DOT q1 (1 : Int32) nn)) + (DOT q2 (2 : Int32) nn)) + (DOT q3 (3 : Int32) nn)) + (DOT q4 (4 : Int32) nn)) + (DOT q5 (5 : Int32) nn))), .unset] [(.int (if nn < (1 : Int32) then (0 : Int32) else (if (if (BAD q0 (0 : Int32) nn) = (0 : Int32) then (if (BAD q1 (1 : Int32) nn) = (0 : Int32) then (if (BAD q2 (2 : Int32) nn) = (0 : Int32) then (if (BAD q3 (3 : Int32) nn) = (0 : Int32) then (if (BAD q4 (4 : Int32) nn) = (0 : Int32) then (if (BAD q5 (5 : Int32) nn) = (0 : Int32) then (1 : Int32) else (0 : Int32)) else (0 : Int32)) else (0 : Int32)) else (0 : Int32)) else (0 : Int32)) else (0 : Int32)) = (0 : Int32) then (0 : Int32) else (if (1 : Int32) < ((((((DOT q0 (0 : Int32) nn) + (DOT q1 (1 : Int32) nn)) + (DOT q2 (2 : Int32) nn)) + (DOT q3 (3 : Int32) nn)) + (DOT q4 (4 : Int32) nn)) + (DOT q5 (5 : Int32) nn)) then (0 : Int32) else (1 : Int32)))))])) _
    refine XS.istore X122.here hx rfl (hb hby at_220) rfl (l' := #[.val (.int p0), .val (.int p1), .val (.int p2), .val (.int p3), .val (.int nn), .val (.int q0), .val (.int q1), .val (.int q2), .val (.int q3), .val (.int q4), .val (.int q5), .val (.ref o_101), .val (.int (if (BAD q0 (0 : Int32) nn) = (0 : Int32) then (if (BAD q1 (1 : Int32) nn) = (0 : Int32) then (if (BAD q2 (2 : Int32) nn) = (0 : Int32) then (if (BAD q3 (3 : Int32) nn) = (0 : Int32) then (if (BAD q4 (4 : Int32) nn) = (0 : Int32) then (if (BAD q5 (5 : Int32) nn) = (0 : Int32) then (1 : Int32) else (0 : Int32)) else (0 : Int32)) else (0 : Int32)) else (0 : Int32)) else (0 : Int32)) else (0 : Int32))), .val (.int ((((((DOT q0 (0 : Int32) nn) + (DOT q1 (1 : Int32) nn)) + (DOT q2 (2 : Int32) nn)) + (DOT q3 (3 : Int32) nn)) + (DOT q4 (4 : Int32) nn)) + (DOT q5 (5 : Int32) nn))), .val (.int (if nn < (1 : Int32) then (0 : Int32) else (if (if (BAD q0 (0 : Int32) nn) = (0 : Int32) then (if (BAD q1 (1 : Int32) nn) = (0 : Int32) then (if (BAD q2 (2 : Int32) nn) = (0 : Int32) then (if (BAD q3 (3 : Int32) nn) = (0 : Int32) then (if (BAD q4 (4 : Int32) nn) = (0 : Int32) then (if (BAD q5 (5 : Int32) nn) = (0 : Int32) then (1 : Int32) else (0 : Int32)) else (0 : Int32)) else (0 : Int32)) else (0 : Int32)) else (0 : Int32)) else (0 : Int32)) = (0 : Int32) then (0 : Int32) else (if (1 : Int32) < ((((((DOT q0 (0 : Int32) nn) + (DOT q1 (1 : Int32) nn)) + (DOT q2 (2 : Int32) nn)) + (DOT q3 (3 : Int32) nn)) + (DOT q4 (4 : Int32) nn)) + (DOT q5 (5 : Int32) nn)) then (0 : Int32) else (1 : Int32)))))]) rfl ?_
    show Steps p.tables e below (T122.setTop (mkF m 222 #[.val (.int p0), .val (.int p1), .val (.int p2), .val (.int p3), .val (.int nn), .val (.int q0), .val (.int q1), .val (.int q2), .val (.int q3), .val (.int q4), .val (.int q5), .val (.ref o_101), .val (.int (if (BAD q0 (0 : Int32) nn) = (0 : Int32) then (if (BAD q1 (1 : Int32) nn) = (0 : Int32) then (if (BAD q2 (2 : Int32) nn) = (0 : Int32) then (if (BAD q3 (3 : Int32) nn) = (0 : Int32) then (if (BAD q4 (4 : Int32) nn) = (0 : Int32) then (if (BAD q5 (5 : Int32) nn) = (0 : Int32) then (1 : Int32) else (0 : Int32)) else (0 : Int32)) else (0 : Int32)) else (0 : Int32)) else (0 : Int32)) else (0 : Int32))), .val (.int ((((((DOT q0 (0 : Int32) nn) + (DOT q1 (1 : Int32) nn)) + (DOT q2 (2 : Int32) nn)) + (DOT q3 (3 : Int32) nn)) + (DOT q4 (4 : Int32) nn)) + (DOT q5 (5 : Int32) nn))), .val (.int (if nn < (1 : Int32) then (0 : Int32) else (if (if (BAD q0 (0 : Int32) nn) = (0 : Int32) then (if (BAD q1 (1 : Int32) nn) = (0 : Int32) then (if (BAD q2 (2 : Int32) nn) = (0 : Int32) then (if (BAD q3 (3 : Int32) nn) = (0 : Int32) then (if (BAD q4 (4 : Int32) nn) = (0 : Int32) then (if (BAD q5 (5 : Int32) nn) = (0 : Int32) then (1 : Int32) else (0 : Int32)) else (0 : Int32)) else (0 : Int32)) else (0 : Int32)) else (0 : Int32)) else (0 : Int32)) = (0 : Int32) then (0 : Int32) else (if (1 : Int32) < ((((((DOT q0 (0 : Int32) nn) + (DOT q1 (1 : Int32) nn)) + (DOT q2 (2 : Int32) nn)) + (DOT q3 (3 : Int32) nn)) + (DOT q4 (4 : Int32) nn)) + (DOT q5 (5 : Int32) nn)) then (0 : Int32) else (1 : Int32)))))] [])) _
    refine XS.aload X122.here hx rfl (hb hby at_222) rfl rfl ?_
    show Steps p.tables e below (T122.setTop (mkF m 224 #[.val (.int p0), .val (.int p1), .val (.int p2), .val (.int p3), .val (.int nn), .val (.int q0), .val (.int q1), .val (.int q2), .val (.int q3), .val (.int q4), .val (.int q5), .val (.ref o_101), .val (.int (if (BAD q0 (0 : Int32) nn) = (0 : Int32) then (if (BAD q1 (1 : Int32) nn) = (0 : Int32) then (if (BAD q2 (2 : Int32) nn) = (0 : Int32) then (if (BAD q3 (3 : Int32) nn) = (0 : Int32) then (if (BAD q4 (4 : Int32) nn) = (0 : Int32) then (if (BAD q5 (5 : Int32) nn) = (0 : Int32) then (1 : Int32) else (0 : Int32)) else (0 : Int32)) else (0 : Int32)) else (0 : Int32)) else (0 : Int32)) else (0 : Int32))), .val (.int ((((((DOT q0 (0 : Int32) nn) + (DOT q1 (1 : Int32) nn)) + (DOT q2 (2 : Int32) nn)) + (DOT q3 (3 : Int32) nn)) + (DOT q4 (4 : Int32) nn)) + (DOT q5 (5 : Int32) nn))), .val (.int (if nn < (1 : Int32) then (0 : Int32) else (if (if (BAD q0 (0 : Int32) nn) = (0 : Int32) then (if (BAD q1 (1 : Int32) nn) = (0 : Int32) then (if (BAD q2 (2 : Int32) nn) = (0 : Int32) then (if (BAD q3 (3 : Int32) nn) = (0 : Int32) then (if (BAD q4 (4 : Int32) nn) = (0 : Int32) then (if (BAD q5 (5 : Int32) nn) = (0 : Int32) then (1 : Int32) else (0 : Int32)) else (0 : Int32)) else (0 : Int32)) else (0 : Int32)) else (0 : Int32)) else (0 : Int32)) = (0 : Int32) then (0 : Int32) else (if (1 : Int32) < ((((((DOT q0 (0 : Int32) nn) + (DOT q1 (1 : Int32) nn)) + (DOT q2 (2 : Int32) nn)) + (DOT q3 (3 : Int32) nn)) + (DOT q4 (4 : Int32) nn)) + (DOT q5 (5 : Int32) nn)) then (0 : Int32) else (1 : Int32)))))] [(.ref o_101)])) _
    refine st128 _ ?_
    show Steps p.tables e below (T128.setTop (mkF m 227 #[.val (.int p0), .val (.int p1), .val (.int p2), .val (.int p3), .val (.int nn), .val (.int q0), .val (.int q1), .val (.int q2), .val (.int q3), .val (.int q4), .val (.int q5), .val (.ref o_101), .val (.int (if (BAD q0 (0 : Int32) nn) = (0 : Int32) then (if (BAD q1 (1 : Int32) nn) = (0 : Int32) then (if (BAD q2 (2 : Int32) nn) = (0 : Int32) then (if (BAD q3 (3 : Int32) nn) = (0 : Int32) then (if (BAD q4 (4 : Int32) nn) = (0 : Int32) then (if (BAD q5 (5 : Int32) nn) = (0 : Int32) then (1 : Int32) else (0 : Int32)) else (0 : Int32)) else (0 : Int32)) else (0 : Int32)) else (0 : Int32)) else (0 : Int32))), .val (.int ((((((DOT q0 (0 : Int32) nn) + (DOT q1 (1 : Int32) nn)) + (DOT q2 (2 : Int32) nn)) + (DOT q3 (3 : Int32) nn)) + (DOT q4 (4 : Int32) nn)) + (DOT q5 (5 : Int32) nn))), .val (.int (if nn < (1 : Int32) then (0 : Int32) else (if (if (BAD q0 (0 : Int32) nn) = (0 : Int32) then (if (BAD q1 (1 : Int32) nn) = (0 : Int32) then (if (BAD q2 (2 : Int32) nn) = (0 : Int32) then (if (BAD q3 (3 : Int32) nn) = (0 : Int32) then (if (BAD q4 (4 : Int32) nn) = (0 : Int32) then (if (BAD q5 (5 : Int32) nn) = (0 : Int32) then (1 : Int32) else (0 : Int32)) else (0 : Int32)) else (0 : Int32)) else (0 : Int32)) else (0 : Int32)) else (0 : Int32)) = (0 : Int32) then (0 : Int32) else (if (1 : Int32) < ((((((DOT q0 (0 : Int32) nn) + (DOT q1 (1 : Int32) nn)) + (DOT q2 (2 : Int32) nn)) + (DOT q3 (3 : Int32) nn)) + (DOT q4 (4 : Int32) nn)) + (DOT q5 (5 : Int32) nn)) then (0 : Int32) else (1 : Int32)))))] [(.int (PD (CS nn q0 q1 q2 q3 q4 q5)))])) _
    refine XS.iload X128.here hx rfl (hb hby at_227) rfl ?_
    refine XS.icmpNo X128.here hx rfl (hb hby at_229) rfl (teq (own_law nn q0 q1 q2 q3 q4 q5 gnn : (PD (CS nn q0 q1 q2 q3 q4 q5)) = (if nn < (1 : Int32) then (0 : Int32) else (if (if (BAD q0 (0 : Int32) nn) = (0 : Int32) then (if (BAD q1 (1 : Int32) nn) = (0 : Int32) then (if (BAD q2 (2 : Int32) nn) = (0 : Int32) then (if (BAD q3 (3 : Int32) nn) = (0 : Int32) then (if (BAD q4 (4 : Int32) nn) = (0 : Int32) then (if (BAD q5 (5 : Int32) nn) = (0 : Int32) then (1 : Int32) else (0 : Int32)) else (0 : Int32)) else (0 : Int32)) else (0 : Int32)) else (0 : Int32)) else (0 : Int32)) = (0 : Int32) then (0 : Int32) else (if (1 : Int32) < ((((((DOT q0 (0 : Int32) nn) + (DOT q1 (1 : Int32) nn)) + (DOT q2 (2 : Int32) nn)) + (DOT q3 (3 : Int32) nn)) + (DOT q4 (4 : Int32) nn)) + (DOT q5 (5 : Int32) nn)) then (0 : Int32) else (1 : Int32)))))).2 ?_
    show Steps p.tables e below (T128.setTop (mkF m 232 #[.val (.int p0), .val (.int p1), .val (.int p2), .val (.int p3), .val (.int nn), .val (.int q0), .val (.int q1), .val (.int q2), .val (.int q3), .val (.int q4), .val (.int q5), .val (.ref o_101), .val (.int (if (BAD q0 (0 : Int32) nn) = (0 : Int32) then (if (BAD q1 (1 : Int32) nn) = (0 : Int32) then (if (BAD q2 (2 : Int32) nn) = (0 : Int32) then (if (BAD q3 (3 : Int32) nn) = (0 : Int32) then (if (BAD q4 (4 : Int32) nn) = (0 : Int32) then (if (BAD q5 (5 : Int32) nn) = (0 : Int32) then (1 : Int32) else (0 : Int32)) else (0 : Int32)) else (0 : Int32)) else (0 : Int32)) else (0 : Int32)) else (0 : Int32))), .val (.int ((((((DOT q0 (0 : Int32) nn) + (DOT q1 (1 : Int32) nn)) + (DOT q2 (2 : Int32) nn)) + (DOT q3 (3 : Int32) nn)) + (DOT q4 (4 : Int32) nn)) + (DOT q5 (5 : Int32) nn))), .val (.int (if nn < (1 : Int32) then (0 : Int32) else (if (if (BAD q0 (0 : Int32) nn) = (0 : Int32) then (if (BAD q1 (1 : Int32) nn) = (0 : Int32) then (if (BAD q2 (2 : Int32) nn) = (0 : Int32) then (if (BAD q3 (3 : Int32) nn) = (0 : Int32) then (if (BAD q4 (4 : Int32) nn) = (0 : Int32) then (if (BAD q5 (5 : Int32) nn) = (0 : Int32) then (1 : Int32) else (0 : Int32)) else (0 : Int32)) else (0 : Int32)) else (0 : Int32)) else (0 : Int32)) else (0 : Int32)) = (0 : Int32) then (0 : Int32) else (if (1 : Int32) < ((((((DOT q0 (0 : Int32) nn) + (DOT q1 (1 : Int32) nn)) + (DOT q2 (2 : Int32) nn)) + (DOT q3 (3 : Int32) nn)) + (DOT q4 (4 : Int32) nn)) + (DOT q5 (5 : Int32) nn)) then (0 : Int32) else (1 : Int32)))))] [])) _
    refine XS.iconst X128.here hx rfl (hb hby at_232) ?_
    refine XS.goto X128.here hx rfl (pc0 := 233) (pc' := 237) rfl (hb hby at_233) (by decide) (by decide) ?_
    show Steps p.tables e below (T128.setTop (mkF m 237 #[.val (.int p0), .val (.int p1), .val (.int p2), .val (.int p3), .val (.int nn), .val (.int q0), .val (.int q1), .val (.int q2), .val (.int q3), .val (.int q4), .val (.int q5), .val (.ref o_101), .val (.int (if (BAD q0 (0 : Int32) nn) = (0 : Int32) then (if (BAD q1 (1 : Int32) nn) = (0 : Int32) then (if (BAD q2 (2 : Int32) nn) = (0 : Int32) then (if (BAD q3 (3 : Int32) nn) = (0 : Int32) then (if (BAD q4 (4 : Int32) nn) = (0 : Int32) then (if (BAD q5 (5 : Int32) nn) = (0 : Int32) then (1 : Int32) else (0 : Int32)) else (0 : Int32)) else (0 : Int32)) else (0 : Int32)) else (0 : Int32)) else (0 : Int32))), .val (.int ((((((DOT q0 (0 : Int32) nn) + (DOT q1 (1 : Int32) nn)) + (DOT q2 (2 : Int32) nn)) + (DOT q3 (3 : Int32) nn)) + (DOT q4 (4 : Int32) nn)) + (DOT q5 (5 : Int32) nn))), .val (.int (if nn < (1 : Int32) then (0 : Int32) else (if (if (BAD q0 (0 : Int32) nn) = (0 : Int32) then (if (BAD q1 (1 : Int32) nn) = (0 : Int32) then (if (BAD q2 (2 : Int32) nn) = (0 : Int32) then (if (BAD q3 (3 : Int32) nn) = (0 : Int32) then (if (BAD q4 (4 : Int32) nn) = (0 : Int32) then (if (BAD q5 (5 : Int32) nn) = (0 : Int32) then (1 : Int32) else (0 : Int32)) else (0 : Int32)) else (0 : Int32)) else (0 : Int32)) else (0 : Int32)) else (0 : Int32)) = (0 : Int32) then (0 : Int32) else (if (1 : Int32) < ((((((DOT q0 (0 : Int32) nn) + (DOT q1 (1 : Int32) nn)) + (DOT q2 (2 : Int32) nn)) + (DOT q3 (3 : Int32) nn)) + (DOT q4 (4 : Int32) nn)) + (DOT q5 (5 : Int32) nn)) then (0 : Int32) else (1 : Int32)))))] [(.int (1 : Int32))])) _
    exact Jvm.RoadKit.retOut X128 hx Bd.returns rfl (Or.inl ⟨rfl, by simp, _, rfl⟩) (hb hby at_237) hr
  · show Q_rm0 Z p0 p1 p2 p3 zc fm h0 n0 _ T128.heap _
    rw [e128]
    unfold Q_rm0
    exact ⟨rfl, N128, K129⟩
theorem own_evR {args : Array Value} {s : State} {a b : Term} {y : Addr} (h : (Jvm.Cond.eq a b).value args s none s [] = some true) (hb : b.eval args s none [] s = some (.ref y)) : a.eval args s none [] s = some (.ref y) := by
  obtain ⟨x, z, h1, h2, h3, h4⟩ := cmp_v (Or.inl h)
  cases h2.symm.trans hb
  have hx : x.isRef = true := h4.2
  have q := gotT (eq_R h1 hb hx rfl) h
  rw [h1, q]
theorem own_len {args : Array Value} {s : State} {t : Term} {a : Addr} {cl : Cell} {ty : FieldType} {n : Int32} (A : Arr s s.heap a cl ty) (ev : t.eval args s none [] s = some (.ref a)) (h : (Term.length t).eval args s none [] s = some (.int n)) : cl.slots.size < 2 ^ 31 ∧ cl.slots.size.toInt32 = n := by
  have ha : s.arrayAt? a = some cl := A.fin (Vm.Alike.refl _)
  have hl := SBG.length_lt ev ha h
  have q := len_f ev ha hl
  exact ⟨hl, by simpa using Option.some.inj (q.symm.trans h)⟩
theorem own_arvU {s : State} {a : Addr} {cl : Cell} {ty : FieldType} {n : Int32} {dv : Value} (hf : Fit s) (A : Arr s s.heap a cl ty) (q : cl.slots.size < 2 ^ 31) (e : cl.slots.size.toInt32 = n) (hn : ¬ n < 0) : Arv s s.heap a cl.cls ty n cl.slots.toList dv := by
  have S : cl.slots.size = n.toNatClampNeg := by rw [← e]; simp only [Int32.toNatClampNeg, len_toInt q]; rfl
  have H : Has cl cl.slots.toList dv := fun j hj => by simp [hj]
  refine ⟨cl, A, rfl, S, hn, H, fun j hj => ?_⟩
  have e1 : (Nat.toInt32 j).toNatClampNeg = j := by simp only [Int32.toNatClampNeg, len_toInt (Nat.lt_trans hj q)]; rfl
  exact elem_fits (j := Nat.toInt32 j) hf A (idx_in hj q) (by rw [e1]; exact H j hj)
set_option maxRecDepth 65536 in
set_option maxHeartbeats 40000000 in
theorem comes_1 {Post : Tables → Env → Array Value → State → Outcome → State → Prop} (hpost : ∀ tb e args s v u, (limb_1_1.after args s (.returned v) u = true ∧ limb_1_2.after args s (.returned v) u = true ∧ True) → ReturnedEndW s (.returned v) u (Jvm.fieldLocs frame_1_writes args s ++ Jvm.arrayLocs frame_1_arrays args s ++ Jvm.staticLocs frame_1_statics s) 24 1152 → Post tb e args s (.returned v) u) :
    ArmFor flags0 classFile x code maxLocals ret World_1 tables_1 room_1 Calls_1 rest_1 Pre_1 Post := by
  intro l hfl _ _ p e ha hc hk s m args below hf hA hF happ hP
  obtain ⟨hcalls, hrest, hpre⟩ := hP
  obtain ⟨-, -, -, hnamed, -, -, -, hat⟩ := (Spec.applies_iff hf).mp happ
  obtain ⟨hg, hn⟩ := and_e (Cond.before_iff.mp (show (Jvm.Cond.and given_1 narrow_1).before args s = true from hpre))
  obtain ⟨gg1, gg2⟩ := and_e hg
  obtain ⟨gg3, gg4⟩ := and_e gg2
  obtain ⟨gg5, gg6⟩ := and_e gg4
  obtain ⟨gg7, gg8⟩ := and_e gg6
  obtain ⟨w0, w1, w2, w3, rfl⟩ : ∃ w0 w1 w2 w3 : Value, args = #[w0, w1, w2, w3] := by
    have hs : args.size = 4 := by simpa [Cond.value, given_1] using gg1
    obtain ⟨L⟩ := args
    match L, hs with
    | [w0, w1, w2, w3], _ => exact ⟨w0, w1, w2, w3, rfl⟩
  have hw := fun d (hd : d ∈ tables_1) => atoms_spec (ws := Jvm.Cond.code x code maxLocals ret :: tables_1) hat d (List.mem_cons_of_mem _ hd)
  have hfit : Fit s := fun {y c} hc i hi => by
    obtain ⟨ha, rfl⟩ := Array.getElem?_eq_some_iff.mp hc
    have q := List.all_eq_true.mp ((Array.all_eq_true_iff_forall_mem.mp hF) _ (Array.getElem_mem ha)) i (List.mem_range.mpr hi)
    simpa [Array.getElem?_eq_getElem hi] using q
  obtain ⟨hsets, hown0⟩ := atoms_of _ (rest_1_c_eq ▸ (show rest_1_c.before _ s = true from hrest))
  have hr0 := Cond.before_iff.mp hown0
  obtain ⟨i0, ei0⟩ := is_v gg3
  obtain rfl : w0 = (.int i0) := Option.some.inj ei0
  obtain ⟨i1, ei1⟩ := is_v gg5
  obtain rfl : w1 = (.int i1) := Option.some.inj ei1
  obtain ⟨i2, ei2⟩ := is_v gg7
  obtain rfl : w2 = (.int i2) := Option.some.inj ei2
  obtain ⟨i3, ei3⟩ := is_v gg8
  obtain rfl : w3 = (.int i3) := Option.some.inj ei3
  obtain ⟨zc, evz⟩ := is_v (Cond.before_iff.mp (hsets _ (List.mem_of_getElem? (i := 1) rfl)))
  have SZ : Sta s s.heap "java/lang/String" "COMPACT_STRINGS" "Z" (.int zc) := Sta.start evz (Or.inl (hsets _ (List.mem_of_getElem? (i := 0) rfl)))
  have PZ : ¬ (zc = (0 : Int32)) := gotF (Jvm.Cond.eq_ints evz rfl) (not_v (Cond.before_iff.mp (hsets _ (List.mem_of_getElem? (i := 2) rfl))))
  obtain ⟨fm, evf, RF⟩ := isR_v (Cond.before_iff.mp (hsets _ (List.mem_of_getElem? (i := 8) rfl)))
  have SF : Sta s s.heap "jdk/internal/util/Preconditions" "SIOOBE_FORMATTER" "Ljava/util/function/BiFunction;" fm := Sta.start evf (Or.inl (hsets _ (List.mem_of_getElem? (i := 7) rfl)))
  have SA : Sta s s.heap "java/lang/StringUTF16" "$assertionsDisabled" "Z" (.int (1 : Int32)) := Sta.start (own_eqI (Cond.before_iff.mp (hsets _ (List.mem_of_getElem? (i := 12) rfl))) rfl) (Or.inl (hsets _ (List.mem_of_getElem? (i := 11) rfl)))
  have SH : Sta s s.heap "java/lang/StringUTF16" "HI_BYTE_SHIFT" "I" (.int (0 : Int32)) := Sta.start (own_eqI (Cond.before_iff.mp (hsets _ (List.mem_of_getElem? (i := 15) rfl))) rfl) (Or.inl (hsets _ (List.mem_of_getElem? (i := 14) rfl)))
  have SL : Sta s s.heap "java/lang/StringUTF16" "LO_BYTE_SHIFT" "I" (.int (8 : Int32)) := Sta.start (own_eqI (Cond.before_iff.mp (hsets _ (List.mem_of_getElem? (i := 18) rfl))) rfl) (Or.inl (hsets _ (List.mem_of_getElem? (i := 17) rfl)))
  obtain ⟨n, o, h1, h2, h3, _, L, rfl, hQ, CHX, hq⟩ := rm0 l s _ hw tables_1 i0 i1 i2 i3 zc fm s.heap s.heap.size (Old.start s) SZ PZ SF RF SA SH SL p e ha hc hk s m _ below hf ((Spec.applies_iff_loose hf).mp happ).1 ⟨rfl, State.Warmed39.refl s, rfl, CHv.start (own_EW hw) (fun p hp => hcalls.1 p hp) (hsets _ (List.mem_of_getElem? (i := 2) rfl)) (hwk hw 21 rfl) (hwk hw 7 rfl), fun x hx => nomatch hx⟩ trivial
  unfold Q_rm0 at hQ
  obtain ⟨rfl, N, -⟩ := hQ
  refine ⟨n, _, h1, h2, h3, hpost _ _ _ _ _ _ ⟨Cond.after_iff.mpr rfl, Cond.after_iff.mpr (eq_i res_at (Term.int_eval (1)) rfl), trivial⟩ ⟨hq.1, hq.2.1, hq.2.2.1, (hq.2.2.2.sift fun y hy => Or.inr (N y hy)).mono (by decide) (by decide)⟩⟩
theorem main_1_1 : Claimed_1_1 := comes_1 fun _ _ _ _ _ _ h hF => ⟨h.1, hF⟩
theorem main_1_2 : Claimed_1_2 := comes_1 fun _ _ _ _ _ _ h hF => ⟨h.2.1, hF⟩
end Jvm.Pilot.@@N@@
namespace Jvm.Pilot.@@N@@
open Jvm Jvm.ClassFile Sem Op Lib Jvm.Free Jvm.Stand Jvm.Pilot.@@N@@.Jvm.D
/-! MADE BY PROGRAM (witnessworld.py) out of the Statement's table words and the real class files: 21 classes; the members and pool entries that the words name. The judged class is class 1, her method 1. -/
namespace start1
open Jvm.ClassFile
def u (s : String) : CpInfo := .utf8 (stringToUtf16 s)
/-- a pool by its gaps: so many unusable entries, then the entry; so many at the end -/
def gap : Nat → List CpInfo → List CpInfo
  | 0, r => r
  | n + 1, r => .unusable :: gap n r
def poolList (es : List (Nat × CpInfo)) (last : Nat) : List CpInfo := es.foldr (fun e r => gap e.1 (e.2 :: r)) (gap last [])
def pool (es : List (Nat × CpInfo)) (last : Nat) : Array CpInfo := ⟨poolList es last⟩
def fileOf (pool : Array CpInfo) (this : Nat) (attrs : Array Attribute := #[]) (ms : Array MethodInfo := #[]) (fl : Nat := 33) (sup : Nat := 0) (ifs : Array Nat := #[]) (fds : Array FieldInfo := #[]) : ClassFile where
  minorVersion := 0
  majorVersion := 65
  constantPool := pool
  accessFlags := fl
  thisClass := this
  superClass := sup
  interfaces := ifs
  fields := fds
  methods := ms
  attributes := attrs
def plain (name : String) (sup : Option ClassId) : Class where
  name := name
  kind := .ordinary
  loader := none
  accessFlags := 33
  super := sup
  interfaces := #[]
  cf := none
  fields := #[]
  methods := #[]
  instanceTypes := #[]
  staticTypes := #[]
  resolved := #[]
  callSites := []
  init := .initialized
  statics := none
  mirror := none

def pool0 : Array CpInfo := pool [(5, u "<init>"), (0, u "()V"), (1, .class_ 10), (1, u "java/lang/Object")] 113

def k0c0 : Code := { maxStack := 0, maxLocals := 1, code := object_method_1_code, exceptionTable := #[], attributes := #[] }
def k0m0 : Method := { name := "<init>", desc := "()V", sig := { parameters := [], returnType := none }, accessFlags := 1, code := some k0c0 }
/-- java/lang/Object -/
def k0 : Class := { plain "java/lang/Object" none with
  accessFlags := 33
  interfaces := #[]
  cf := some (fileOf pool0 8 #[] #[{ accessFlags := 1, nameIndex := 5, descriptorIndex := 6, attributes := #[] }] 33 0 #[] #[])
  fields := #[]
  methods := #[k0m0]
  instanceTypes := #[]
  staticTypes := #[]
  resolved := Array.replicate 124 none
  statics := none }

def pool1 : Array CpInfo := pool [(2, .class_ 4), (1, u "java/lang/Object"), (0, u "<init>"), (0, u "()V"), (0, .integer 2147483647), (0, .integer 65535), (0, .methodref 10 11), (0, .class_ 12), (0, .nameAndType 13 14), (0, u "com/example/vestwright/vestwright/InputTextIsPlainDecimalPinLaw"), (0, u "make"), (0, u "(ICCCCCC)Ljava/lang/String;"), (0, .methodref 10 16), (0, .nameAndType 17 18), (0, u "bad"), (0, u "(CII)Z"), (0, .methodref 10 20), (0, .nameAndType 21 22), (0, u "dot"), (0, u "(CII)I"), (0, .methodref 24 25), (0, .class_ 26), (0, .nameAndType 27 28), (0, u "com/example/vestwright/vestwright/InputText"), (0, u "isPlainDecimal"), (0, u "(Ljava/lang/String;)Z"), (0, .methodref 10 30), (0, .nameAndType 31 32), (0, u "digit"), (0, u "(C)Z"), (0, .class_ 34), (0, u "java/lang/String"), (0, .methodref 33 36), (0, .nameAndType 5 37), (0, u "([C)V"), (2, u "law"), (0, u "(IIII)Z")] 3

def k1m0 : Method := { name := "<init>", desc := "()V", sig := { parameters := [], returnType := none }, accessFlags := 1, code := none }
def k1c1 : Code := { maxStack := 7, maxLocals := 15, code := code, exceptionTable := #[], attributes := #[] }
def k1m1 : Method := { name := "law", desc := "(IIII)Z", sig := { parameters := [.int, .int, .int, .int], returnType := some .boolean }, accessFlags := 9, code := some k1c1 }
def k1c2 : Code := { maxStack := 2, maxLocals := 1, code := method_3_code, exceptionTable := #[], attributes := #[] }
def k1m2 : Method := { name := "digit", desc := "(C)Z", sig := { parameters := [.char], returnType := some .boolean }, accessFlags := 10, code := some k1c2 }
def k1c3 : Code := { maxStack := 3, maxLocals := 3, code := method_4_code, exceptionTable := #[], attributes := #[] }
def k1m3 : Method := { name := "bad", desc := "(CII)Z", sig := { parameters := [.char, .int, .int], returnType := some .boolean }, accessFlags := 10, code := some k1c3 }
def k1c4 : Code := { maxStack := 2, maxLocals := 3, code := method_5_code, exceptionTable := #[], attributes := #[] }
def k1m4 : Method := { name := "dot", desc := "(CII)I", sig := { parameters := [.char, .int, .int], returnType := some .int }, accessFlags := 10, code := some k1c4 }
def k1c5 : Code := { maxStack := 6, maxLocals := 7, code := method_6_code, exceptionTable := #[], attributes := #[] }
def k1m5 : Method := { name := "make", desc := "(ICCCCCC)Ljava/lang/String;", sig := { parameters := [.int, .char, .char, .char, .char, .char, .char], returnType := some (.object "java/lang/String") }, accessFlags := 10, code := some k1c5 }
/-- com/example/vestwright/vestwright/InputTextIsPlainDecimalPinLaw -/
def k1 : Class := { plain "com/example/vestwright/vestwright/InputTextIsPlainDecimalPinLaw" (some 0) with
  accessFlags := 49
  interfaces := #[]
  cf := some (fileOf pool1 10 #[] #[{ accessFlags := 1, nameIndex := 5, descriptorIndex := 6, attributes := #[] }, { accessFlags := 9, nameIndex := 40, descriptorIndex := 41, attributes := #[] }, { accessFlags := 10, nameIndex := 31, descriptorIndex := 32, attributes := #[] }, { accessFlags := 10, nameIndex := 17, descriptorIndex := 18, attributes := #[] }, { accessFlags := 10, nameIndex := 21, descriptorIndex := 22, attributes := #[] }, { accessFlags := 10, nameIndex := 13, descriptorIndex := 14, attributes := #[] }] 49 2 #[] #[])
  fields := #[]
  methods := #[k1m0, k1m1, k1m2, k1m3, k1m4, k1m5]
  instanceTypes := #[]
  staticTypes := #[]
  resolved := Array.replicate 45 none
  statics := none }

def pool2 : Array CpInfo := pool [(1, .class_ 2), (0, u "java/io/Serializable"), (0, .class_ 4), (0, u "java/lang/Object")] 2

/-- java/io/Serializable -/
def k2 : Class := { plain "java/io/Serializable" (some 0) with
  accessFlags := 1537
  interfaces := #[]
  cf := some (fileOf pool2 1 #[] #[] 1537 3 #[] #[])
  fields := #[]
  methods := #[]
  instanceTypes := #[]
  staticTypes := #[]
  resolved := Array.replicate 7 none
  statics := none }

def pool3 : Array CpInfo := pool [(1, .class_ 2), (0, u "java/lang/Comparable"), (0, .class_ 4), (0, u "java/lang/Object")] 7

/-- java/lang/Comparable -/
def k3 : Class := { plain "java/lang/Comparable" (some 0) with
  accessFlags := 1537
  interfaces := #[]
  cf := some (fileOf pool3 1 #[] #[] 1537 3 #[] #[])
  fields := #[]
  methods := #[]
  instanceTypes := #[]
  staticTypes := #[]
  resolved := Array.replicate 12 none
  statics := none }

def pool4 : Array CpInfo := pool [(2, .class_ 4), (1, u "java/lang/CharSequence"), (42, .class_ 48), (0, u "java/lang/CharSequence$1CodePointIterator"), (10, .class_ 60), (0, u "java/lang/CharSequence$1CharIterator"), (5, .class_ 67), (0, u "java/lang/Object")] 63

/-- java/lang/CharSequence -/
def k4 : Class := { plain "java/lang/CharSequence" (some 0) with
  accessFlags := 1537
  interfaces := #[]
  cf := some (fileOf pool4 2 #[.nestMembers #[47, 59]] #[] 1537 66 #[] #[])
  fields := #[]
  methods := #[]
  instanceTypes := #[]
  staticTypes := #[]
  resolved := Array.replicate 131 none
  statics := none }

def pool5 : Array CpInfo := pool [(1, .class_ 2), (0, u "java/lang/constant/Constable"), (0, .class_ 4), (0, u "java/lang/Object")] 6

/-- java/lang/constant/Constable -/
def k5 : Class := { plain "java/lang/constant/Constable" (some 0) with
  accessFlags := 1537
  interfaces := #[]
  cf := some (fileOf pool5 1 #[] #[] 1537 3 #[] #[])
  fields := #[]
  methods := #[]
  instanceTypes := #[]
  staticTypes := #[]
  resolved := Array.replicate 11 none
  statics := none }

def pool6 : Array CpInfo := pool [(1, .class_ 2), (0, u "java/lang/constant/ConstantDesc"), (0, .class_ 4), (0, u "java/lang/Object")] 32

/-- java/lang/constant/ConstantDesc -/
def k6 : Class := { plain "java/lang/constant/ConstantDesc" (some 0) with
  accessFlags := 1537
  interfaces := #[]
  cf := some (fileOf pool6 1 #[] #[] 1537 3 #[] #[])
  fields := #[]
  methods := #[]
  instanceTypes := #[]
  staticTypes := #[]
  resolved := Array.replicate 37 none
  statics := none }

def pool7 : Array CpInfo := pool [(1, .methodref 2 3), (0, .class_ 4), (0, .nameAndType 5 6), (0, u "java/lang/Object"), (0, u "<init>"), (0, u "()V"), (0, .string 8), (0, u ""), (0, .fieldref 10 11), (0, .class_ 12), (0, .nameAndType 13 14), (0, u "java/lang/String"), (0, u "value"), (0, u "[B"), (0, .fieldref 10 16), (0, .nameAndType 17 18), (0, u "coder"), (0, u "B"), (2, u "hash"), (0, u "I"), (2, u "hashIsZero"), (0, u "Z"), (0, .methodref 10 28), (0, .nameAndType 5 29), (0, u "([CIILjava/lang/Void;)V"), (8, .fieldref 10 39), (0, .nameAndType 40 26), (0, u "COMPACT_STRINGS"), (1, .class_ 44), (1, u "java/lang/StringUTF16"), (0, u "compress"), (1, .methodref 42 48), (0, .nameAndType 49 50), (0, u "coderFromArrayLen"), (0, u "([BI)B"), (56, .class_ 109), (1, u "java/lang/StringLatin1"), (32, u "()Z"), (34, .methodref 42 178), (0, .nameAndType 45 179), (0, u "([CII)[B"), (154, u "()I"), (0, .methodref 10 336), (0, .nameAndType 17 337), (0, u "()B"), (25, u "([BI)C"), (27, u "(II)V"), (35, u "(I)C"), (64, .methodref 10 493), (0, .nameAndType 494 142), (0, u "isLatin1"), (0, .methodref 107 496), (0, .nameAndType 497 363), (0, u "charAt"), (0, .methodref 42 496), (2, u "checkIndex"), (3, .methodref 10 506), (0, .nameAndType 507 334), (0, u "length"), (5, u "checkFromToIndex"), (9, u "checkBoundsBeginEnd"), (0, u "(III)V"), (50, .class_ 576), (0, u "java/lang/CharSequence"), (22, u "CASE_INSENSITIVE_ORDER"), (0, u "Ljava/util/Comparator;"), (32, .methodref 10 634), (0, .nameAndType 635 636), (0, u "indexOf"), (0, u "(II)I"), (0, .methodref 107 638), (0, .nameAndType 635 639), (0, u "([BIII)I"), (0, .methodref 42 638), (124, u "(I)I"), (244, u "([C)V"), (42, .fieldref 1054 1055), (0, .class_ 1056), (0, .nameAndType 1057 1058), (0, u "jdk/internal/util/Preconditions"), (0, u "SIOOBE_FORMATTER"), (0, u "Ljava/util/function/BiFunction;"), (0, .methodref 1054 1060), (0, .nameAndType 501 1061), (0, u "(IILjava/util/function/BiFunction;)I"), (0, .methodref 1054 1063), (0, .nameAndType 513 1064), (0, u "(IIILjava/util/function/BiFunction;)I"), (36, u "serialPersistentFields"), (0, u "[Ljava/io/ObjectStreamField;"), (0, .class_ 1104), (0, u "java/lang/String$CaseInsensitiveComparator"), (1, .class_ 1107), (0, u "java/io/Serializable"), (0, .class_ 1109), (0, u "java/lang/Comparable"), (0, .class_ 1111), (0, u "java/lang/constant/Constable"), (0, .class_ 1113), (0, u "java/lang/constant/ConstantDesc"), (2, u "serialVersionUID"), (0, u "J"), (3, u "REPL"), (0, u "C"), (2, u "LATIN1"), (1, u "UTF16")] 323

def k7m0 : Method := { name := "<init>", desc := "()V", sig := { parameters := [], returnType := none }, accessFlags := 1, code := none }
def k7c1 : Code := { maxStack := 5, maxLocals := 2, code := jdk_42_method_3_code, exceptionTable := #[], attributes := #[] }
def k7m1 : Method := { name := "<init>", desc := "([C)V", sig := { parameters := [(.array .char)], returnType := none }, accessFlags := 1, code := some k7c1 }
def k7c2 : Code := { maxStack := 2, maxLocals := 1, code := jdk_42_method_54_code, exceptionTable := #[], attributes := #[] }
def k7m2 : Method := { name := "length", desc := "()I", sig := { parameters := [], returnType := some .int }, accessFlags := 1, code := some k7c2 }
def k7c3 : Code := { maxStack := 2, maxLocals := 2, code := jdk_42_method_56_code, exceptionTable := #[], attributes := #[] }
def k7m3 : Method := { name := "charAt", desc := "(I)C", sig := { parameters := [.int], returnType := some .char }, accessFlags := 1, code := some k7c3 }
def k7c4 : Code := { maxStack := 3, maxLocals := 2, code := jdk_42_method_79_code, exceptionTable := #[], attributes := #[] }
def k7m4 : Method := { name := "indexOf", desc := "(I)I", sig := { parameters := [.int], returnType := some .int }, accessFlags := 1, code := some k7c4 }
def k7c5 : Code := { maxStack := 4, maxLocals := 3, code := jdk_42_method_80_code, exceptionTable := #[], attributes := #[] }
def k7m5 : Method := { name := "indexOf", desc := "(II)I", sig := { parameters := [.int, .int], returnType := some .int }, accessFlags := 1, code := some k7c5 }
def k7c6 : Code := { maxStack := 4, maxLocals := 6, code := jdk_42_method_149_code, exceptionTable := #[], attributes := #[] }
def k7m6 : Method := { name := "<init>", desc := "([CIILjava/lang/Void;)V", sig := { parameters := [(.array .char), .int, .int, (.object "java/lang/Void")], returnType := none }, accessFlags := 2, code := some k7c6 }
def k7c7 : Code := { maxStack := 1, maxLocals := 1, code := jdk_42_method_152_code, exceptionTable := #[], attributes := #[] }
def k7m7 : Method := { name := "coder", desc := "()B", sig := { parameters := [], returnType := some .byte }, accessFlags := 0, code := some k7c7 }
def k7c8 : Code := { maxStack := 1, maxLocals := 1, code := jdk_42_method_154_code, exceptionTable := #[], attributes := #[] }
def k7m8 : Method := { name := "isLatin1", desc := "()Z", sig := { parameters := [], returnType := some .boolean }, accessFlags := 0, code := some k7c8 }
def k7c9 : Code := { maxStack := 3, maxLocals := 2, code := jdk_42_method_155_code, exceptionTable := #[], attributes := #[] }
def k7m9 : Method := { name := "checkIndex", desc := "(II)V", sig := { parameters := [.int, .int], returnType := none }, accessFlags := 8, code := some k7c9 }
def k7c10 : Code := { maxStack := 4, maxLocals := 3, code := jdk_42_method_158_code, exceptionTable := #[], attributes := #[] }
def k7m10 : Method := { name := "checkBoundsBeginEnd", desc := "(III)V", sig := { parameters := [.int, .int, .int], returnType := none }, accessFlags := 8, code := some k7c10 }
/-- java/lang/String -/
def k7 : Class := { plain "java/lang/String" (some 0) with
  accessFlags := 49
  interfaces := #[2, 3, 4, 5, 6]
  cf := some (fileOf pool7 10 #[.nestMembers #[1103]] #[{ accessFlags := 1, nameIndex := 5, descriptorIndex := 6, attributes := #[] }, { accessFlags := 1, nameIndex := 5, descriptorIndex := 1010, attributes := #[] }, { accessFlags := 1, nameIndex := 507, descriptorIndex := 334, attributes := #[] }, { accessFlags := 1, nameIndex := 497, descriptorIndex := 427, attributes := #[] }, { accessFlags := 1, nameIndex := 635, descriptorIndex := 765, attributes := #[] }, { accessFlags := 1, nameIndex := 635, descriptorIndex := 636, attributes := #[] }, { accessFlags := 2, nameIndex := 5, descriptorIndex := 29, attributes := #[] }, { accessFlags := 0, nameIndex := 17, descriptorIndex := 337, attributes := #[] }, { accessFlags := 0, nameIndex := 494, descriptorIndex := 142, attributes := #[] }, { accessFlags := 8, nameIndex := 501, descriptorIndex := 391, attributes := #[] }, { accessFlags := 8, nameIndex := 523, descriptorIndex := 524, attributes := #[] }] 49 2 #[1106, 1108, 575, 1110, 1112] #[{ accessFlags := 18, nameIndex := 13, descriptorIndex := 14, attributes := #[] }, { accessFlags := 18, nameIndex := 17, descriptorIndex := 18, attributes := #[] }, { accessFlags := 2, nameIndex := 21, descriptorIndex := 22, attributes := #[] }, { accessFlags := 2, nameIndex := 25, descriptorIndex := 26, attributes := #[] }, { accessFlags := 26, nameIndex := 1116, descriptorIndex := 1117, attributes := #[] }, { accessFlags := 24, nameIndex := 40, descriptorIndex := 26, attributes := #[] }, { accessFlags := 26, nameIndex := 1101, descriptorIndex := 1102, attributes := #[] }, { accessFlags := 26, nameIndex := 1121, descriptorIndex := 1122, attributes := #[] }, { accessFlags := 25, nameIndex := 599, descriptorIndex := 600, attributes := #[] }, { accessFlags := 24, nameIndex := 1125, descriptorIndex := 18, attributes := #[] }, { accessFlags := 24, nameIndex := 1127, descriptorIndex := 18, attributes := #[] }])
  fields := #[{ name := "value", type := (.array .byte), accessFlags := 18, slot := 0, constantValue := 0 }, { name := "coder", type := .byte, accessFlags := 18, slot := 1, constantValue := 0 }, { name := "hash", type := .int, accessFlags := 2, slot := 2, constantValue := 0 }, { name := "hashIsZero", type := .boolean, accessFlags := 2, slot := 3, constantValue := 0 }, { name := "serialVersionUID", type := .long, accessFlags := 26, slot := 0, constantValue := 0 }, { name := "COMPACT_STRINGS", type := .boolean, accessFlags := 24, slot := 1, constantValue := 0 }, { name := "serialPersistentFields", type := (.array (.object "java/io/ObjectStreamField")), accessFlags := 26, slot := 2, constantValue := 0 }, { name := "REPL", type := .char, accessFlags := 26, slot := 3, constantValue := 0 }, { name := "CASE_INSENSITIVE_ORDER", type := (.object "java/util/Comparator"), accessFlags := 25, slot := 4, constantValue := 0 }, { name := "LATIN1", type := .byte, accessFlags := 24, slot := 5, constantValue := 0 }, { name := "UTF16", type := .byte, accessFlags := 24, slot := 6, constantValue := 0 }]
  methods := #[k7m0, k7m1, k7m2, k7m3, k7m4, k7m5, k7m6, k7m7, k7m8, k7m9, k7m10]
  instanceTypes := #[(.array .byte), .byte, .int, .boolean]
  staticTypes := #[.long, .boolean, (.array (.object "java/io/ObjectStreamField")), .char, (.object "java/util/Comparator"), .byte, .byte]
  resolved := Array.replicate 1451 none
  statics := some 0 }

def pool8 : Array CpInfo := pool [(2, .class_ 4), (1, u "java/lang/Object"), (0, u "<init>"), (0, u "()V"), (41, u "()I"), (1, .class_ 52), (1, u "com/example/vestwright/vestwright/InputText"), (18, .class_ 73), (1, u "java/lang/String"), (1, u "(Ljava/lang/String;)Z"), (20, .methodref 71 97), (0, .nameAndType 98 48), (0, u "length"), (0, .methodref 71 100), (0, .nameAndType 101 102), (0, u "charAt"), (0, u "(I)C"), (19, u "YEAR"), (0, u "Ljava/util/regex/Pattern;"), (52, u "isPlainDecimal"), (3, .methodref 71 181), (0, .nameAndType 182 183), (0, u "indexOf"), (0, u "(I)I"), (20, .methodref 50 205), (0, .nameAndType 206 207), (0, u "allDigits"), (0, u "(Ljava/lang/String;II)Z"), (126, u "BYTE_ORDER_MARK"), (0, u "Ljava/lang/String;"), (1, u "NOT_UTF8"), (0, u "MIN_YEAR"), (0, u "I"), (1, u "MAX_YEAR"), (1, u "DATE_LENGTH"), (1, u "YEAR_DIGITS"), (1, u "WHOLE_DIGITS"), (1, u "QUOTED_LENGTH"), (1, u "FORMULA_STARTS")] 82

def k8m0 : Method := { name := "<init>", desc := "()V", sig := { parameters := [], returnType := none }, accessFlags := 2, code := none }
def k8c1 : Code := { maxStack := 3, maxLocals := 2, code := prog_12_method_14_code, exceptionTable := #[], attributes := #[] }
def k8m1 : Method := { name := "isPlainDecimal", desc := "(Ljava/lang/String;)Z", sig := { parameters := [(.object "java/lang/String")], returnType := some .boolean }, accessFlags := 8, code := some k8c1 }
def k8c2 : Code := { maxStack := 2, maxLocals := 5, code := prog_12_method_15_code, exceptionTable := #[], attributes := #[] }
def k8m2 : Method := { name := "allDigits", desc := "(Ljava/lang/String;II)Z", sig := { parameters := [(.object "java/lang/String"), .int, .int], returnType := some .boolean }, accessFlags := 10, code := some k8c2 }
/-- com/example/vestwright/vestwright/InputText -/
def k8 : Class := { plain "com/example/vestwright/vestwright/InputText" (some 0) with
  accessFlags := 48
  interfaces := #[]
  cf := some (fileOf pool8 50 #[] #[{ accessFlags := 2, nameIndex := 5, descriptorIndex := 6, attributes := #[] }, { accessFlags := 8, nameIndex := 176, descriptorIndex := 75, attributes := #[] }, { accessFlags := 10, nameIndex := 206, descriptorIndex := 207, attributes := #[] }] 48 2 #[] #[{ accessFlags := 24, nameIndex := 334, descriptorIndex := 335, attributes := #[] }, { accessFlags := 24, nameIndex := 337, descriptorIndex := 335, attributes := #[] }, { accessFlags := 24, nameIndex := 338, descriptorIndex := 339, attributes := #[] }, { accessFlags := 24, nameIndex := 341, descriptorIndex := 339, attributes := #[] }, { accessFlags := 26, nameIndex := 343, descriptorIndex := 339, attributes := #[] }, { accessFlags := 26, nameIndex := 345, descriptorIndex := 339, attributes := #[] }, { accessFlags := 26, nameIndex := 122, descriptorIndex := 123, attributes := #[] }, { accessFlags := 26, nameIndex := 347, descriptorIndex := 339, attributes := #[] }, { accessFlags := 26, nameIndex := 349, descriptorIndex := 339, attributes := #[] }, { accessFlags := 26, nameIndex := 351, descriptorIndex := 335, attributes := #[] }])
  fields := #[{ name := "BYTE_ORDER_MARK", type := (.object "java/lang/String"), accessFlags := 24, slot := 0, constantValue := 0 }, { name := "NOT_UTF8", type := (.object "java/lang/String"), accessFlags := 24, slot := 1, constantValue := 0 }, { name := "MIN_YEAR", type := .int, accessFlags := 24, slot := 2, constantValue := 0 }, { name := "MAX_YEAR", type := .int, accessFlags := 24, slot := 3, constantValue := 0 }, { name := "DATE_LENGTH", type := .int, accessFlags := 26, slot := 4, constantValue := 0 }, { name := "YEAR_DIGITS", type := .int, accessFlags := 26, slot := 5, constantValue := 0 }, { name := "YEAR", type := (.object "java/util/regex/Pattern"), accessFlags := 26, slot := 6, constantValue := 0 }, { name := "WHOLE_DIGITS", type := .int, accessFlags := 26, slot := 7, constantValue := 0 }, { name := "QUOTED_LENGTH", type := .int, accessFlags := 26, slot := 8, constantValue := 0 }, { name := "FORMULA_STARTS", type := (.object "java/lang/String"), accessFlags := 26, slot := 9, constantValue := 0 }]
  methods := #[k8m0, k8m1, k8m2]
  instanceTypes := #[]
  staticTypes := #[(.object "java/lang/String"), (.object "java/lang/String"), .int, .int, .int, .int, (.object "java/util/regex/Pattern"), .int, .int, (.object "java/lang/String")]
  resolved := Array.replicate 434 none
  statics := none }

def pool9 : Array CpInfo := pool [(1, .class_ 2), (0, u "java/lang/String"), (1, .class_ 6), (1, u "java/lang/Object"), (0, u "<init>"), (0, u "()V"), (0, .methodref 1 10), (0, .nameAndType 11 12), (0, u "checkIndex"), (0, u "(II)V"), (1, .class_ 16), (1, u "java/lang/StringLatin1"), (21, .methodref 39 40), (0, .class_ 41), (0, .nameAndType 42 43), (0, u "java/lang/Math"), (0, u "min"), (0, u "(II)I"), (9, u "([BI)C"), (34, .methodref 14 89), (0, .nameAndType 90 91), (0, u "canEncode"), (0, u "(I)Z"), (0, .methodref 39 93), (0, .nameAndType 94 43), (0, u "max"), (0, .methodref 14 96), (0, .nameAndType 97 98), (0, u "indexOfChar"), (0, u "([BIII)I"), (2, u "indexOf"), (19, u "$assertionsDisabled"), (0, u "Z"), (98, .class_ 223), (1, u "java/lang/StringLatin1$LinesSpliterator"), (28, u "charAt"), (137, .class_ 391), (0, u "java/lang/StringLatin1$CharsSpliterator")] 3

def k9m0 : Method := { name := "<init>", desc := "()V", sig := { parameters := [], returnType := none }, accessFlags := 0, code := none }
def k9c1 : Code := { maxStack := 2, maxLocals := 2, code := jdk_43_method_2_code, exceptionTable := #[], attributes := #[] }
def k9m1 : Method := { name := "charAt", desc := "([BI)C", sig := { parameters := [(.array .byte), .int], returnType := some .char }, accessFlags := 9, code := some k9c1 }
def k9c2 : Code := { maxStack := 2, maxLocals := 1, code := jdk_43_method_4_code, exceptionTable := #[], attributes := #[] }
def k9m2 : Method := { name := "canEncode", desc := "(I)Z", sig := { parameters := [.int], returnType := some .boolean }, accessFlags := 9, code := some k9c2 }
def k9c3 : Code := { maxStack := 4, maxLocals := 4, code := jdk_43_method_22_code, exceptionTable := #[], attributes := #[] }
def k9m3 : Method := { name := "indexOf", desc := "([BIII)I", sig := { parameters := [(.array .byte), .int, .int, .int], returnType := some .int }, accessFlags := 9, code := some k9c3 }
def k9c4 : Code := { maxStack := 2, maxLocals := 6, code := jdk_43_method_23_code, exceptionTable := #[], attributes := #[] }
def k9m4 : Method := { name := "indexOfChar", desc := "([BIII)I", sig := { parameters := [(.array .byte), .int, .int, .int], returnType := some .int }, accessFlags := 10, code := some k9c4 }
/-- java/lang/StringLatin1 -/
def k9 : Class := { plain "java/lang/StringLatin1" (some 0) with
  accessFlags := 48
  interfaces := #[]
  cf := some (fileOf pool9 14 #[.nestMembers #[390, 221]] #[{ accessFlags := 0, nameIndex := 7, descriptorIndex := 8, attributes := #[] }, { accessFlags := 9, nameIndex := 252, descriptorIndex := 53, attributes := #[] }, { accessFlags := 9, nameIndex := 90, descriptorIndex := 91, attributes := #[] }, { accessFlags := 9, nameIndex := 101, descriptorIndex := 98, attributes := #[] }, { accessFlags := 10, nameIndex := 97, descriptorIndex := 98, attributes := #[] }] 48 4 #[] #[{ accessFlags := 4120, nameIndex := 121, descriptorIndex := 122, attributes := #[] }])
  fields := #[{ name := "$assertionsDisabled", type := .boolean, accessFlags := 4120, slot := 0, constantValue := 0 }]
  methods := #[k9m0, k9m1, k9m2, k9m3, k9m4]
  instanceTypes := #[]
  staticTypes := #[.boolean]
  resolved := Array.replicate 395 none
  statics := none }

def pool10 : Array CpInfo := pool [(1, .class_ 2), (0, u "java/lang/Math"), (1, .class_ 6), (1, u "java/lang/Object"), (0, u "<init>"), (0, u "()V"), (89, .class_ 100), (1, u "java/lang/Math$RandomNumberGeneratorHolder"), (71, u "negativeZeroFloatBits"), (0, u "J"), (2, u "negativeZeroDoubleBits"), (21, u "max"), (2, u "min"), (43, u "$assertionsDisabled"), (0, u "Z"), (88, u "(II)I"), (2, u "twoToTheDoubleScaleDown"), (0, u "D"), (4, u "twoToTheDoubleScaleUp"), (9, u "E"), (3, u "PI"), (2, u "TAU"), (2, u "DEGREES_TO_RADIANS"), (0, u "RADIANS_TO_DEGREES")] 94

def k10m0 : Method := { name := "<init>", desc := "()V", sig := { parameters := [], returnType := none }, accessFlags := 2, code := none }
def k10c1 : Code := { maxStack := 2, maxLocals := 2, code := jdk_29_method_65_code, exceptionTable := #[], attributes := #[] }
def k10m1 : Method := { name := "max", desc := "(II)I", sig := { parameters := [.int, .int], returnType := some .int }, accessFlags := 9, code := some k10c1 }
def k10c2 : Code := { maxStack := 2, maxLocals := 2, code := jdk_29_method_69_code, exceptionTable := #[], attributes := #[] }
def k10m2 : Method := { name := "min", desc := "(II)I", sig := { parameters := [.int, .int], returnType := some .int }, accessFlags := 9, code := some k10c2 }
/-- java/lang/Math -/
def k10 : Class := { plain "java/lang/Math" (some 0) with
  accessFlags := 49
  interfaces := #[]
  cf := some (fileOf pool10 1 #[.nestMembers #[98]] #[{ accessFlags := 2, nameIndex := 7, descriptorIndex := 8, attributes := #[] }, { accessFlags := 9, nameIndex := 198, descriptorIndex := 335, attributes := #[] }, { accessFlags := 9, nameIndex := 201, descriptorIndex := 335, attributes := #[] }] 49 4 #[] #[{ accessFlags := 25, nameIndex := 354, descriptorIndex := 339, attributes := #[] }, { accessFlags := 25, nameIndex := 358, descriptorIndex := 339, attributes := #[] }, { accessFlags := 25, nameIndex := 361, descriptorIndex := 339, attributes := #[] }, { accessFlags := 26, nameIndex := 364, descriptorIndex := 339, attributes := #[] }, { accessFlags := 26, nameIndex := 365, descriptorIndex := 339, attributes := #[] }, { accessFlags := 26, nameIndex := 172, descriptorIndex := 173, attributes := #[] }, { accessFlags := 26, nameIndex := 176, descriptorIndex := 173, attributes := #[] }, { accessFlags := 8, nameIndex := 344, descriptorIndex := 339, attributes := #[] }, { accessFlags := 8, nameIndex := 338, descriptorIndex := 339, attributes := #[] }, { accessFlags := 4120, nameIndex := 245, descriptorIndex := 246, attributes := #[] }])
  fields := #[{ name := "E", type := .double, accessFlags := 25, slot := 0, constantValue := 0 }, { name := "PI", type := .double, accessFlags := 25, slot := 1, constantValue := 0 }, { name := "TAU", type := .double, accessFlags := 25, slot := 2, constantValue := 0 }, { name := "DEGREES_TO_RADIANS", type := .double, accessFlags := 26, slot := 3, constantValue := 0 }, { name := "RADIANS_TO_DEGREES", type := .double, accessFlags := 26, slot := 4, constantValue := 0 }, { name := "negativeZeroFloatBits", type := .long, accessFlags := 26, slot := 5, constantValue := 0 }, { name := "negativeZeroDoubleBits", type := .long, accessFlags := 26, slot := 6, constantValue := 0 }, { name := "twoToTheDoubleScaleUp", type := .double, accessFlags := 8, slot := 7, constantValue := 0 }, { name := "twoToTheDoubleScaleDown", type := .double, accessFlags := 8, slot := 8, constantValue := 0 }, { name := "$assertionsDisabled", type := .boolean, accessFlags := 4120, slot := 9, constantValue := 0 }]
  methods := #[k10m0, k10m1, k10m2]
  instanceTypes := #[]
  staticTypes := #[.double, .double, .double, .double, .double, .long, .long, .double, .double, .boolean]
  resolved := Array.replicate 460 none
  statics := none }

def pool11 : Array CpInfo := pool [(3, .class_ 4), (0, u "java/lang/String"), (1, .class_ 8), (1, u "java/lang/Object"), (0, u "<init>"), (0, u "()V"), (0, .methodref 12 13), (0, .class_ 14), (0, .nameAndType 15 16), (0, u "java/lang/StringUTF16"), (0, u "newBytesLength"), (0, u "(I)I"), (3, .integer 1073741823), (23, .fieldref 12 45), (0, .nameAndType 46 47), (0, u "$assertionsDisabled"), (0, u "Z"), (0, .methodref 12 49), (0, .nameAndType 50 51), (0, u "length"), (0, u "([B)I"), (7, .fieldref 12 60), (0, .nameAndType 61 62), (0, u "HI_BYTE_SHIFT"), (0, u "I"), (0, .fieldref 12 64), (0, .nameAndType 65 62), (0, u "LO_BYTE_SHIFT"), (1, .methodref 12 68), (0, .nameAndType 69 70), (0, u "checkIndex"), (0, u "(I[B)V"), (0, .methodref 12 72), (0, .nameAndType 73 74), (0, u "getChar"), (0, u "([BI)C"), (21, .methodref 12 97), (0, .nameAndType 98 99), (0, u "checkBoundsBeginEnd"), (0, u "(II[B)V"), (7, .methodref 12 108), (0, .nameAndType 109 110), (0, u "newBytesFor"), (0, u "(I)[B"), (0, .methodref 12 112), (0, .nameAndType 113 114), (0, u "putChar"), (0, u "([BII)V"), (0, .methodref 12 116), (0, .nameAndType 117 118), (0, u "compress"), (0, u "([CI[BII)I"), (0, .methodref 12 120), (0, .nameAndType 121 122), (0, u "toBytes"), (0, u "([CII)[B"), (60, .methodref 184 185), (0, .class_ 186), (0, .nameAndType 187 188), (0, u "java/lang/Math"), (0, u "min"), (0, u "(II)I"), (35, .methodref 184 225), (0, .nameAndType 226 188), (0, u "max"), (0, .integer 65536), (0, .methodref 12 229), (0, .nameAndType 230 231), (0, u "indexOfChar"), (0, u "([BIII)I"), (9, .methodref 3 242), (0, .nameAndType 98 243), (0, u "(III)V"), (0, .methodref 12 245), (0, .nameAndType 246 231), (0, u "indexOfCharUnsafe"), (14, u "coderFromArrayLen"), (0, u "([BI)B"), (5, u "indexOf"), (100, .class_ 371), (1, u "java/lang/StringUTF16$LinesSpliterator"), (20, u "charAt"), (21, .methodref 3 415), (0, .nameAndType 69 416), (0, u "(II)V"), (13, u "MAX_LENGTH"), (196, .class_ 628), (0, u "java/lang/StringUTF16$CodePointsSpliterator"), (0, .class_ 630), (0, u "java/lang/StringUTF16$CharsSpliterator")] 4

def k11m0 : Method := { name := "<init>", desc := "()V", sig := { parameters := [], returnType := none }, accessFlags := 0, code := none }
def k11c1 : Code := { maxStack := 1, maxLocals := 1, code := jdk_52_method_2_code, exceptionTable := #[], attributes := #[] }
def k11m1 : Method := { name := "newBytesFor", desc := "(I)[B", sig := { parameters := [.int], returnType := some (.array .byte) }, accessFlags := 9, code := some k11c1 }
def k11c2 : Code := { maxStack := 4, maxLocals := 1, code := jdk_52_method_3_code, exceptionTable := #[], attributes := #[] }
def k11m2 : Method := { name := "newBytesLength", desc := "(I)I", sig := { parameters := [.int], returnType := some .int }, accessFlags := 9, code := some k11c2 }
def k11c3 : Code := { maxStack := 4, maxLocals := 3, code := jdk_52_method_4_code, exceptionTable := #[], attributes := #[] }
def k11m3 : Method := { name := "putChar", desc := "([BII)V", sig := { parameters := [(.array .byte), .int, .int], returnType := none }, accessFlags := 8, code := some k11c3 }
def k11c4 : Code := { maxStack := 3, maxLocals := 2, code := jdk_52_method_5_code, exceptionTable := #[], attributes := #[] }
def k11m4 : Method := { name := "getChar", desc := "([BI)C", sig := { parameters := [(.array .byte), .int], returnType := some .char }, accessFlags := 8, code := some k11c4 }
def k11c5 : Code := { maxStack := 2, maxLocals := 1, code := jdk_52_method_6_code, exceptionTable := #[], attributes := #[] }
def k11m5 : Method := { name := "length", desc := "([B)I", sig := { parameters := [(.array .byte)], returnType := some .int }, accessFlags := 9, code := some k11c5 }
def k11c6 : Code := { maxStack := 4, maxLocals := 5, code := jdk_52_method_14_code, exceptionTable := #[], attributes := #[] }
def k11m6 : Method := { name := "toBytes", desc := "([CII)[B", sig := { parameters := [(.array .char), .int, .int], returnType := some (.array .byte) }, accessFlags := 9, code := some k11c6 }
def k11c7 : Code := { maxStack := 2, maxLocals := 2, code := jdk_52_method_15_code, exceptionTable := #[], attributes := #[] }
def k11m7 : Method := { name := "coderFromArrayLen", desc := "([BI)B", sig := { parameters := [(.array .byte), .int], returnType := some .byte }, accessFlags := 8, code := some k11c7 }
def k11c8 : Code := { maxStack := 5, maxLocals := 6, code := jdk_52_method_16_code, exceptionTable := #[], attributes := #[] }
def k11m8 : Method := { name := "compress", desc := "([CII)[B", sig := { parameters := [(.array .char), .int, .int], returnType := some (.array .byte) }, accessFlags := 9, code := some k11c8 }
def k11c9 : Code := { maxStack := 3, maxLocals := 7, code := jdk_52_method_21_code, exceptionTable := #[], attributes := #[] }
def k11m9 : Method := { name := "compress", desc := "([CI[BII)I", sig := { parameters := [(.array .char), .int, (.array .byte), .int, .int], returnType := some .int }, accessFlags := 9, code := some k11c9 }
def k11c10 : Code := { maxStack := 4, maxLocals := 4, code := jdk_52_method_40_code, exceptionTable := #[], attributes := #[] }
def k11m10 : Method := { name := "indexOf", desc := "([BIII)I", sig := { parameters := [(.array .byte), .int, .int, .int], returnType := some .int }, accessFlags := 9, code := some k11c10 }
def k11c11 : Code := { maxStack := 4, maxLocals := 4, code := jdk_52_method_47_code, exceptionTable := #[], attributes := #[] }
def k11m11 : Method := { name := "indexOfChar", desc := "([BIII)I", sig := { parameters := [(.array .byte), .int, .int, .int], returnType := some .int }, accessFlags := 10, code := some k11c11 }
def k11c12 : Code := { maxStack := 2, maxLocals := 5, code := jdk_52_method_48_code, exceptionTable := #[], attributes := #[] }
def k11m12 : Method := { name := "indexOfCharUnsafe", desc := "([BIII)I", sig := { parameters := [(.array .byte), .int, .int, .int], returnType := some .int }, accessFlags := 10, code := some k11c12 }
def k11c13 : Code := { maxStack := 2, maxLocals := 2, code := jdk_52_method_83_code, exceptionTable := #[], attributes := #[] }
def k11m13 : Method := { name := "charAt", desc := "([BI)C", sig := { parameters := [(.array .byte), .int], returnType := some .char }, accessFlags := 9, code := some k11c13 }
def k11c14 : Code := { maxStack := 2, maxLocals := 2, code := jdk_52_method_91_code, exceptionTable := #[], attributes := #[] }
def k11m14 : Method := { name := "checkIndex", desc := "(I[B)V", sig := { parameters := [.int, (.array .byte)], returnType := none }, accessFlags := 9, code := some k11c14 }
def k11c15 : Code := { maxStack := 3, maxLocals := 3, code := jdk_52_method_93_code, exceptionTable := #[], attributes := #[] }
def k11m15 : Method := { name := "checkBoundsBeginEnd", desc := "(II[B)V", sig := { parameters := [.int, .int, (.array .byte)], returnType := none }, accessFlags := 9, code := some k11c15 }
/-- java/lang/StringUTF16 -/
def k11 : Class := { plain "java/lang/StringUTF16" (some 0) with
  accessFlags := 48
  interfaces := #[]
  cf := some (fileOf pool11 12 #[.nestMembers #[627, 629, 369]] #[{ accessFlags := 0, nameIndex := 9, descriptorIndex := 10, attributes := #[] }, { accessFlags := 9, nameIndex := 109, descriptorIndex := 110, attributes := #[] }, { accessFlags := 9, nameIndex := 15, descriptorIndex := 16, attributes := #[] }, { accessFlags := 8, nameIndex := 113, descriptorIndex := 114, attributes := #[] }, { accessFlags := 8, nameIndex := 73, descriptorIndex := 74, attributes := #[] }, { accessFlags := 9, nameIndex := 50, descriptorIndex := 51, attributes := #[] }, { accessFlags := 9, nameIndex := 121, descriptorIndex := 122, attributes := #[] }, { accessFlags := 8, nameIndex := 261, descriptorIndex := 262, attributes := #[] }, { accessFlags := 9, nameIndex := 117, descriptorIndex := 122, attributes := #[] }, { accessFlags := 9, nameIndex := 117, descriptorIndex := 118, attributes := #[] }, { accessFlags := 9, nameIndex := 268, descriptorIndex := 231, attributes := #[] }, { accessFlags := 10, nameIndex := 230, descriptorIndex := 231, attributes := #[] }, { accessFlags := 10, nameIndex := 246, descriptorIndex := 231, attributes := #[] }, { accessFlags := 9, nameIndex := 392, descriptorIndex := 74, attributes := #[] }, { accessFlags := 9, nameIndex := 69, descriptorIndex := 70, attributes := #[] }, { accessFlags := 9, nameIndex := 98, descriptorIndex := 99, attributes := #[] }] 48 6 #[] #[{ accessFlags := 26, nameIndex := 61, descriptorIndex := 62, attributes := #[] }, { accessFlags := 26, nameIndex := 65, descriptorIndex := 62, attributes := #[] }, { accessFlags := 24, nameIndex := 430, descriptorIndex := 62, attributes := #[] }, { accessFlags := 4120, nameIndex := 46, descriptorIndex := 47, attributes := #[] }])
  fields := #[{ name := "HI_BYTE_SHIFT", type := .int, accessFlags := 26, slot := 0, constantValue := 0 }, { name := "LO_BYTE_SHIFT", type := .int, accessFlags := 26, slot := 1, constantValue := 0 }, { name := "MAX_LENGTH", type := .int, accessFlags := 24, slot := 2, constantValue := 0 }, { name := "$assertionsDisabled", type := .boolean, accessFlags := 4120, slot := 3, constantValue := 0 }]
  methods := #[k11m0, k11m1, k11m2, k11m3, k11m4, k11m5, k11m6, k11m7, k11m8, k11m9, k11m10, k11m11, k11m12, k11m13, k11m14, k11m15]
  instanceTypes := #[]
  staticTypes := #[.int, .int, .int, .boolean]
  resolved := Array.replicate 635 none
  statics := some 1 }

def pool12 : Array CpInfo := pool [(2, .class_ 4), (1, u "java/lang/Object"), (0, u "<init>"), (0, u "()V"), (17, .class_ 26), (1, u "jdk/internal/util/Preconditions"), (6, u "checkIndex"), (13, u "checkFromToIndex"), (7, .class_ 56), (0, u "jdk/internal/util/Preconditions$4"), (57, .class_ 115), (0, u "jdk/internal/util/Preconditions$1"), (7, u "SIOOBE_FORMATTER"), (0, u "Ljava/util/function/BiFunction;"), (0, .class_ 126), (0, u "jdk/internal/util/Preconditions$2"), (3, u "AIOOBE_FORMATTER"), (0, .class_ 132), (0, u "jdk/internal/util/Preconditions$3"), (3, u "IOOBE_FORMATTER"), (41, u "(IILjava/util/function/BiFunction;)I"), (4, u "(IIILjava/util/function/BiFunction;)I")] 10

def k12m0 : Method := { name := "<init>", desc := "()V", sig := { parameters := [], returnType := none }, accessFlags := 1, code := none }
def k12c1 : Code := { maxStack := 3, maxLocals := 3, code := jdk_41_method_11_code, exceptionTable := #[], attributes := #[] }
def k12m1 : Method := { name := "checkIndex", desc := "(IILjava/util/function/BiFunction;)I", sig := { parameters := [.int, .int, (.object "java/util/function/BiFunction")], returnType := some .int }, accessFlags := 9, code := some k12c1 }
def k12c2 : Code := { maxStack := 4, maxLocals := 4, code := jdk_41_method_12_code, exceptionTable := #[], attributes := #[] }
def k12m2 : Method := { name := "checkFromToIndex", desc := "(IIILjava/util/function/BiFunction;)I", sig := { parameters := [.int, .int, .int, (.object "java/util/function/BiFunction")], returnType := some .int }, accessFlags := 9, code := some k12c2 }
/-- jdk/internal/util/Preconditions -/
def k12 : Class := { plain "jdk/internal/util/Preconditions" (some 0) with
  accessFlags := 33
  interfaces := #[]
  cf := some (fileOf pool12 24 #[.nestMembers #[55, 131, 125, 114]] #[{ accessFlags := 1, nameIndex := 5, descriptorIndex := 6, attributes := #[] }, { accessFlags := 9, nameIndex := 33, descriptorIndex := 178, attributes := #[] }, { accessFlags := 9, nameIndex := 47, descriptorIndex := 183, attributes := #[] }] 33 2 #[] #[{ accessFlags := 25, nameIndex := 123, descriptorIndex := 124, attributes := #[] }, { accessFlags := 25, nameIndex := 130, descriptorIndex := 124, attributes := #[] }, { accessFlags := 25, nameIndex := 136, descriptorIndex := 124, attributes := #[] }])
  fields := #[{ name := "SIOOBE_FORMATTER", type := (.object "java/util/function/BiFunction"), accessFlags := 25, slot := 0, constantValue := 0 }, { name := "AIOOBE_FORMATTER", type := (.object "java/util/function/BiFunction"), accessFlags := 25, slot := 1, constantValue := 0 }, { name := "IOOBE_FORMATTER", type := (.object "java/util/function/BiFunction"), accessFlags := 25, slot := 2, constantValue := 0 }]
  methods := #[k12m0, k12m1, k12m2]
  instanceTypes := #[]
  staticTypes := #[(.object "java/util/function/BiFunction"), (.object "java/util/function/BiFunction"), (.object "java/util/function/BiFunction")]
  resolved := Array.replicate 194 none
  statics := some 2 }

def pool13 : Array CpInfo := pool [(9, u "<init>"), (6, .class_ 18), (1, u "java/lang/Object"), (0, u "()V"), (1, .class_ 23), (1, u "jdk/internal/util/ArraysSupport"), (0, u "LOG2_ARRAY_LONG_INDEX_SCALE"), (0, u "I"), (2, u "U"), (0, u "Ljdk/internal/misc/Unsafe;"), (8, u "BIG_ENDIAN"), (0, u "Z"), (8, u "LOG2_BYTE_BIT_SIZE"), (4, u "LOG2_ARRAY_INT_INDEX_SCALE"), (54, u "JLA"), (0, u "Ljdk/internal/access/JavaLangAccess;"), (11, u "LOG2_ARRAY_BOOLEAN_INDEX_SCALE"), (9, u "LOG2_ARRAY_BYTE_INDEX_SCALE"), (5, u "LOG2_ARRAY_CHAR_INDEX_SCALE"), (5, u "LOG2_ARRAY_SHORT_INDEX_SCALE"), (18, u "LOG2_ARRAY_FLOAT_INDEX_SCALE"), (24, u "LOG2_ARRAY_DOUBLE_INDEX_SCALE"), (89, u "T_BOOLEAN"), (2, u "T_CHAR"), (1, u "T_FLOAT"), (1, u "T_DOUBLE"), (1, u "T_BYTE"), (1, u "T_SHORT"), (1, u "T_INT"), (1, u "T_LONG"), (1, u "SOFT_MAX_ARRAY_LENGTH")] 83

def k13m0 : Method := { name := "<init>", desc := "()V", sig := { parameters := [], returnType := none }, accessFlags := 2, code := none }
/-- jdk/internal/util/ArraysSupport -/
def k13 : Class := { plain "jdk/internal/util/ArraysSupport" (some 0) with
  accessFlags := 33
  interfaces := #[]
  cf := some (fileOf pool13 21 #[] #[{ accessFlags := 2, nameIndex := 9, descriptorIndex := 19, attributes := #[] }] 33 16 #[] #[{ accessFlags := 24, nameIndex := 28, descriptorIndex := 29, attributes := #[] }, { accessFlags := 26, nameIndex := 38, descriptorIndex := 39, attributes := #[] }, { accessFlags := 25, nameIndex := 121, descriptorIndex := 25, attributes := #[] }, { accessFlags := 25, nameIndex := 131, descriptorIndex := 25, attributes := #[] }, { accessFlags := 25, nameIndex := 137, descriptorIndex := 25, attributes := #[] }, { accessFlags := 25, nameIndex := 143, descriptorIndex := 25, attributes := #[] }, { accessFlags := 25, nameIndex := 53, descriptorIndex := 25, attributes := #[] }, { accessFlags := 25, nameIndex := 24, descriptorIndex := 25, attributes := #[] }, { accessFlags := 25, nameIndex := 162, descriptorIndex := 25, attributes := #[] }, { accessFlags := 25, nameIndex := 187, descriptorIndex := 25, attributes := #[] }, { accessFlags := 26, nameIndex := 48, descriptorIndex := 25, attributes := #[] }, { accessFlags := 25, nameIndex := 277, descriptorIndex := 25, attributes := #[] }, { accessFlags := 25, nameIndex := 280, descriptorIndex := 25, attributes := #[] }, { accessFlags := 25, nameIndex := 282, descriptorIndex := 25, attributes := #[] }, { accessFlags := 25, nameIndex := 284, descriptorIndex := 25, attributes := #[] }, { accessFlags := 25, nameIndex := 286, descriptorIndex := 25, attributes := #[] }, { accessFlags := 25, nameIndex := 288, descriptorIndex := 25, attributes := #[] }, { accessFlags := 25, nameIndex := 290, descriptorIndex := 25, attributes := #[] }, { accessFlags := 25, nameIndex := 292, descriptorIndex := 25, attributes := #[] }, { accessFlags := 26, nameIndex := 108, descriptorIndex := 109, attributes := #[] }, { accessFlags := 25, nameIndex := 294, descriptorIndex := 25, attributes := #[] }])
  fields := #[{ name := "U", type := (.object "jdk/internal/misc/Unsafe"), accessFlags := 24, slot := 0, constantValue := 0 }, { name := "BIG_ENDIAN", type := .boolean, accessFlags := 26, slot := 1, constantValue := 0 }, { name := "LOG2_ARRAY_BOOLEAN_INDEX_SCALE", type := .int, accessFlags := 25, slot := 2, constantValue := 0 }, { name := "LOG2_ARRAY_BYTE_INDEX_SCALE", type := .int, accessFlags := 25, slot := 3, constantValue := 0 }, { name := "LOG2_ARRAY_CHAR_INDEX_SCALE", type := .int, accessFlags := 25, slot := 4, constantValue := 0 }, { name := "LOG2_ARRAY_SHORT_INDEX_SCALE", type := .int, accessFlags := 25, slot := 5, constantValue := 0 }, { name := "LOG2_ARRAY_INT_INDEX_SCALE", type := .int, accessFlags := 25, slot := 6, constantValue := 0 }, { name := "LOG2_ARRAY_LONG_INDEX_SCALE", type := .int, accessFlags := 25, slot := 7, constantValue := 0 }, { name := "LOG2_ARRAY_FLOAT_INDEX_SCALE", type := .int, accessFlags := 25, slot := 8, constantValue := 0 }, { name := "LOG2_ARRAY_DOUBLE_INDEX_SCALE", type := .int, accessFlags := 25, slot := 9, constantValue := 0 }, { name := "LOG2_BYTE_BIT_SIZE", type := .int, accessFlags := 26, slot := 10, constantValue := 0 }, { name := "T_BOOLEAN", type := .int, accessFlags := 25, slot := 11, constantValue := 0 }, { name := "T_CHAR", type := .int, accessFlags := 25, slot := 12, constantValue := 0 }, { name := "T_FLOAT", type := .int, accessFlags := 25, slot := 13, constantValue := 0 }, { name := "T_DOUBLE", type := .int, accessFlags := 25, slot := 14, constantValue := 0 }, { name := "T_BYTE", type := .int, accessFlags := 25, slot := 15, constantValue := 0 }, { name := "T_SHORT", type := .int, accessFlags := 25, slot := 16, constantValue := 0 }, { name := "T_INT", type := .int, accessFlags := 25, slot := 17, constantValue := 0 }, { name := "T_LONG", type := .int, accessFlags := 25, slot := 18, constantValue := 0 }, { name := "JLA", type := (.object "jdk/internal/access/JavaLangAccess"), accessFlags := 26, slot := 19, constantValue := 0 }, { name := "SOFT_MAX_ARRAY_LENGTH", type := .int, accessFlags := 25, slot := 20, constantValue := 0 }]
  methods := #[k13m0]
  instanceTypes := #[]
  staticTypes := #[(.object "jdk/internal/misc/Unsafe"), .boolean, .int, .int, .int, .int, .int, .int, .int, .int, .int, .int, .int, .int, .int, .int, .int, .int, .int, (.object "jdk/internal/access/JavaLangAccess"), .int]
  resolved := Array.replicate 378 none
  statics := none }

def pool14 : Array CpInfo := pool [(1, u "java/lang/Cloneable"), (0, .class_ 1), (0, u "java/lang/Object"), (0, .class_ 3)] 3

/-- java/lang/Cloneable -/
def k14 : Class := { plain "java/lang/Cloneable" (some 0) with
  accessFlags := 1537
  interfaces := #[]
  cf := some (fileOf pool14 2 #[] #[] 1537 4 #[] #[])
  fields := #[]
  methods := #[]
  instanceTypes := #[]
  staticTypes := #[]
  resolved := Array.replicate 8 none
  statics := none }

/-- the primitive byte -/
def k15 : Class := { plain "byte" none with kind := .primitive 'B', accessFlags := 0x411 }
/-- [B -/
def k16 : Class := { plain "[B" (some 0) with kind := .array 15 .byte, interfaces := #[14, 2], accessFlags := 1041 }

/-- the primitive char -/
def k17 : Class := { plain "char" none with kind := .primitive 'C', accessFlags := 0x411 }
/-- [C -/
def k18 : Class := { plain "[C" (some 0) with kind := .array 17 .char, interfaces := #[14, 2], accessFlags := 1041 }

/-- the primitive int -/
def k19 : Class := { plain "int" none with kind := .primitive 'I', accessFlags := 0x411 }
/-- [I -/
def k20 : Class := { plain "[I" (some 0) with kind := .array 19 .int, interfaces := #[14, 2], accessFlags := 1041 }

def heap : Heap := #[{ cls := 7, slots := #[.long 0, .int 1, .null, .int 0, .null, .int 0, .int 0], vm := .statics 7 },
  { cls := 11, slots := #[.int 0, .int 8, .int 0, .int 1], vm := .statics 11 },
  { cls := 12, slots := #[.null, .null, .null], vm := .statics 12 }]
def classes : Array Class := #[k0, k1, k2, k3, k4, k5, k6, k7, k8, k9, k10, k11, k12, k13, k14, k15, k16, k17, k18, k19, k20]
def interned : List (Array UInt16 × Addr) := []
def slotsUsed : Nat := 14
def theMethod : MethodId := ⟨1, 1⟩
def args0 : Array Value := #[.int 3, .int 3014704, .int 49, .int 50]
def aboutOver (below : List Frame) : State where
  vm := { classes := classes, interned := interned.toArray }
  heap := heap
  slotsUsed := slotsUsed
  threads := #[{ frames := .invoking theMethod args0 :: below }]
def below0 : List Frame := [.native { method := ⟨0, 0⟩, args := #[] }]
def about1 : State := aboutOver below0
def p0 : Program := .bare "" "" ""
def e0 : Env := launch0.env 0 0 0
theorem w_frames : about1.frames = Frame.invoking theMethod args0 :: below0 := rfl
set_option maxRecDepth 65536 in
theorem w_args : argsFit about1.vm theMethod args0 = true := by decide +kernel
set_option maxRecDepth 65536 in
theorem w_heap : heapFits about1 = true := by decide +kernel
set_option maxRecDepth 65536 in
theorem w_runnable : about1.curStatus? = some .runnable := by decide +kernel
set_option maxRecDepth 65536 in
theorem w_alone : about1.alone = true := by decide +kernel
set_option maxRecDepth 65536 in
theorem w_named : about1.methodNamed? x = some theMethod := by decide +kernel
set_option maxRecDepth 65536 in
theorem w_hears : about1.hears theMethod below0 = true := by decide +kernel
set_option maxRecDepth 65536 in
theorem w_ripe : about1.ripe theMethod args0 below0 = true := by decide +kernel
theorem w_running : about1.status = .running := rfl
set_option maxRecDepth 65536 in
theorem w_room : about1.hasRoom e0.platform room_1 = true :=
  launch0.hasRoom_least _ room_1 (by decide +kernel) (by decide +kernel) (by decide +kernel) (by decide +kernel) (by decide +kernel) (by decide +kernel)
theorem allAtoms_all (ts : List Jvm.Cond) (a : Array Jvm.Value) (st : Jvm.State) : (allAtoms ts).before a st = ts.all (fun c => c.before a st) := by
  induction ts with
  | nil => rfl
  | cons c t ih =>
    show (Jvm.Cond.and c (allAtoms t)).before a st = _
    rw [Jvm.Cond.before_and, ih, List.all_cons]
def words1 : List Jvm.Cond := Jvm.Cond.code x code maxLocals ret :: tables_1
/-- a 'code' word, met by the world's own term for the bytes: nothing is compared byte by byte -/
theorem code_word {y : MethodName} {bytes : ByteArray} {mx : Nat} {rt : Option FieldType} {a : Array Value} {s : State} {m : MethodId} {meth : Method} {c : Code} (h1 : s.methodNamed? y = some m) (h2 : s.vm.method? m = some meth) (h3 : meth.code = some c) (h4 : c.code = bytes)
    (h5 : (c.maxLocals == mx && c.exceptionTable.isEmpty && decide (c.maxStack ≤ mostOperands) && decide (meth.sig.returnType = rt) && !meth.locks && decide (parseMethodDescriptor y.desc = some meth.sig)) = true) : (Jvm.Cond.code y bytes mx rt).before a s = true := by
  simp only [Bool.and_eq_true, beq_iff_eq, Bool.not_eq_true', decide_eq_true_eq] at h5
  obtain ⟨⟨⟨⟨⟨g1, g2⟩, g3⟩, g4⟩, g5⟩, g6⟩ := h5
  simp [Cond.before, Cond.holds, Cond.value, h1, h2, h3, h4, g1, g2, g3, g4, g5, g6]
def isCode : Jvm.Cond → Bool
  | .code _ _ _ _ => true
  | _ => false
theorem all_split {L : List Jvm.Cond} {P : Jvm.Cond → Bool} (h1 : L.all (fun c => isCode c || P c) = true) (h2 : ∀ c ∈ L.filter isCode, P c = true) : L.all P = true := by
  refine List.all_eq_true.mpr fun c hc => ?_
  have h := List.all_eq_true.mp h1 c hc
  rcases Bool.eq_false_or_eq_true (isCode c) with hi | hi
  · exact h2 c (List.mem_filter.mpr ⟨hc, hi⟩)
  · simpa [hi] using h
set_option maxRecDepth 65536 in
theorem w_c0 : (Jvm.Cond.code x code maxLocals ret).before args0 about1 = true := code_word (m := ⟨1, 1⟩) (meth := k1m1) (c := k1c1) (by decide +kernel) rfl rfl rfl (by decide +kernel)
set_option maxRecDepth 65536 in
theorem w_c1 : (Jvm.Cond.code ({ cls := "com/example/vestwright/vestwright/InputTextIsPlainDecimalPinLaw", name := "make", desc := "(ICCCCCC)Ljava/lang/String;" } : Jvm.MethodName) method_6_code (7 : Nat) (Option.some (Jvm.ClassFile.FieldType.object "java/lang/String"))).before args0 about1 = true := code_word (m := ⟨1, 5⟩) (meth := k1m5) (c := k1c5) (by decide +kernel) rfl rfl rfl (by decide +kernel)
set_option maxRecDepth 65536 in
theorem w_c2 : (Jvm.Cond.code ({ cls := "java/lang/String", name := "<init>", desc := "([C)V" } : Jvm.MethodName) jdk_42_method_3_code (2 : Nat) (Option.none : Option Jvm.ClassFile.FieldType)).before args0 about1 = true := code_word (m := ⟨7, 1⟩) (meth := k7m1) (c := k7c1) (by decide +kernel) rfl rfl rfl (by decide +kernel)
set_option maxRecDepth 65536 in
theorem w_c3 : (Jvm.Cond.code ({ cls := "java/lang/String", name := "<init>", desc := "([CIILjava/lang/Void;)V" } : Jvm.MethodName) jdk_42_method_149_code (6 : Nat) (Option.none : Option Jvm.ClassFile.FieldType)).before args0 about1 = true := code_word (m := ⟨7, 6⟩) (meth := k7m6) (c := k7c6) (by decide +kernel) rfl rfl rfl (by decide +kernel)
set_option maxRecDepth 65536 in
theorem w_c4 : (Jvm.Cond.code ({ cls := "java/lang/Object", name := "<init>", desc := "()V" } : Jvm.MethodName) object_method_1_code (1 : Nat) (Option.none : Option Jvm.ClassFile.FieldType)).before args0 about1 = true := code_word (m := ⟨0, 0⟩) (meth := k0m0) (c := k0c0) (by decide +kernel) rfl rfl rfl (by decide +kernel)
set_option maxRecDepth 65536 in
theorem w_c5 : (Jvm.Cond.code ({ cls := "com/example/vestwright/vestwright/InputTextIsPlainDecimalPinLaw", name := "bad", desc := "(CII)Z" } : Jvm.MethodName) method_4_code (3 : Nat) (Option.some Jvm.ClassFile.FieldType.boolean)).before args0 about1 = true := code_word (m := ⟨1, 3⟩) (meth := k1m3) (c := k1c3) (by decide +kernel) rfl rfl rfl (by decide +kernel)
set_option maxRecDepth 65536 in
theorem w_c6 : (Jvm.Cond.code ({ cls := "com/example/vestwright/vestwright/InputTextIsPlainDecimalPinLaw", name := "dot", desc := "(CII)I" } : Jvm.MethodName) method_5_code (3 : Nat) (Option.some Jvm.ClassFile.FieldType.int)).before args0 about1 = true := code_word (m := ⟨1, 4⟩) (meth := k1m4) (c := k1c4) (by decide +kernel) rfl rfl rfl (by decide +kernel)
set_option maxRecDepth 65536 in
theorem w_c7 : (Jvm.Cond.code ({ cls := "com/example/vestwright/vestwright/InputText", name := "isPlainDecimal", desc := "(Ljava/lang/String;)Z" } : Jvm.MethodName) prog_12_method_14_code (2 : Nat) (Option.some Jvm.ClassFile.FieldType.boolean)).before args0 about1 = true := code_word (m := ⟨8, 1⟩) (meth := k8m1) (c := k8c1) (by decide +kernel) rfl rfl rfl (by decide +kernel)
set_option maxRecDepth 65536 in
theorem w_c8 : (Jvm.Cond.code ({ cls := "java/lang/String", name := "indexOf", desc := "(I)I" } : Jvm.MethodName) jdk_42_method_79_code (2 : Nat) (Option.some Jvm.ClassFile.FieldType.int)).before args0 about1 = true := code_word (m := ⟨7, 4⟩) (meth := k7m4) (c := k7c4) (by decide +kernel) rfl rfl rfl (by decide +kernel)
set_option maxRecDepth 65536 in
theorem w_c9 : (Jvm.Cond.code ({ cls := "java/lang/String", name := "indexOf", desc := "(II)I" } : Jvm.MethodName) jdk_42_method_80_code (3 : Nat) (Option.some Jvm.ClassFile.FieldType.int)).before args0 about1 = true := code_word (m := ⟨7, 5⟩) (meth := k7m5) (c := k7c5) (by decide +kernel) rfl rfl rfl (by decide +kernel)
set_option maxRecDepth 65536 in
theorem w_c10 : (Jvm.Cond.code ({ cls := "java/lang/String", name := "isLatin1", desc := "()Z" } : Jvm.MethodName) jdk_42_method_154_code (1 : Nat) (Option.some Jvm.ClassFile.FieldType.boolean)).before args0 about1 = true := code_word (m := ⟨7, 8⟩) (meth := k7m8) (c := k7c8) (by decide +kernel) rfl rfl rfl (by decide +kernel)
set_option maxRecDepth 65536 in
theorem w_c11 : (Jvm.Cond.code ({ cls := "java/lang/String", name := "length", desc := "()I" } : Jvm.MethodName) jdk_42_method_54_code (1 : Nat) (Option.some Jvm.ClassFile.FieldType.int)).before args0 about1 = true := code_word (m := ⟨7, 2⟩) (meth := k7m2) (c := k7c2) (by decide +kernel) rfl rfl rfl (by decide +kernel)
set_option maxRecDepth 65536 in
theorem w_c12 : (Jvm.Cond.code ({ cls := "java/lang/String", name := "coder", desc := "()B" } : Jvm.MethodName) jdk_42_method_152_code (1 : Nat) (Option.some Jvm.ClassFile.FieldType.byte)).before args0 about1 = true := code_word (m := ⟨7, 7⟩) (meth := k7m7) (c := k7c7) (by decide +kernel) rfl rfl rfl (by decide +kernel)
set_option maxRecDepth 65536 in
theorem w_c13 : (Jvm.Cond.code ({ cls := "java/lang/StringLatin1", name := "indexOf", desc := "([BIII)I" } : Jvm.MethodName) jdk_43_method_22_code (4 : Nat) (Option.some Jvm.ClassFile.FieldType.int)).before args0 about1 = true := code_word (m := ⟨9, 3⟩) (meth := k9m3) (c := k9c3) (by decide +kernel) rfl rfl rfl (by decide +kernel)
set_option maxRecDepth 65536 in
theorem w_c14 : (Jvm.Cond.code ({ cls := "java/lang/StringLatin1", name := "canEncode", desc := "(I)Z" } : Jvm.MethodName) jdk_43_method_4_code (1 : Nat) (Option.some Jvm.ClassFile.FieldType.boolean)).before args0 about1 = true := code_word (m := ⟨9, 2⟩) (meth := k9m2) (c := k9c2) (by decide +kernel) rfl rfl rfl (by decide +kernel)
set_option maxRecDepth 65536 in
theorem w_c15 : (Jvm.Cond.code ({ cls := "java/lang/Math", name := "max", desc := "(II)I" } : Jvm.MethodName) jdk_29_method_65_code (2 : Nat) (Option.some Jvm.ClassFile.FieldType.int)).before args0 about1 = true := code_word (m := ⟨10, 1⟩) (meth := k10m1) (c := k10c1) (by decide +kernel) rfl rfl rfl (by decide +kernel)
set_option maxRecDepth 65536 in
theorem w_c16 : (Jvm.Cond.code ({ cls := "java/lang/Math", name := "min", desc := "(II)I" } : Jvm.MethodName) jdk_29_method_69_code (2 : Nat) (Option.some Jvm.ClassFile.FieldType.int)).before args0 about1 = true := code_word (m := ⟨10, 2⟩) (meth := k10m2) (c := k10c2) (by decide +kernel) rfl rfl rfl (by decide +kernel)
set_option maxRecDepth 65536 in
theorem w_c17 : (Jvm.Cond.code ({ cls := "com/example/vestwright/vestwright/InputText", name := "allDigits", desc := "(Ljava/lang/String;II)Z" } : Jvm.MethodName) prog_12_method_15_code (5 : Nat) (Option.some Jvm.ClassFile.FieldType.boolean)).before args0 about1 = true := code_word (m := ⟨8, 2⟩) (meth := k8m2) (c := k8c2) (by decide +kernel) rfl rfl rfl (by decide +kernel)
set_option maxRecDepth 65536 in
theorem w_c18 : (Jvm.Cond.code ({ cls := "java/lang/StringUTF16", name := "compress", desc := "([CII)[B" } : Jvm.MethodName) jdk_52_method_16_code (6 : Nat) (Option.some (Jvm.ClassFile.FieldType.array Jvm.ClassFile.FieldType.byte))).before args0 about1 = true := code_word (m := ⟨11, 8⟩) (meth := k11m8) (c := k11c8) (by decide +kernel) rfl rfl rfl (by decide +kernel)
set_option maxRecDepth 65536 in
theorem w_c19 : (Jvm.Cond.code ({ cls := "java/lang/StringUTF16", name := "compress", desc := "([CI[BII)I" } : Jvm.MethodName) jdk_52_method_21_code (7 : Nat) (Option.some Jvm.ClassFile.FieldType.int)).before args0 about1 = true := code_word (m := ⟨11, 9⟩) (meth := k11m9) (c := k11c9) (by decide +kernel) rfl rfl rfl (by decide +kernel)
set_option maxRecDepth 65536 in
theorem w_c20 : (Jvm.Cond.code ({ cls := "java/lang/StringUTF16", name := "coderFromArrayLen", desc := "([BI)B" } : Jvm.MethodName) jdk_52_method_15_code (2 : Nat) (Option.some Jvm.ClassFile.FieldType.byte)).before args0 about1 = true := code_word (m := ⟨11, 7⟩) (meth := k11m7) (c := k11c7) (by decide +kernel) rfl rfl rfl (by decide +kernel)
set_option maxRecDepth 65536 in
theorem w_c21 : (Jvm.Cond.code ({ cls := "com/example/vestwright/vestwright/InputTextIsPlainDecimalPinLaw", name := "digit", desc := "(C)Z" } : Jvm.MethodName) method_3_code (1 : Nat) (Option.some Jvm.ClassFile.FieldType.boolean)).before args0 about1 = true := code_word (m := ⟨1, 2⟩) (meth := k1m2) (c := k1c2) (by decide +kernel) rfl rfl rfl (by decide +kernel)
set_option maxRecDepth 65536 in
theorem w_c22 : (Jvm.Cond.code ({ cls := "java/lang/StringLatin1", name := "indexOfChar", desc := "([BIII)I" } : Jvm.MethodName) jdk_43_method_23_code (6 : Nat) (Option.some Jvm.ClassFile.FieldType.int)).before args0 about1 = true := code_word (m := ⟨9, 4⟩) (meth := k9m4) (c := k9c4) (by decide +kernel) rfl rfl rfl (by decide +kernel)
set_option maxRecDepth 65536 in
theorem w_c23 : (Jvm.Cond.code ({ cls := "java/lang/String", name := "charAt", desc := "(I)C" } : Jvm.MethodName) jdk_42_method_56_code (2 : Nat) (Option.some Jvm.ClassFile.FieldType.char)).before args0 about1 = true := code_word (m := ⟨7, 3⟩) (meth := k7m3) (c := k7c3) (by decide +kernel) rfl rfl rfl (by decide +kernel)
set_option maxRecDepth 65536 in
theorem w_c24 : (Jvm.Cond.code ({ cls := "java/lang/StringLatin1", name := "charAt", desc := "([BI)C" } : Jvm.MethodName) jdk_43_method_2_code (2 : Nat) (Option.some Jvm.ClassFile.FieldType.char)).before args0 about1 = true := code_word (m := ⟨9, 1⟩) (meth := k9m1) (c := k9c1) (by decide +kernel) rfl rfl rfl (by decide +kernel)
set_option maxRecDepth 65536 in
theorem w_c25 : (Jvm.Cond.code ({ cls := "java/lang/String", name := "checkIndex", desc := "(II)V" } : Jvm.MethodName) jdk_42_method_155_code (2 : Nat) (Option.none : Option Jvm.ClassFile.FieldType)).before args0 about1 = true := code_word (m := ⟨7, 9⟩) (meth := k7m9) (c := k7c9) (by decide +kernel) rfl rfl rfl (by decide +kernel)
set_option maxRecDepth 65536 in
theorem w_c26 : (Jvm.Cond.code ({ cls := "jdk/internal/util/Preconditions", name := "checkIndex", desc := "(IILjava/util/function/BiFunction;)I" } : Jvm.MethodName) jdk_41_method_11_code (3 : Nat) (Option.some Jvm.ClassFile.FieldType.int)).before args0 about1 = true := code_word (m := ⟨12, 1⟩) (meth := k12m1) (c := k12c1) (by decide +kernel) rfl rfl rfl (by decide +kernel)
set_option maxRecDepth 65536 in
theorem w_c27 : (Jvm.Cond.code ({ cls := "java/lang/StringUTF16", name := "toBytes", desc := "([CII)[B" } : Jvm.MethodName) jdk_52_method_14_code (5 : Nat) (Option.some (Jvm.ClassFile.FieldType.array Jvm.ClassFile.FieldType.byte))).before args0 about1 = true := code_word (m := ⟨11, 6⟩) (meth := k11m6) (c := k11c6) (by decide +kernel) rfl rfl rfl (by decide +kernel)
set_option maxRecDepth 65536 in
theorem w_c28 : (Jvm.Cond.code ({ cls := "java/lang/StringUTF16", name := "newBytesFor", desc := "(I)[B" } : Jvm.MethodName) jdk_52_method_2_code (1 : Nat) (Option.some (Jvm.ClassFile.FieldType.array Jvm.ClassFile.FieldType.byte))).before args0 about1 = true := code_word (m := ⟨11, 1⟩) (meth := k11m1) (c := k11c1) (by decide +kernel) rfl rfl rfl (by decide +kernel)
set_option maxRecDepth 65536 in
theorem w_c29 : (Jvm.Cond.code ({ cls := "java/lang/StringUTF16", name := "newBytesLength", desc := "(I)I" } : Jvm.MethodName) jdk_52_method_3_code (1 : Nat) (Option.some Jvm.ClassFile.FieldType.int)).before args0 about1 = true := code_word (m := ⟨11, 2⟩) (meth := k11m2) (c := k11c2) (by decide +kernel) rfl rfl rfl (by decide +kernel)
set_option maxRecDepth 65536 in
theorem w_c30 : (Jvm.Cond.code ({ cls := "java/lang/StringUTF16", name := "putChar", desc := "([BII)V" } : Jvm.MethodName) jdk_52_method_4_code (3 : Nat) (Option.none : Option Jvm.ClassFile.FieldType)).before args0 about1 = true := code_word (m := ⟨11, 3⟩) (meth := k11m3) (c := k11c3) (by decide +kernel) rfl rfl rfl (by decide +kernel)
set_option maxRecDepth 65536 in
theorem w_c31 : (Jvm.Cond.code ({ cls := "java/lang/StringUTF16", name := "getChar", desc := "([BI)C" } : Jvm.MethodName) jdk_52_method_5_code (2 : Nat) (Option.some Jvm.ClassFile.FieldType.char)).before args0 about1 = true := code_word (m := ⟨11, 4⟩) (meth := k11m4) (c := k11c4) (by decide +kernel) rfl rfl rfl (by decide +kernel)
set_option maxRecDepth 65536 in
theorem w_c32 : (Jvm.Cond.code ({ cls := "java/lang/StringUTF16", name := "indexOf", desc := "([BIII)I" } : Jvm.MethodName) jdk_52_method_40_code (4 : Nat) (Option.some Jvm.ClassFile.FieldType.int)).before args0 about1 = true := code_word (m := ⟨11, 10⟩) (meth := k11m10) (c := k11c10) (by decide +kernel) rfl rfl rfl (by decide +kernel)
set_option maxRecDepth 65536 in
theorem w_c33 : (Jvm.Cond.code ({ cls := "java/lang/StringUTF16", name := "indexOfChar", desc := "([BIII)I" } : Jvm.MethodName) jdk_52_method_47_code (4 : Nat) (Option.some Jvm.ClassFile.FieldType.int)).before args0 about1 = true := code_word (m := ⟨11, 11⟩) (meth := k11m11) (c := k11c11) (by decide +kernel) rfl rfl rfl (by decide +kernel)
set_option maxRecDepth 65536 in
theorem w_c34 : (Jvm.Cond.code ({ cls := "java/lang/StringUTF16", name := "checkBoundsBeginEnd", desc := "(II[B)V" } : Jvm.MethodName) jdk_52_method_93_code (3 : Nat) (Option.none : Option Jvm.ClassFile.FieldType)).before args0 about1 = true := code_word (m := ⟨11, 15⟩) (meth := k11m15) (c := k11c15) (by decide +kernel) rfl rfl rfl (by decide +kernel)
set_option maxRecDepth 65536 in
theorem w_c35 : (Jvm.Cond.code ({ cls := "java/lang/StringUTF16", name := "length", desc := "([B)I" } : Jvm.MethodName) jdk_52_method_6_code (1 : Nat) (Option.some Jvm.ClassFile.FieldType.int)).before args0 about1 = true := code_word (m := ⟨11, 5⟩) (meth := k11m5) (c := k11c5) (by decide +kernel) rfl rfl rfl (by decide +kernel)
set_option maxRecDepth 65536 in
theorem w_c36 : (Jvm.Cond.code ({ cls := "java/lang/String", name := "checkBoundsBeginEnd", desc := "(III)V" } : Jvm.MethodName) jdk_42_method_158_code (3 : Nat) (Option.none : Option Jvm.ClassFile.FieldType)).before args0 about1 = true := code_word (m := ⟨7, 10⟩) (meth := k7m10) (c := k7c10) (by decide +kernel) rfl rfl rfl (by decide +kernel)
set_option maxRecDepth 65536 in
theorem w_c37 : (Jvm.Cond.code ({ cls := "jdk/internal/util/Preconditions", name := "checkFromToIndex", desc := "(IIILjava/util/function/BiFunction;)I" } : Jvm.MethodName) jdk_41_method_12_code (4 : Nat) (Option.some Jvm.ClassFile.FieldType.int)).before args0 about1 = true := code_word (m := ⟨12, 2⟩) (meth := k12m2) (c := k12c2) (by decide +kernel) rfl rfl rfl (by decide +kernel)
set_option maxRecDepth 65536 in
theorem w_c38 : (Jvm.Cond.code ({ cls := "java/lang/StringUTF16", name := "indexOfCharUnsafe", desc := "([BIII)I" } : Jvm.MethodName) jdk_52_method_48_code (5 : Nat) (Option.some Jvm.ClassFile.FieldType.int)).before args0 about1 = true := code_word (m := ⟨11, 12⟩) (meth := k11m12) (c := k11c12) (by decide +kernel) rfl rfl rfl (by decide +kernel)
set_option maxRecDepth 65536 in
theorem w_c39 : (Jvm.Cond.code ({ cls := "java/lang/StringUTF16", name := "charAt", desc := "([BI)C" } : Jvm.MethodName) jdk_52_method_83_code (2 : Nat) (Option.some Jvm.ClassFile.FieldType.char)).before args0 about1 = true := code_word (m := ⟨11, 13⟩) (meth := k11m13) (c := k11c13) (by decide +kernel) rfl rfl rfl (by decide +kernel)
set_option maxRecDepth 65536 in
theorem w_c40 : (Jvm.Cond.code ({ cls := "java/lang/StringUTF16", name := "checkIndex", desc := "(I[B)V" } : Jvm.MethodName) jdk_52_method_91_code (2 : Nat) (Option.none : Option Jvm.ClassFile.FieldType)).before args0 about1 = true := code_word (m := ⟨11, 14⟩) (meth := k11m14) (c := k11c14) (by decide +kernel) rfl rfl rfl (by decide +kernel)
def codes1 : List Jvm.Cond := [Jvm.Cond.code x code maxLocals ret, Jvm.Cond.code ({ cls := "com/example/vestwright/vestwright/InputTextIsPlainDecimalPinLaw", name := "make", desc := "(ICCCCCC)Ljava/lang/String;" } : Jvm.MethodName) method_6_code (7 : Nat) (Option.some (Jvm.ClassFile.FieldType.object "java/lang/String")), Jvm.Cond.code ({ cls := "java/lang/String", name := "<init>", desc := "([C)V" } : Jvm.MethodName) jdk_42_method_3_code (2 : Nat) (Option.none : Option Jvm.ClassFile.FieldType), Jvm.Cond.code ({ cls := "java/lang/String", name := "<init>", desc := "([CIILjava/lang/Void;)V" } : Jvm.MethodName) jdk_42_method_149_code (6 : Nat) (Option.none : Option Jvm.ClassFile.FieldType), Jvm.Cond.code ({ cls := "java/lang/Object", name := "<init>", desc := "()V" } : Jvm.MethodName) object_method_1_code (1 : Nat) (Option.none : Option Jvm.ClassFile.FieldType), Jvm.Cond.code ({ cls := "com/example/vestwright/vestwright/InputTextIsPlainDecimalPinLaw", name := "bad", desc := "(CII)Z" } : Jvm.MethodName) method_4_code (3 : Nat) (Option.some Jvm.ClassFile.FieldType.boolean), Jvm.Cond.code ({ cls := "com/example/vestwright/vestwright/InputTextIsPlainDecimalPinLaw", name := "dot", desc := "(CII)I" } : Jvm.MethodName) method_5_code (3 : Nat) (Option.some Jvm.ClassFile.FieldType.int), Jvm.Cond.code ({ cls := "com/example/vestwright/vestwright/InputText", name := "isPlainDecimal", desc := "(Ljava/lang/String;)Z" } : Jvm.MethodName) prog_12_method_14_code (2 : Nat) (Option.some Jvm.ClassFile.FieldType.boolean), Jvm.Cond.code ({ cls := "java/lang/String", name := "indexOf", desc := "(I)I" } : Jvm.MethodName) jdk_42_method_79_code (2 : Nat) (Option.some Jvm.ClassFile.FieldType.int), Jvm.Cond.code ({ cls := "java/lang/String", name := "indexOf", desc := "(II)I" } : Jvm.MethodName) jdk_42_method_80_code (3 : Nat) (Option.some Jvm.ClassFile.FieldType.int), Jvm.Cond.code ({ cls := "java/lang/String", name := "isLatin1", desc := "()Z" } : Jvm.MethodName) jdk_42_method_154_code (1 : Nat) (Option.some Jvm.ClassFile.FieldType.boolean), Jvm.Cond.code ({ cls := "java/lang/String", name := "length", desc := "()I" } : Jvm.MethodName) jdk_42_method_54_code (1 : Nat) (Option.some Jvm.ClassFile.FieldType.int), Jvm.Cond.code ({ cls := "java/lang/String", name := "coder", desc := "()B" } : Jvm.MethodName) jdk_42_method_152_code (1 : Nat) (Option.some Jvm.ClassFile.FieldType.byte), Jvm.Cond.code ({ cls := "java/lang/StringLatin1", name := "indexOf", desc := "([BIII)I" } : Jvm.MethodName) jdk_43_method_22_code (4 : Nat) (Option.some Jvm.ClassFile.FieldType.int), Jvm.Cond.code ({ cls := "java/lang/StringLatin1", name := "canEncode", desc := "(I)Z" } : Jvm.MethodName) jdk_43_method_4_code (1 : Nat) (Option.some Jvm.ClassFile.FieldType.boolean), Jvm.Cond.code ({ cls := "java/lang/Math", name := "max", desc := "(II)I" } : Jvm.MethodName) jdk_29_method_65_code (2 : Nat) (Option.some Jvm.ClassFile.FieldType.int), Jvm.Cond.code ({ cls := "java/lang/Math", name := "min", desc := "(II)I" } : Jvm.MethodName) jdk_29_method_69_code (2 : Nat) (Option.some Jvm.ClassFile.FieldType.int), Jvm.Cond.code ({ cls := "com/example/vestwright/vestwright/InputText", name := "allDigits", desc := "(Ljava/lang/String;II)Z" } : Jvm.MethodName) prog_12_method_15_code (5 : Nat) (Option.some Jvm.ClassFile.FieldType.boolean), Jvm.Cond.code ({ cls := "java/lang/StringUTF16", name := "compress", desc := "([CII)[B" } : Jvm.MethodName) jdk_52_method_16_code (6 : Nat) (Option.some (Jvm.ClassFile.FieldType.array Jvm.ClassFile.FieldType.byte)), Jvm.Cond.code ({ cls := "java/lang/StringUTF16", name := "compress", desc := "([CI[BII)I" } : Jvm.MethodName) jdk_52_method_21_code (7 : Nat) (Option.some Jvm.ClassFile.FieldType.int), Jvm.Cond.code ({ cls := "java/lang/StringUTF16", name := "coderFromArrayLen", desc := "([BI)B" } : Jvm.MethodName) jdk_52_method_15_code (2 : Nat) (Option.some Jvm.ClassFile.FieldType.byte), Jvm.Cond.code ({ cls := "com/example/vestwright/vestwright/InputTextIsPlainDecimalPinLaw", name := "digit", desc := "(C)Z" } : Jvm.MethodName) method_3_code (1 : Nat) (Option.some Jvm.ClassFile.FieldType.boolean), Jvm.Cond.code ({ cls := "java/lang/StringLatin1", name := "indexOfChar", desc := "([BIII)I" } : Jvm.MethodName) jdk_43_method_23_code (6 : Nat) (Option.some Jvm.ClassFile.FieldType.int), Jvm.Cond.code ({ cls := "java/lang/String", name := "charAt", desc := "(I)C" } : Jvm.MethodName) jdk_42_method_56_code (2 : Nat) (Option.some Jvm.ClassFile.FieldType.char), Jvm.Cond.code ({ cls := "java/lang/StringLatin1", name := "charAt", desc := "([BI)C" } : Jvm.MethodName) jdk_43_method_2_code (2 : Nat) (Option.some Jvm.ClassFile.FieldType.char), Jvm.Cond.code ({ cls := "java/lang/String", name := "checkIndex", desc := "(II)V" } : Jvm.MethodName) jdk_42_method_155_code (2 : Nat) (Option.none : Option Jvm.ClassFile.FieldType), Jvm.Cond.code ({ cls := "jdk/internal/util/Preconditions", name := "checkIndex", desc := "(IILjava/util/function/BiFunction;)I" } : Jvm.MethodName) jdk_41_method_11_code (3 : Nat) (Option.some Jvm.ClassFile.FieldType.int), Jvm.Cond.code ({ cls := "java/lang/StringUTF16", name := "toBytes", desc := "([CII)[B" } : Jvm.MethodName) jdk_52_method_14_code (5 : Nat) (Option.some (Jvm.ClassFile.FieldType.array Jvm.ClassFile.FieldType.byte)), Jvm.Cond.code ({ cls := "java/lang/StringUTF16", name := "newBytesFor", desc := "(I)[B" } : Jvm.MethodName) jdk_52_method_2_code (1 : Nat) (Option.some (Jvm.ClassFile.FieldType.array Jvm.ClassFile.FieldType.byte)), Jvm.Cond.code ({ cls := "java/lang/StringUTF16", name := "newBytesLength", desc := "(I)I" } : Jvm.MethodName) jdk_52_method_3_code (1 : Nat) (Option.some Jvm.ClassFile.FieldType.int), Jvm.Cond.code ({ cls := "java/lang/StringUTF16", name := "putChar", desc := "([BII)V" } : Jvm.MethodName) jdk_52_method_4_code (3 : Nat) (Option.none : Option Jvm.ClassFile.FieldType), Jvm.Cond.code ({ cls := "java/lang/StringUTF16", name := "getChar", desc := "([BI)C" } : Jvm.MethodName) jdk_52_method_5_code (2 : Nat) (Option.some Jvm.ClassFile.FieldType.char), Jvm.Cond.code ({ cls := "java/lang/StringUTF16", name := "indexOf", desc := "([BIII)I" } : Jvm.MethodName) jdk_52_method_40_code (4 : Nat) (Option.some Jvm.ClassFile.FieldType.int), Jvm.Cond.code ({ cls := "java/lang/StringUTF16", name := "indexOfChar", desc := "([BIII)I" } : Jvm.MethodName) jdk_52_method_47_code (4 : Nat) (Option.some Jvm.ClassFile.FieldType.int), Jvm.Cond.code ({ cls := "java/lang/StringUTF16", name := "checkBoundsBeginEnd", desc := "(II[B)V" } : Jvm.MethodName) jdk_52_method_93_code (3 : Nat) (Option.none : Option Jvm.ClassFile.FieldType), Jvm.Cond.code ({ cls := "java/lang/StringUTF16", name := "length", desc := "([B)I" } : Jvm.MethodName) jdk_52_method_6_code (1 : Nat) (Option.some Jvm.ClassFile.FieldType.int), Jvm.Cond.code ({ cls := "java/lang/String", name := "checkBoundsBeginEnd", desc := "(III)V" } : Jvm.MethodName) jdk_42_method_158_code (3 : Nat) (Option.none : Option Jvm.ClassFile.FieldType), Jvm.Cond.code ({ cls := "jdk/internal/util/Preconditions", name := "checkFromToIndex", desc := "(IIILjava/util/function/BiFunction;)I" } : Jvm.MethodName) jdk_41_method_12_code (4 : Nat) (Option.some Jvm.ClassFile.FieldType.int), Jvm.Cond.code ({ cls := "java/lang/StringUTF16", name := "indexOfCharUnsafe", desc := "([BIII)I" } : Jvm.MethodName) jdk_52_method_48_code (5 : Nat) (Option.some Jvm.ClassFile.FieldType.int), Jvm.Cond.code ({ cls := "java/lang/StringUTF16", name := "charAt", desc := "([BI)C" } : Jvm.MethodName) jdk_52_method_83_code (2 : Nat) (Option.some Jvm.ClassFile.FieldType.char), Jvm.Cond.code ({ cls := "java/lang/StringUTF16", name := "checkIndex", desc := "(I[B)V" } : Jvm.MethodName) jdk_52_method_91_code (2 : Nat) (Option.none : Option Jvm.ClassFile.FieldType)]
set_option maxRecDepth 65536 in
theorem codes_eq : words1.filter isCode = codes1 := rfl
theorem w_codes : ∀ c ∈ words1.filter isCode, c.before args0 about1 = true := by
  rw [codes_eq]
  intro c hc
  simp only [codes1, List.mem_cons, List.not_mem_nil, or_false] at hc
  rcases hc with rfl | rfl | rfl | rfl | rfl | rfl | rfl | rfl | rfl | rfl | rfl | rfl | rfl | rfl | rfl | rfl | rfl | rfl | rfl | rfl | rfl | rfl | rfl | rfl | rfl | rfl | rfl | rfl | rfl | rfl | rfl | rfl | rfl | rfl | rfl | rfl | rfl | rfl | rfl | rfl | rfl
  · exact w_c0
  · exact w_c1
  · exact w_c2
  · exact w_c3
  · exact w_c4
  · exact w_c5
  · exact w_c6
  · exact w_c7
  · exact w_c8
  · exact w_c9
  · exact w_c10
  · exact w_c11
  · exact w_c12
  · exact w_c13
  · exact w_c14
  · exact w_c15
  · exact w_c16
  · exact w_c17
  · exact w_c18
  · exact w_c19
  · exact w_c20
  · exact w_c21
  · exact w_c22
  · exact w_c23
  · exact w_c24
  · exact w_c25
  · exact w_c26
  · exact w_c27
  · exact w_c28
  · exact w_c29
  · exact w_c30
  · exact w_c31
  · exact w_c32
  · exact w_c33
  · exact w_c34
  · exact w_c35
  · exact w_c36
  · exact w_c37
  · exact w_c38
  · exact w_c39
  · exact w_c40
set_option maxRecDepth 65536 in
theorem w_t1 : (words1.take 24).all (fun c => isCode c || c.before args0 about1) = true := by decide +kernel
set_option maxRecDepth 65536 in
theorem w_t2 : ((words1.drop 24).take 24).all (fun c => isCode c || c.before args0 about1) = true := by decide +kernel
set_option maxRecDepth 65536 in
theorem w_t3 : (((words1.drop 24).drop 24).take 24).all (fun c => isCode c || c.before args0 about1) = true := by decide +kernel
set_option maxRecDepth 65536 in
theorem w_t4 : ((((words1.drop 24).drop 24).drop 24).take 24).all (fun c => isCode c || c.before args0 about1) = true := by decide +kernel
set_option maxRecDepth 65536 in
theorem w_t5 : (((((words1.drop 24).drop 24).drop 24).drop 24).take 24).all (fun c => isCode c || c.before args0 about1) = true := by decide +kernel
set_option maxRecDepth 65536 in
theorem w_t6 : ((((((words1.drop 24).drop 24).drop 24).drop 24).drop 24).take 24).all (fun c => isCode c || c.before args0 about1) = true := by decide +kernel
set_option maxRecDepth 65536 in
theorem w_t7 : ((((((words1.drop 24).drop 24).drop 24).drop 24).drop 24).drop 24).all (fun c => isCode c || c.before args0 about1) = true := by decide +kernel
theorem w_tables : (allAtoms (Jvm.Cond.code x code maxLocals ret :: tables_1)).before args0 about1 = true := by
  rw [allAtoms_all]
  show words1.all (fun c => c.before args0 about1) = true
  refine all_split ?_ w_codes
  rw [← List.take_append_drop 24 words1, List.all_append, w_t1, ← List.take_append_drop 24 (words1.drop 24), List.all_append, w_t2, ← List.take_append_drop 24 ((words1.drop 24).drop 24), List.all_append, w_t3, ← List.take_append_drop 24 (((words1.drop 24).drop 24).drop 24), List.all_append, w_t4, ← List.take_append_drop 24 ((((words1.drop 24).drop 24).drop 24).drop 24), List.all_append, w_t5, ← List.take_append_drop 24 (((((words1.drop 24).drop 24).drop 24).drop 24).drop 24), List.all_append, w_t6, w_t7]
  rfl
set_option maxRecDepth 65536 in
theorem w_rest : rest_1_c.before args0 about1 = true := by decide +kernel
set_option maxRecDepth 65536 in
theorem w_case : (Jvm.Cond.and given_1 narrow_1).before args0 about1 = true := by decide +kernel
set_option maxRecDepth 65536 in
theorem w_consts : constsHeld consts_1 about1 := Jvm.Lit.constsHeldB_iff.mp (by decide +kernel)
theorem w_applies : (headSpec (Jvm.Cond.code x code maxLocals ret :: tables_1) room_1).applies x e0.platform about1 = true :=
  (Spec.applies_iff w_frames).mpr ⟨w_running, w_runnable, w_alone, w_named, w_hears, w_ripe, w_room, w_tables⟩
theorem atStart : AtStart classFile x code maxLocals ret World_1 tables_1 room_1 Calls_1 rest_1 Pre_1 launch0 p0 e0 about1 theMethod args0 below0 :=
  ⟨lists_1, trivial, launch0.admits_env _ _ _, launch0.least_env, fairChoices_fair.cas, fairChoices_fair.clock, w_frames, w_args, w_heap, w_applies, ⟨w_consts, trivial⟩, w_rest, w_case⟩
end start1
theorem witness_1 : WitnessClaimed_1 := ⟨start1.p0, start1.e0, start1.about1, start1.theMethod, start1.args0, start1.below0, start1.atStart⟩
end Jvm.Pilot.@@N@@

import JvmDerived
import JvmDerived.Pilot.@@N@@Statement
import JvmDerived.Pilot.@@N@@Code
set_option linter.unusedVariables false
set_option linter.unusedSimpArgs false
/- laws to paste: Road.backV, Road.eqW, Road.codOf (cut by pick.py; bodies as the Statement names them) -/
namespace Jvm.Pilot.@@N@@
namespace StrChars
open Jvm Sem ClassFile Op Lib Jvm.Stand Jvm.Free.XT Jvm.Free.ALB Jvm.Free.JM Jvm.Free
open Jvm.Lib.Cold (StaticIs)
/-- a char array whose places are chars -/
def Ch (a : Addr) (A : Cell) (U : State) : Prop := Arr .char a A U ∧ Typed .char A
theorem Ch.mv {a : Addr} {A : Cell} {U U' : State} (h : Ch a A U) (hal : U.vm.Alike U'.vm) (hh : U'.heap = U.heap) : Ch a A U' := ⟨h.1.mv hal hh, h.2⟩
theorem Ch.keep {a : Addr} {A : Cell} {U U' : State} (h : Ch a A U) (hal : U.vm.Alike U'.vm) (hk : U'.heap[a]? = some A) : Ch a A U' := ⟨h.1.keep hal hk, h.2⟩
/-- what place i of a char[]'s cell holds -/
def cv (A : Cell) (i : Nat) : Int32 := match A.slots[i]? with | some (.int x) => x | _ => 0
theorem Ch.get {a : Addr} {A : Cell} {U : State} (h : Ch a A U) {i : Nat} (hi : i < A.slots.size) : A.slots[i]? = some (.int (cv A i)) := by
  have e := Array.getElem?_eq_getElem hi
  have f := h.2 i _ e
  unfold cv; rw [e]
  generalize A.slots[i] = v at f
  cases v <;> simp [fits] at f ⊢
/-- the byte that i2b leaves of a char -/
def lo8 (x : Int32) : Int32 := x.toInt8.toInt32
theorem fits_lo8 (y : Int32) : fits .byte (.int (lo8 y)) = true := by
  have h1 := y.toInt8.le_toInt
  have h2 := y.toInt8.toInt_lt
  simp only [lo8, fits, Bool.and_eq_true, decide_eq_true_eq, Int32.le_iff_toInt_le, Int8.toInt_toInt32, show (-128 : Int32).toInt = -128 from by decide, show (127 : Int32).toInt = 127 from by decide]
  omega
/-- A' is A but that each place j of lo .. hi - 1 holds f j -/
def Laid (A A' : Cell) (lo hi : Nat) (f : Nat → Value) : Prop := A'.cls = A.cls ∧ A'.vm = A.vm ∧ A'.slots.size = A.slots.size ∧ ∀ i, A'.slots[i]? = if lo ≤ i ∧ i < hi then some (f i) else A.slots[i]?
theorem Laid.zero (A : Cell) (lo : Nat) (f : Nat → Value) : Laid A A lo (lo + 0) f := ⟨rfl, rfl, rfl, fun i => by rw [if_neg (by omega)]⟩
theorem Laid.step {A Ak : Cell} {lo k : Nat} {f : Nat → Value} {v : Value} (h : Laid A Ak lo k f) (hlo : lo ≤ k) (hk : k < Ak.slots.size) (hv : v = f k) : Laid A (Ak.setSlot k v) lo (k + 1) f := by
  refine ⟨h.1, h.2.1, by simpa [Cell.setSlot] using h.2.2.1, fun i => ?_⟩
  by_cases e : k = i
  · subst e; rw [Cell.slots_setSlot_self v hk, if_pos (by omega), hv]
  · rw [Cell.slots_setSlot_ne v e, h.2.2.2 i]
    by_cases q : lo ≤ i ∧ i < k
    · rw [if_pos q, if_pos (by omega)]
    · rw [if_neg q, if_neg (by omega)]
def U16 : String := "java/lang/StringUTF16"
namespace Cmp5
def yN : MethodName := ⟨"java/lang/StringUTF16", "compress", "([CI[BII)I"⟩
abbrev yB : ByteArray := jdk_52_method_21_code
theorem d0 : decode yB 0 = .ok (.iconst 0, 1) := by decide +kernel
theorem d1 : decode yB 1 = .ok (.istore 5, 2) := by decide +kernel
theorem d3 : decode yB 3 = .ok (.iload 5, 2) := by decide +kernel
theorem d5 : decode yB 5 = .ok (.iload 4, 2) := by decide +kernel
theorem d7 : decode yB 7 = .ok (.if_icmp (.ge) 37, 3) := by decide +kernel
theorem d10 : decode yB 10 = .ok (.aload_n 0, 1) := by decide +kernel
theorem d11 : decode yB 11 = .ok (.iload_n 1, 1) := by decide +kernel
theorem d12 : decode yB 12 = .ok (.caload, 1) := by decide +kernel
theorem d13 : decode yB 13 = .ok (.istore 6, 2) := by decide +kernel
theorem d15 : decode yB 15 = .ok (.iload 6, 2) := by decide +kernel
theorem d17 : decode yB 17 = .ok (.sipush 255, 3) := by decide +kernel
theorem d20 : decode yB 20 = .ok (.if_icmp (.le) 6, 3) := by decide +kernel
theorem d26 : decode yB 26 = .ok (.aload_n 2, 1) := by decide +kernel
theorem d27 : decode yB 27 = .ok (.iload_n 3, 1) := by decide +kernel
theorem d28 : decode yB 28 = .ok (.iload 6, 2) := by decide +kernel
theorem d30 : decode yB 30 = .ok (.i2b, 1) := by decide +kernel
theorem d31 : decode yB 31 = .ok (.bastore, 1) := by decide +kernel
theorem d32 : decode yB 32 = .ok (.iinc 1 1, 3) := by decide +kernel
theorem d35 : decode yB 35 = .ok (.iinc 3 1, 3) := by decide +kernel
theorem d38 : decode yB 38 = .ok (.iinc 5 1, 3) := by decide +kernel
theorem d41 : decode yB 41 = .ok (.goto (-38), 3) := by decide +kernel
theorem d44 : decode yB 44 = .ok (.iload 4, 2) := by decide +kernel
theorem d46 : decode yB 46 = .ok (.ireturn, 1) := by decide +kernel
def site : List Cond := []
def tab : Cond := tabOf yN yB 7 (some .int) site
def P (b : Addr) (A : Cell) (d : Addr) (B : Cell) (o q len : Nat) (args : Array Value) (s : State) : Prop := args = #[.ref b, .int (Int32.ofNat o), .ref d, .int (Int32.ofNat q), .int (Int32.ofNat len)] ∧ Ch b A s ∧ Arr .byte d B s ∧ b ≠ d ∧ o + len ≤ A.slots.size ∧ q + len ≤ B.slots.size ∧ ∀ i, i < len → ¬ 255 < cv A (o + i)
def E (b : Addr) (A : Cell) (d : Addr) (B : Cell) (o q len : Nat) (r : Option Value) (s u : State) : Prop := r = some (.int (Int32.ofNat len)) ∧ ∃ B', Put d B' s u ∧ Laid B B' q (q + len) (fun j => Value.int (lo8 (cv A (o + (j - q)))))
/-- no char of the range above 255: len; the places written hold each char's low byte -/
theorem law (l : Launch) (b : Addr) (A : Cell) (d : Addr) (B : Cell) (o q len : Nat) : Law l yN 5 5 0 0 yB 7 (some .int) site (P b A d B o q len) (E b A d B o q len) (copyLocs d q len) 0 0 := by
  refine Law.of_walk (plainFor_of_name (by decide +kernel)) (by decide +kernel) (by decide +kernel) (by decide) (fun _ _ h => by rw [h.1]; rfl) (fun _ U U' hal hh h => ⟨h.1, h.2.1.mv hal hh, h.2.2.1.mv hal hh, h.2.2.2⟩) (fun r U U' V V' h1 hal h2 h => ⟨h.1, h.2.elim fun B' q => ⟨B', q.1.mv h1 h2, q.2⟩⟩) ?_
  intro p e s m args below meth c s₁ X0 hexec hbytes hml hret hlk hnm hown hh0 W hP
  obtain ⟨rfl, hA, hB, hne, l1, l2, hp⟩ := hP
  have c1 : Steps p.tables e below (s₁.setTop (entryFrame m #[.ref b, .int (Int32.ofNat o), .ref d, .int (Int32.ofNat q), .int (Int32.ofNat len)] 7)) (s₁.setTop (mkF m 0 #[.val (.ref b), .val (.int (Int32.ofNat o)), .val (.ref d), .val (.int (Int32.ofNat q)), .val (.int (Int32.ofNat len)), .unset, .unset] [])) := entry rfl
  have hA0 := hA.1.mv X0.warmed.alike hh0
  have hB0 := hB.mv X0.warmed.alike hh0
  have a31 := hA.1.2.2.2
  have c2 : Steps p.tables e below (s₁.setTop (entryFrame m #[.ref b, .int (Int32.ofNat o), .ref d, .int (Int32.ofNat q), .int (Int32.ofNat len)] 7)) (s₁.setTop (mkF m 3 #[.val (.ref b), .val (.int (Int32.ofNat o)), .val (.ref d), .val (.int (Int32.ofNat q)), .val (.int (Int32.ofNat len)), .val (.int 0), .unset] [])) := c1.trans (by
    refine iconstV X0.here hexec rfl 0 (hb hbytes d0) (by decide) ?_
    refine XS.istore X0.here hexec rfl (hb hbytes d1) rfl rfl ?_
    exact Steps.refl _)
  have loop : ∀ (r i : Nat), i + r = len → ∀ (z : Slot), (z = .unset ∨ ∃ w, z = .val w ∧ w.category = 1) → ∀ (Tl : State) (Bk : Cell), Stand p l e { frames := 0, locals := 0, cells := 0, slots := 0 } s m #[.ref b, .int (Int32.ofNat o), .ref d, .int (Int32.ofNat q), .int (Int32.ofNat len)] below meth c Tl ([] ++ copyLocs d q i) 0 0 → Put d Bk s₁ Tl → Laid B Bk q (q + i) (fun j => Value.int (lo8 (cv A (o + (j - q))))) →
      Steps p.tables e below (s₁.setTop (entryFrame m #[.ref b, .int (Int32.ofNat o), .ref d, .int (Int32.ofNat q), .int (Int32.ofNat len)] 7)) (Tl.setTop (mkF m 3 #[.val (.ref b), .val (.int (Int32.ofNat (o + i))), .val (.ref d), .val (.int (Int32.ofNat (q + i))), .val (.int (Int32.ofNat len)), .val (.int (Int32.ofNat i)), z] [])) → ∃ (T' : State) (B' : Cell) (z' : Slot), Stand p l e { frames := 0, locals := 0, cells := 0, slots := 0 } s m #[.ref b, .int (Int32.ofNat o), .ref d, .int (Int32.ofNat q), .int (Int32.ofNat len)] below meth c T' ([] ++ copyLocs d q len) 0 0 ∧ Put d B' s₁ T' ∧ Laid B B' q (q + len) (fun j => Value.int (lo8 (cv A (o + (j - q))))) ∧
      Steps p.tables e below (s₁.setTop (entryFrame m #[.ref b, .int (Int32.ofNat o), .ref d, .int (Int32.ofNat q), .int (Int32.ofNat len)] 7)) (T'.setTop (mkF m 3 #[.val (.ref b), .val (.int (Int32.ofNat (o + len))), .val (.ref d), .val (.int (Int32.ofNat (q + len))), .val (.int (Int32.ofNat len)), .val (.int (Int32.ofNat len)), z'] [])) := by
    intro r
    induction r with
    | zero =>
      intro i hi z hz Tl Bk Xl pl fl cl
      have hil : i = len := by omega
      rw [hil] at Xl fl cl
      exact ⟨Tl, Bk, z, Xl, pl, fl, cl⟩
    | succ r ih =>
      intro i hi z hz Tl Bk Xl pl fl cl
      have all := X0.warmed.alike.symm.trans Xl.warmed.alike
      have hAl := hA0.keep all (pl.other hne hA0.1)
      have hBk := hB0.like all pl.1 fl.1 fl.2.1 fl.2.2.1
      have hlt : q + i < Bk.slots.size := by rw [fl.2.2.1]; omega
      have c3 : Steps p.tables e below (s₁.setTop (entryFrame m #[.ref b, .int (Int32.ofNat o), .ref d, .int (Int32.ofNat q), .int (Int32.ofNat len)] 7)) (Tl.setTop (mkF m 12 #[.val (.ref b), .val (.int (Int32.ofNat (o + i))), .val (.ref d), .val (.int (Int32.ofNat (q + i))), .val (.int (Int32.ofNat len)), .val (.int (Int32.ofNat i)), z] [.int (Int32.ofNat (o + i)), .ref b])) := cl.trans (by
        refine XS.iload Xl.here hexec rfl (hb hbytes d3) rfl ?_
        refine XS.iload Xl.here hexec rfl (hb hbytes d5) rfl ?_
        refine XS.icmpNo Xl.here hexec rfl (hb hbytes d7) rfl (ii_ge_f (lt32 (by omega) (by omega))) ?_
        refine XS.aloadN Xl.here hexec rfl (hb hbytes d10) rfl rfl ?_
        refine XS.iloadN Xl.here hexec rfl (hb hbytes d11) rfl ?_
        exact Steps.refl _)
      have c4 : Steps p.tables e below (s₁.setTop (entryFrame m #[.ref b, .int (Int32.ofNat o), .ref d, .int (Int32.ofNat q), .int (Int32.ofNat len)] 7)) (Tl.setTop (mkF m 13 #[.val (.ref b), .val (.int (Int32.ofNat (o + i))), .val (.ref d), .val (.int (Int32.ofNat (q + i))), .val (.int (Int32.ofNat len)), .val (.int (Int32.ofNat i)), z] [.int (cv A (o + i))])) := c3.trans (by
        refine Xl.aget hexec hAl rfl (hA.get (i := o + i) (by omega)) rfl rfl (hb hbytes d12) ?_
        exact Steps.refl _)
      have c5 : Steps p.tables e below (s₁.setTop (entryFrame m #[.ref b, .int (Int32.ofNat o), .ref d, .int (Int32.ofNat q), .int (Int32.ofNat len)] 7)) (Tl.setTop (mkF m 15 #[.val (.ref b), .val (.int (Int32.ofNat (o + i))), .val (.ref d), .val (.int (Int32.ofNat (q + i))), .val (.int (Int32.ofNat len)), .val (.int (Int32.ofNat i)), .val (.int (cv A (o + i)))] [])) := c4.trans (by
        refine XS.istoreS Xl.here hexec rfl (hb hbytes d13) rfl rfl hz ?_
        exact Steps.refl _)
      have c6 : Steps p.tables e below (s₁.setTop (entryFrame m #[.ref b, .int (Int32.ofNat o), .ref d, .int (Int32.ofNat q), .int (Int32.ofNat len)] 7)) (Tl.setTop (mkF m 31 #[.val (.ref b), .val (.int (Int32.ofNat (o + i))), .val (.ref d), .val (.int (Int32.ofNat (q + i))), .val (.int (Int32.ofNat len)), .val (.int (Int32.ofNat i)), .val (.int (cv A (o + i)))] [.int (lo8 (cv A (o + i))), .int (Int32.ofNat (q + i)), .ref d])) := c5.trans (by
        refine XS.iload Xl.here hexec rfl (hb hbytes d15) rfl ?_
        refine sipushV Xl.here hexec rfl 255 (hb hbytes d17) (by decide) ?_
        refine XS.icmpYes Xl.here hexec rfl (pc0 := 20) rfl (hb hbytes d20) rfl (ii_le_t (hp i (by omega))) (by decide) rfl ?_
        refine XS.aloadN Xl.here hexec rfl (hb hbytes d26) rfl rfl ?_
        refine XS.iloadN Xl.here hexec rfl (hb hbytes d27) rfl ?_
        refine XS.iload Xl.here hexec rfl (hb hbytes d28) rfl ?_
        refine i2b Xl.here hexec rfl (hb hbytes d30) rfl ?_
        exact Steps.refl _)
      obtain ⟨T7, X7, p7, st7⟩ := Xl.aput hexec hBk rfl hlt rfl (fits_lo8 (cv A (o + i))) (g := (mkF m 31 #[.val (.ref b), .val (.int (Int32.ofNat (o + i))), .val (.ref d), .val (.int (Int32.ofNat (q + i))), .val (.int (Int32.ofNat len)), .val (.int (Int32.ofNat i)), .val (.int (cv A (o + i)))] [.int (lo8 (cv A (o + i))), .int (Int32.ofNat (q + i)), .ref d])) rfl (rest := []) rfl (hb hbytes d31)
      have c8 : Steps p.tables e below (s₁.setTop (entryFrame m #[.ref b, .int (Int32.ofNat o), .ref d, .int (Int32.ofNat q), .int (Int32.ofNat len)] 7)) (T7.setTop (mkF m 32 #[.val (.ref b), .val (.int (Int32.ofNat (o + i))), .val (.ref d), .val (.int (Int32.ofNat (q + i))), .val (.int (Int32.ofNat len)), .val (.int (Int32.ofNat i)), .val (.int (cv A (o + i)))] [])) := c6.trans (st7 _ (Steps.refl _))
      have c9 : Steps p.tables e below (s₁.setTop (entryFrame m #[.ref b, .int (Int32.ofNat o), .ref d, .int (Int32.ofNat q), .int (Int32.ofNat len)] 7)) (T7.setTop (mkF m 3 #[.val (.ref b), .val (.int (Int32.ofNat (o + i) + 1)), .val (.ref d), .val (.int (Int32.ofNat (q + i) + 1)), .val (.int (Int32.ofNat len)), .val (.int (Int32.ofNat i + 1)), .val (.int (cv A (o + i)))] [])) := c8.trans (by
        refine iincV X7.here hexec rfl 1 (hb hbytes d32) (by decide) rfl rfl ?_
        refine iincV X7.here hexec rfl 1 (hb hbytes d35) (by decide) rfl rfl ?_
        refine iincV X7.here hexec rfl 1 (hb hbytes d38) (by decide) rfl rfl ?_
        refine XS.goto X7.here hexec rfl (pc0 := 41) rfl (hb hbytes d41) (by decide) rfl ?_
        exact Steps.refl _)
      have c10 : Steps p.tables e below (s₁.setTop (entryFrame m #[.ref b, .int (Int32.ofNat o), .ref d, .int (Int32.ofNat q), .int (Int32.ofNat len)] 7)) (T7.setTop (mkF m 3 #[.val (.ref b), .val (.int (Int32.ofNat (o + (i + 1)))), .val (.ref d), .val (.int (Int32.ofNat (q + (i + 1)))), .val (.int (Int32.ofNat len)), .val (.int (Int32.ofNat (i + 1))), .val (.int (cv A (o + i)))] [])) := by
        have := c9
        rw [succ32, succ32, succ32] at this
        exact this
      exact ih (i + 1) (by omega) _ (Or.inr ⟨_, rfl, rfl⟩) T7 _ (by rw [copyLocs_step, ← List.append_assoc]; exact X7) (pl.trans p7) (fl.step (by omega) hlt (by simp)) c10
  obtain ⟨T9, B9, z9, X9, p9, f9, g9⟩ := loop len 0 (by omega) .unset (Or.inl rfl) s₁ B (by simpa [copyLocs] using X0) ⟨hB0.1, fun _ _ => rfl, rfl⟩ (Laid.zero _ _ _) c2
  have c11 : Steps p.tables e below (s₁.setTop (entryFrame m #[.ref b, .int (Int32.ofNat o), .ref d, .int (Int32.ofNat q), .int (Int32.ofNat len)] 7)) (T9.setTop (mkF m 46 #[.val (.ref b), .val (.int (Int32.ofNat (o + len))), .val (.ref d), .val (.int (Int32.ofNat (q + len))), .val (.int (Int32.ofNat len)), .val (.int (Int32.ofNat len)), z9] [.int (Int32.ofNat len)])) := g9.trans (by
    refine XS.iload X9.here hexec rfl (hb hbytes d3) rfl ?_
    refine XS.iload X9.here hexec rfl (hb hbytes d5) rfl ?_
    refine XS.icmpYes X9.here hexec rfl (pc0 := 7) rfl (hb hbytes d7) rfl (ii_ge_t (nlt32 (by omega) (Nat.le_refl _))) (by decide) rfl ?_
    refine XS.iload X9.here hexec rfl (hb hbytes d44) rfl ?_
    exact Steps.refl _)
  exact ⟨T9, some (.int (Int32.ofNat len)), _, _, _, X9, by simp, rfl, rfl, (fun h => by cases h), ⟨rfl, B9, p9.from hh0, f9⟩, fun fs hl => c11.trans (X9.ireturnOut hexec hret rfl (Or.inl rfl) (hb hbytes d46) hl)⟩
end Cmp5
namespace Cmp3
def yN : MethodName := ⟨"java/lang/StringUTF16", "compress", "([CII)[B"⟩
abbrev yB : ByteArray := jdk_52_method_16_code
theorem d0 : decode yB 0 = .ok (.iload_n 2, 1) := by decide +kernel
theorem d1 : decode yB 1 = .ok (.newarray .byte, 2) := by decide +kernel
theorem d3 : decode yB 3 = .ok (.astore_n 3, 1) := by decide +kernel
theorem d4 : decode yB 4 = .ok (.aload_n 0, 1) := by decide +kernel
theorem d5 : decode yB 5 = .ok (.iload_n 1, 1) := by decide +kernel
theorem d6 : decode yB 6 = .ok (.aload_n 3, 1) := by decide +kernel
theorem d7 : decode yB 7 = .ok (.iconst 0, 1) := by decide +kernel
theorem d8 : decode yB 8 = .ok (.iload_n 2, 1) := by decide +kernel
theorem d9 : decode yB 9 = .ok (.invokestatic 115, 3) := by decide +kernel
theorem d12 : decode yB 12 = .ok (.istore 4, 2) := by decide +kernel
theorem d14 : decode yB 14 = .ok (.iload 4, 2) := by decide +kernel
theorem d16 : decode yB 16 = .ok (.iload_n 2, 1) := by decide +kernel
theorem d17 : decode yB 17 = .ok (.if_icmp (.eq) 40, 3) := by decide +kernel
theorem d57 : decode yB 57 = .ok (.aload_n 3, 1) := by decide +kernel
theorem d58 : decode yB 58 = .ok (.areturn, 1) := by decide +kernel
def site : List Cond := [.arrayClass .byte, Cmp5.tab] ++ staticW U16 115 Cmp5.yN
def tab : Cond := tabOf yN yB 6 (some (.array .byte)) site
def P (b : Addr) (A : Cell) (o len : Nat) (args : Array Value) (s : State) : Prop := args = #[.ref b, .int (Int32.ofNat o), .int (Int32.ofNat len)] ∧ Ch b A s ∧ o + len ≤ A.slots.size ∧ len ≤ 536870912 ∧ ∀ i, i < len → ¬ 255 < cv A (o + i)
def E (b : Addr) (A : Cell) (o len : Nat) (r : Option Value) (s u : State) : Prop := NewArr .byte "[B" len (fun j => .int (lo8 (cv A (o + j)))) r s u ∧ u.heap.size = s.heap.size + 1
/-- no char of the range above 255: a new byte[] of their low bytes -/
theorem law (l : Launch) (b : Addr) (A : Cell) (o len : Nat) : Law l yN 3 3 1 18 yB 6 (some (.array .byte)) site (P b A o len) (E b A o len) [] 1 len := by
  refine Law.of_walk (plainFor_of_name (by decide +kernel)) (by decide +kernel) (by decide +kernel) (by decide) (fun _ _ h => by rw [h.1]; rfl) (fun _ U U' hal hh h => ⟨h.1, h.2.1.mv hal hh, h.2.2⟩) (fun r U U' V V' h1 hal h2 h => ⟨NewArr.mv r U U' V V' h1 hal h2 h.1, by rw [h1, h2]; exact h.2⟩) ?_
  intro p e s m args below meth c s₁ X0 hexec hbytes hml hret hlk hnm hown hh0 W hP
  obtain ⟨rfl, hA, l1, l2, hp⟩ := hP
  have a31 := hA.1.2.2.2
  have c1 : Steps p.tables e below (s₁.setTop (entryFrame m #[.ref b, .int (Int32.ofNat o), .int (Int32.ofNat len)] 6)) (s₁.setTop (mkF m 0 #[.val (.ref b), .val (.int (Int32.ofNat o)), .val (.int (Int32.ofNat len)), .unset, .unset, .unset] [])) := entry rfl
  have c2 : Steps p.tables e below (s₁.setTop (entryFrame m #[.ref b, .int (Int32.ofNat o), .int (Int32.ofNat len)] 6)) (s₁.setTop (mkF m 1 #[.val (.ref b), .val (.int (Int32.ofNat o)), .val (.int (Int32.ofNat len)), .unset, .unset, .unset] [.int (Int32.ofNat len)])) := c1.trans (by
    refine XS.iloadN X0.here hexec rfl (hb hbytes d0) rfl ?_
    exact Steps.refl _)
  obtain ⟨T3, B3, X3, ba3, bs3, bv3, bh3, bf3, st3⟩ := X0.anew hexec (atype := .byte) (wk W (.arrayClass .byte)) rfl (by show len * 1 ≤ _; omega) (by omega) (g := (mkF m 1 #[.val (.ref b), .val (.int (Int32.ofNat o)), .val (.int (Int32.ofNat len)), .unset, .unset, .unset] [.int (Int32.ofNat len)])) rfl (hb hbytes d1) (rest := []) rfl (Nat.le_refl _) (by show 0 + len ≤ len; omega)
  rw [hh0] at ba3 st3
  have kp3 : XT.Kept s T3 := (XT.Kept.of_eq hh0).push bh3
  have hA3 := hA.keep X3.warmed.alike (kp3 _ _ hA.1.1)
  have hne : b ≠ s.heap.size := hA.1.ne
  have c4 : Steps p.tables e below (s₁.setTop (entryFrame m #[.ref b, .int (Int32.ofNat o), .int (Int32.ofNat len)] 6)) (T3.setTop (mkF m 3 #[.val (.ref b), .val (.int (Int32.ofNat o)), .val (.int (Int32.ofNat len)), .unset, .unset, .unset] [.ref s.heap.size])) := c2.trans (st3 _ (Steps.refl _))
  have c5 : Steps p.tables e below (s₁.setTop (entryFrame m #[.ref b, .int (Int32.ofNat o), .int (Int32.ofNat len)] 6)) (T3.setTop (mkF m 9 #[.val (.ref b), .val (.int (Int32.ofNat o)), .val (.int (Int32.ofNat len)), .val (.ref s.heap.size), .unset, .unset] [.int (Int32.ofNat len), .int 0, .ref s.heap.size, .int (Int32.ofNat o), .ref b])) := c4.trans (by
    refine XS.astoreN X3.here hexec rfl (hb hbytes d3) rfl rfl rfl ?_
    refine XS.aloadN X3.here hexec rfl (hb hbytes d4) rfl rfl ?_
    refine XS.iloadN X3.here hexec rfl (hb hbytes d5) rfl ?_
    refine XS.aloadN X3.here hexec rfl (hb hbytes d6) rfl rfl ?_
    refine iconstV X3.here hexec rfl 0 (hb hbytes d7) (by decide) ?_
    refine XS.iloadN X3.here hexec rfl (hb hbytes d8) rfl ?_
    exact Steps.refl _)
  obtain ⟨v6, T6, X6, E6, g6⟩ := X3.callS hexec (Cmp5.law l b A s.heap.size B3 o 0 len) hown (wks W (staticW U16 115 Cmp5.yN)) (wk W Cmp5.tab) (W := 0) (Nat.le_of_ble_eq_true rfl) (Nat.le_of_ble_eq_true rfl) (Nat.le_refl _) (by show 0 + len + 0 ≤ len; omega) (g := (mkF m 9 #[.val (.ref b), .val (.int (Int32.ofNat o)), .val (.int (Int32.ofNat len)), .val (.ref s.heap.size), .unset, .unset] [.int (Int32.ofNat len), .int (Int32.ofNat 0), .ref s.heap.size, .int (Int32.ofNat o), .ref b])) rfl (by rw [hml]; rfl) c5 (argsL := [.ref b, .int (Int32.ofNat o), .ref s.heap.size, .int (Int32.ofNat 0), .int (Int32.ofNat len)]) (rest := []) rfl rfl (by show 2 * 0 + 0 ≤ _; decide) (hb hbytes d9) (⟨rfl, hA3, ba3, hne, l1, by rw [bs3]; simp, hp⟩)
  obtain ⟨rfl, B6, p6, f6⟩ := E6
  have c7 : Steps p.tables e below (s₁.setTop (entryFrame m #[.ref b, .int (Int32.ofNat o), .int (Int32.ofNat len)] 6)) (T6.setTop (mkF m 12 #[.val (.ref b), .val (.int (Int32.ofNat o)), .val (.int (Int32.ofNat len)), .val (.ref s.heap.size), .unset, .unset] [.int (Int32.ofNat len)])) := g6
  have c8 : Steps p.tables e below (s₁.setTop (entryFrame m #[.ref b, .int (Int32.ofNat o), .int (Int32.ofNat len)] 6)) (T6.setTop (mkF m 58 #[.val (.ref b), .val (.int (Int32.ofNat o)), .val (.int (Int32.ofNat len)), .val (.ref s.heap.size), .val (.int (Int32.ofNat len)), .unset] [.ref s.heap.size])) := c7.trans (by
    refine XS.istore X6.here hexec rfl (hb hbytes d12) rfl rfl ?_
    refine XS.iload X6.here hexec rfl (hb hbytes d14) rfl ?_
    refine XS.iloadN X6.here hexec rfl (hb hbytes d16) rfl ?_
    refine XS.icmpYes X6.here hexec rfl (pc0 := 17) rfl (hb hbytes d17) rfl (ii_eq_t rfl) (by decide) rfl ?_
    refine XS.aloadN X6.here hexec rfl (hb hbytes d57) rfl rfl ?_
    exact Steps.refl _)
  have X8 := X6.wide (L' := []) (cells' := 1) (slots' := len) (fun x hx hlt => by
    simp only [List.nil_append, copyLocs, List.mem_map, List.mem_range] at hx
    obtain ⟨i, -, rfl⟩ := hx
    exact absurd hlt (Nat.lt_irrefl _)) (Nat.le_refl _) (by omega)
  exact ⟨T6, some (.ref s.heap.size), _, _, _, X8, rfl, rfl, rfl, (fun h => by cases h), ⟨⟨rfl, B6, ba3.like (X3.warmed.alike.symm.trans X6.warmed.alike) p6.1 f6.1 f6.2.1 f6.2.2.1, f6.2.1.trans bv3, by rw [X6.warmed.alike.findClass, f6.1]; exact bf3, by rw [f6.2.2.1, bs3]; simp, fun j hj => by rw [f6.2.2.2 j, if_pos (by omega)]; rfl, kp3.put p6 (Nat.le_refl _)⟩, by rw [p6.2.2, bh3, hh0]; simp⟩, fun fs hl => c8.trans (X8.areturnOut hexec rfl hret rfl (hb hbytes d58) hl)⟩
end Cmp3
namespace CodL
def yN : MethodName := ⟨"java/lang/StringUTF16", "coderFromArrayLen", "([BI)B"⟩
abbrev yB : ByteArray := jdk_52_method_15_code
theorem d0 : decode yB 0 = .ok (.iload_n 1, 1) := by decide +kernel
theorem d1 : decode yB 1 = .ok (.aload_n 0, 1) := by decide +kernel
theorem d2 : decode yB 2 = .ok (.arraylength, 1) := by decide +kernel
theorem d3 : decode yB 3 = .ok (.isub, 1) := by decide +kernel
theorem d4 : decode yB 4 = .ok (.bipush 31, 2) := by decide +kernel
theorem d6 : decode yB 6 = .ok (.iushr, 1) := by decide +kernel
theorem d7 : decode yB 7 = .ok (.i2b, 1) := by decide +kernel
theorem d8 : decode yB 8 = .ok (.ireturn, 1) := by decide +kernel
def site : List Cond := []
def tab : Cond := tabOf yN yB 2 (some .byte) site
def P (d : Addr) (B : Cell) (args : Array Value) (s : State) : Prop := args = #[.ref d, .int (Int32.ofNat B.slots.size)] ∧ Arr .byte d B s
def E (r : Option Value) (s u : State) : Prop := XT.PureE (some (.int 0)) r s u
/-- an array as long as the number of chars: LATIN1 -/
theorem law (l : Launch) (d : Addr) (B : Cell) : Law l yN 2 2 0 0 yB 2 (some .byte) site (P d B) E [] 0 0 := by
  refine Law.of_walk (plainFor_of_name (by decide +kernel)) (by decide +kernel) (by decide +kernel) (by decide) (fun _ _ h => by rw [h.1]; rfl) (fun _ U U' hal hh h => ⟨h.1, h.2.mv hal hh⟩) (fun r U U' V V' h1 hal h2 h => XT.PureE.mv r U U' V V' h1 hal h2 h) ?_
  intro p e s m args below meth c s₁ X0 hexec hbytes hml hret hlk hnm hown hh0 W hP
  obtain ⟨rfl, hB⟩ := hP
  have hB0 := hB.mv X0.warmed.alike hh0
  have c1 : Steps p.tables e below (s₁.setTop (entryFrame m #[.ref d, .int (Int32.ofNat B.slots.size)] 2)) (s₁.setTop (mkF m 0 #[.val (.ref d), .val (.int (Int32.ofNat B.slots.size))] [])) := entry rfl
  have c2 : Steps p.tables e below (s₁.setTop (entryFrame m #[.ref d, .int (Int32.ofNat B.slots.size)] 2)) (s₁.setTop (mkF m 2 #[.val (.ref d), .val (.int (Int32.ofNat B.slots.size))] [.ref d, .int (Int32.ofNat B.slots.size)])) := c1.trans (by
    refine XS.iloadN X0.here hexec rfl (hb hbytes d0) rfl ?_
    refine XS.aloadN X0.here hexec rfl (hb hbytes d1) rfl rfl ?_
    exact Steps.refl _)
  have c3 : Steps p.tables e below (s₁.setTop (entryFrame m #[.ref d, .int (Int32.ofNat B.slots.size)] 2)) (s₁.setTop (mkF m 8 #[.val (.ref d), .val (.int (Int32.ofNat B.slots.size))] [.int (lo8 (ushr (Int32.ofNat B.slots.size - Int32.ofNat B.slots.size) 31))])) := c2.trans (by
    refine X0.alen hexec hB0 rfl rfl (hb hbytes d2) ?_
    refine XS.isub X0.here hexec rfl (hb hbytes d3) rfl ?_
    refine bipushV X0.here hexec rfl 31 (hb hbytes d4) (by decide) ?_
    refine iushr X0.here hexec rfl (hb hbytes d6) rfl ?_
    refine i2b X0.here hexec rfl (hb hbytes d7) rfl ?_
    exact Steps.refl _)
  have e0 : lo8 (ushr (Int32.ofNat B.slots.size - Int32.ofNat B.slots.size) 31) = 0 := by rw [Int32.sub_self]; decide
  rw [e0] at c3
  exact ⟨s₁, some (.int 0), _, _, _, X0, rfl, rfl, rfl, (fun h => by cases h), ⟨rfl, hh0⟩, fun fs hl => c3.trans (X0.ireturnOut hexec hret rfl (Or.inr (Or.inr (Or.inl rfl))) (hb hbytes d8) hl)⟩
end CodL
/-- the String at a is Latin-1 over a new byte[] (the heap's one new cell): the low bytes of the len chars of A from o on; every cell but a is kept -/
def Got (a : Addr) (D : Cell) (fV fC : Field) (A : Cell) (o len : Nat) (r : Option Value) (s u : State) : Prop := r = none ∧ ∃ D' V : Cell, Blank "java/lang/String" a D' u ∧ Same D D' [fV.slot, fC.slot] ∧ D'.slots[fV.slot]? = some (.ref s.heap.size) ∧ D'.slots[fC.slot]? = some (.int 0) ∧ Arr .byte s.heap.size V u ∧ V.vm = .none ∧ u.vm.findClass "[B" = some V.cls ∧ V.slots.size = len ∧ (∀ j, j < len → V.slots[j]? = some (.int (lo8 (cv A (o + j))))) ∧ (∀ (y : Addr) (c : Cell), y ≠ a → s.heap[y]? = some c → u.heap[y]? = some c) ∧ u.heap.size = s.heap.size + 1
theorem Got.mv {a : Addr} {D A : Cell} {fV fC : Field} {o len : Nat} : ∀ r (U U' V V' : State), U'.heap = U.heap → V.vm.Alike V'.vm → V'.heap = V.heap → Got a D fV fC A o len r U V → Got a D fV fC A o len r U' V' :=
  fun r U U' V V' h1 hal h2 ⟨e0, D', X, a1, a2, a3, a4, a5, a6, a7, a8, a9, a10, a11⟩ => ⟨e0, D', X, a1.mv hal h2, a2, by rw [h1]; exact a3, a4, by rw [h1]; exact a5.mv hal h2, a6, by rw [hal.findClass]; exact a7, a8, a9, by rw [h1, h2]; exact a10, by rw [h1, h2]; exact a11⟩
namespace New4
def yN : MethodName := ⟨"java/lang/String", "<init>", "([CIILjava/lang/Void;)V"⟩
abbrev yB : ByteArray := jdk_42_method_149_code
theorem d0 : decode yB 0 = .ok (.aload_n 0, 1) := by decide +kernel
theorem d1 : decode yB 1 = .ok (.invokespecial 1, 3) := by decide +kernel
theorem d4 : decode yB 4 = .ok (.iload_n 3, 1) := by decide +kernel
theorem d5 : decode yB 5 = .ok (.ifCond (.ne) 22, 3) := by decide +kernel
theorem d27 : decode yB 27 = .ok (.getstatic 38, 3) := by decide +kernel
theorem d30 : decode yB 30 = .ok (.ifCond (.eq) 28, 3) := by decide +kernel
theorem d33 : decode yB 33 = .ok (.aload_n 1, 1) := by decide +kernel
theorem d34 : decode yB 34 = .ok (.iload_n 2, 1) := by decide +kernel
theorem d35 : decode yB 35 = .ok (.iload_n 3, 1) := by decide +kernel
theorem d36 : decode yB 36 = .ok (.invokestatic 177, 3) := by decide +kernel
theorem d39 : decode yB 39 = .ok (.astore 5, 2) := by decide +kernel
theorem d41 : decode yB 41 = .ok (.aload_n 0, 1) := by decide +kernel
theorem d42 : decode yB 42 = .ok (.aload 5, 2) := by decide +kernel
theorem d44 : decode yB 44 = .ok (.iload_n 3, 1) := by decide +kernel
theorem d45 : decode yB 45 = .ok (.invokestatic 47, 3) := by decide +kernel
theorem d48 : decode yB 48 = .ok (.putfield 15, 3) := by decide +kernel
theorem d51 : decode yB 51 = .ok (.aload_n 0, 1) := by decide +kernel
theorem d52 : decode yB 52 = .ok (.aload 5, 2) := by decide +kernel
theorem d54 : decode yB 54 = .ok (.putfield 9, 3) := by decide +kernel
theorem d57 : decode yB 57 = .ok (.return_, 1) := by decide +kernel
def site : List Cond := [.fieldLink "java/lang/String" 38 "java/lang/String" "COMPACT_STRINGS" "Z", Cmp3.tab, CodL.tab, .laysFinal "java/lang/String" "java/lang/String" "value" "[B", .fieldLink "java/lang/String" 9 "java/lang/String" "value" "[B", .laysFinal "java/lang/String" "java/lang/String" "coder" "B", .fieldLink "java/lang/String" 15 "java/lang/String" "coder" "B"] ++ objW "java/lang/String" 1 ++ staticW "java/lang/String" 177 Cmp3.yN ++ staticW "java/lang/String" 47 CodL.yN
def tab : Cond := tabOf yN yB 6 none site
def P (a : Addr) (D : Cell) (fV fC : Field) (b : Addr) (A : Cell) (z : Int32) (o len : Nat) (args : Array Value) (s : State) : Prop := args = #[.ref a, .ref b, .int (Int32.ofNat o), .int (Int32.ofNat len), .null] ∧ Blank "java/lang/String" a D s ∧ Found "java/lang/String" "value" "[B" fV s ∧ Found "java/lang/String" "coder" "B" fC s ∧ Ch b A s ∧ StaticIs s "java/lang/String" "COMPACT_STRINGS" "Z" (.int z) ∧ ¬ z = 0 ∧ 0 < len ∧ o + len ≤ A.slots.size ∧ len ≤ 536870912 ∧ ∀ i, i < len → ¬ 255 < cv A (o + i)
def E (a : Addr) (D : Cell) (fV fC : Field) (A : Cell) (o len : Nat) (r : Option Value) (s u : State) : Prop := Got a D fV fC A o len r s u
/-- len > 0, no char of the range above 255: a Latin-1 String of their low bytes -/
theorem law (l : Launch) (a : Addr) (D : Cell) (fV fC : Field) (b : Addr) (A : Cell) (z : Int32) (o len : Nat) : Law l yN 5 4 2 35 yB 6 none site (P a D fV fC b A z o len) (E a D fV fC A o len) [⟨a, fC.slot⟩, ⟨a, fV.slot⟩] 1 len := by
  refine Law.of_walk (plainFor_of_name (by decide +kernel)) (by decide +kernel) (by decide +kernel) (by decide) (fun _ _ h => by rw [h.1]; rfl) (fun _ U U' hal hh h => ⟨h.1, h.2.1.mv hal hh, h.2.2.1.al hal, h.2.2.2.1.al hal, h.2.2.2.2.1.mv hal hh, h.2.2.2.2.2.1.there hal hh, h.2.2.2.2.2.2⟩) (fun r U U' V V' h1 hal h2 h => Got.mv r U U' V V' h1 hal h2 h) ?_
  intro p e s m args below meth c s₁ X0 hexec hbytes hml hret hlk hnm hown hh0 W hP
  obtain ⟨rfl, hB, f1, f2, hA, s1, hz, l0, l1, l2, hp⟩ := hP
  have a31 := hA.1.2.2.2
  have c1 : Steps p.tables e below (s₁.setTop (entryFrame m #[.ref a, .ref b, .int (Int32.ofNat o), .int (Int32.ofNat len), .null] 6)) (s₁.setTop (mkF m 0 #[.val (.ref a), .val (.ref b), .val (.int (Int32.ofNat o)), .val (.int (Int32.ofNat len)), .val .null, .unset] [])) := entry rfl
  have c2 : Steps p.tables e below (s₁.setTop (entryFrame m #[.ref a, .ref b, .int (Int32.ofNat o), .int (Int32.ofNat len), .null] 6)) (s₁.setTop (mkF m 1 #[.val (.ref a), .val (.ref b), .val (.int (Int32.ofNat o)), .val (.int (Int32.ofNat len)), .val .null, .unset] [.ref a])) := c1.trans (by
    refine XS.aloadN X0.here hexec rfl (hb hbytes d0) rfl rfl ?_
    exact Steps.refl _)
  obtain ⟨T3, X3, q3, st3⟩ := X0.oinit hexec hown (wks W (objW "java/lang/String" 1)) (g := (mkF m 1 #[.val (.ref a), .val (.ref b), .val (.int (Int32.ofNat o)), .val (.int (Int32.ofNat len)), .val .null, .unset] [.ref a])) rfl (by rw [hml]; rfl) (rest := []) rfl (hb hbytes d1) (W := 0) (by show 2 * 0 + 0 ≤ _; decide) (Nat.le_of_ble_eq_true rfl) (Nat.le_of_ble_eq_true rfl)
  have hh3 := q3.trans hh0
  have c4 : Steps p.tables e below (s₁.setTop (entryFrame m #[.ref a, .ref b, .int (Int32.ofNat o), .int (Int32.ofNat len), .null] 6)) (T3.setTop (mkF m 27 #[.val (.ref a), .val (.ref b), .val (.int (Int32.ofNat o)), .val (.int (Int32.ofNat len)), .val .null, .unset] [])) := (c2.trans (st3 _ (Steps.refl _))).trans (by
    refine XS.iloadN X3.here hexec rfl (hb hbytes d4) rfl ?_
    refine XS.ifYes X3.here hexec rfl (pc0 := 5) rfl (hb hbytes d5) rfl (i0_ne_t (nz32 (by omega) l0)) (by decide) rfl ?_
    exact Steps.refl _)
  obtain ⟨T5, X5, q5, st5⟩ := X3.sget hexec hown (wk W (.fieldLink "java/lang/String" 38 "java/lang/String" "COMPACT_STRINGS" "Z")) s1 (fun _ _ h => by rw [hh3]; exact h) (g := (mkF m 27 #[.val (.ref a), .val (.ref b), .val (.int (Int32.ofNat o)), .val (.int (Int32.ofNat len)), .val .null, .unset] [])) rfl (hb hbytes d27)
  have hh5 := q5.trans hh3
  have c6 : Steps p.tables e below (s₁.setTop (entryFrame m #[.ref a, .ref b, .int (Int32.ofNat o), .int (Int32.ofNat len), .null] 6)) (T5.setTop (mkF m 30 #[.val (.ref a), .val (.ref b), .val (.int (Int32.ofNat o)), .val (.int (Int32.ofNat len)), .val .null, .unset] [.int z])) := c4.trans (st5 _ (Steps.refl _))
  have c7 : Steps p.tables e below (s₁.setTop (entryFrame m #[.ref a, .ref b, .int (Int32.ofNat o), .int (Int32.ofNat len), .null] 6)) (T5.setTop (mkF m 36 #[.val (.ref a), .val (.ref b), .val (.int (Int32.ofNat o)), .val (.int (Int32.ofNat len)), .val .null, .unset] [.int (Int32.ofNat len), .int (Int32.ofNat o), .ref b])) := c6.trans (by
    refine XS.ifNo X5.here hexec rfl (hb hbytes d30) rfl (i0_eq_f hz) ?_
    refine XS.aloadN X5.here hexec rfl (hb hbytes d33) rfl rfl ?_
    refine XS.iloadN X5.here hexec rfl (hb hbytes d34) rfl ?_
    refine XS.iloadN X5.here hexec rfl (hb hbytes d35) rfl ?_
    exact Steps.refl _)
  obtain ⟨v8, T8, X8, E8, g8⟩ := X5.callS hexec (Cmp3.law l b A o len) hown (wks W (staticW "java/lang/String" 177 Cmp3.yN)) (wk W Cmp3.tab) (W := 0) (Nat.le_of_ble_eq_true rfl) (Nat.le_of_ble_eq_true rfl) (Nat.le_refl _) (by show 0 + len ≤ len; omega) (g := (mkF m 36 #[.val (.ref a), .val (.ref b), .val (.int (Int32.ofNat o)), .val (.int (Int32.ofNat len)), .val .null, .unset] [.int (Int32.ofNat len), .int (Int32.ofNat o), .ref b])) rfl (by rw [hml]; rfl) c7 (argsL := [.ref b, .int (Int32.ofNat o), .int (Int32.ofNat len)]) (rest := []) rfl rfl (by show 2 * 0 + 0 ≤ _; decide) (hb hbytes d36) (⟨rfl, hA.mv X5.warmed.alike hh5, l1, l2, hp⟩)
  obtain ⟨e8, z8⟩ := E8
  obtain ⟨rfl, N, n1, n2, n3, n4, n5, n6⟩ := NewArr.mv _ T5 s _ _ hh5.symm (Vm.Alike.refl _) rfl e8
  rw [hh5] at z8
  have hB1 := hB.keep X8.warmed.alike (n6 _ _ hB.1)
  have hne : s.heap.size ≠ a := (Nat.ne_of_lt (Array.getElem?_eq_some_iff.mp hB.1).1).symm
  have c9 : Steps p.tables e below (s₁.setTop (entryFrame m #[.ref a, .ref b, .int (Int32.ofNat o), .int (Int32.ofNat len), .null] 6)) (T8.setTop (mkF m 39 #[.val (.ref a), .val (.ref b), .val (.int (Int32.ofNat o)), .val (.int (Int32.ofNat len)), .val .null, .unset] [.ref s.heap.size])) := g8
  have c10 : Steps p.tables e below (s₁.setTop (entryFrame m #[.ref a, .ref b, .int (Int32.ofNat o), .int (Int32.ofNat len), .null] 6)) (T8.setTop (mkF m 45 #[.val (.ref a), .val (.ref b), .val (.int (Int32.ofNat o)), .val (.int (Int32.ofNat len)), .val .null, .val (.ref s.heap.size)] [.int (Int32.ofNat N.slots.size), .ref s.heap.size, .ref a])) := by
    have hc : Steps p.tables e below (s₁.setTop (entryFrame m #[.ref a, .ref b, .int (Int32.ofNat o), .int (Int32.ofNat len), .null] 6)) (T8.setTop (mkF m 45 #[.val (.ref a), .val (.ref b), .val (.int (Int32.ofNat o)), .val (.int (Int32.ofNat len)), .val .null, .val (.ref s.heap.size)] [.int (Int32.ofNat len), .ref s.heap.size, .ref a])) := c9.trans (by
      refine XS.astore X8.here hexec rfl (hb hbytes d39) rfl rfl rfl ?_
      refine XS.aloadN X8.here hexec rfl (hb hbytes d41) rfl rfl ?_
      refine XS.aload X8.here hexec rfl (hb hbytes d42) rfl rfl ?_
      refine XS.iloadN X8.here hexec rfl (hb hbytes d44) rfl ?_
      exact Steps.refl _)
    rw [n4]; exact hc
  obtain ⟨v11, T11, X11, E11, g11⟩ := X8.callS hexec (CodL.law l s.heap.size N) hown (wks W (staticW "java/lang/String" 47 CodL.yN)) (wk W CodL.tab) (W := 1) (Nat.le_of_ble_eq_true rfl) (Nat.le_of_ble_eq_true rfl) (Nat.le_refl _) (by show 0 + len + 0 ≤ len; omega) (g := (mkF m 45 #[.val (.ref a), .val (.ref b), .val (.int (Int32.ofNat o)), .val (.int (Int32.ofNat len)), .val .null, .val (.ref s.heap.size)] [.int (Int32.ofNat N.slots.size), .ref s.heap.size, .ref a])) rfl (by rw [hml]; rfl) c10 (argsL := [.ref s.heap.size, .int (Int32.ofNat N.slots.size)]) (rest := [.ref a]) rfl rfl (by show 2 * 0 + (1 + 0) ≤ _; decide) (hb hbytes d45) (⟨rfl, n1⟩)
  obtain ⟨rfl, q11⟩ := E11
  have hB11 := hB1.mv (X8.warmed.alike.symm.trans X11.warmed.alike) q11
  have c12 : Steps p.tables e below (s₁.setTop (entryFrame m #[.ref a, .ref b, .int (Int32.ofNat o), .int (Int32.ofNat len), .null] 6)) (T11.setTop (mkF m 48 #[.val (.ref a), .val (.ref b), .val (.int (Int32.ofNat o)), .val (.int (Int32.ofNat len)), .val .null, .val (.ref s.heap.size)] [.int 0, .ref a])) := g11
  obtain ⟨T13, X13, p13, bl13, sl13, st13⟩ := X11.finit hexec hown (wk W (.fieldLink "java/lang/String" 15 "java/lang/String" "coder" "B")) (Or.inr ⟨_, (wk W (.laysFinal "java/lang/String" "java/lang/String" "coder" "B"))⟩) (Or.inl ⟨rfl, hnm⟩) f2 (Or.inl rfl) hB11 (t := .byte) (by decide +kernel) rfl (g := (mkF m 48 #[.val (.ref a), .val (.ref b), .val (.int (Int32.ofNat o)), .val (.int (Int32.ofNat len)), .val .null, .val (.ref s.heap.size)] [.int 0, .ref a])) rfl (rest := []) rfl (hb hbytes d48)
  have c14 : Steps p.tables e below (s₁.setTop (entryFrame m #[.ref a, .ref b, .int (Int32.ofNat o), .int (Int32.ofNat len), .null] 6)) (T13.setTop (mkF m 54 #[.val (.ref a), .val (.ref b), .val (.int (Int32.ofNat o)), .val (.int (Int32.ofNat len)), .val .null, .val (.ref s.heap.size)] [.ref s.heap.size, .ref a])) := (c12.trans (st13 _ (Steps.refl _))).trans (by
    refine XS.aloadN X13.here hexec rfl (hb hbytes d51) rfl rfl ?_
    refine XS.aload X13.here hexec rfl (hb hbytes d52) rfl rfl ?_
    exact Steps.refl _)
  obtain ⟨T15, X15, p15, bl15, sl15, st15⟩ := X13.finit hexec hown (wk W (.fieldLink "java/lang/String" 9 "java/lang/String" "value" "[B")) (Or.inr ⟨_, (wk W (.laysFinal "java/lang/String" "java/lang/String" "value" "[B"))⟩) (Or.inl ⟨rfl, hnm⟩) f1 (Or.inl rfl) bl13 (t := (.array .byte)) (by decide +kernel) rfl (g := (mkF m 54 #[.val (.ref a), .val (.ref b), .val (.int (Int32.ofNat o)), .val (.int (Int32.ofNat len)), .val .null, .val (.ref s.heap.size)] [.ref s.heap.size, .ref a])) rfl (rest := []) rfl (hb hbytes d54)
  have c16 : Steps p.tables e below (s₁.setTop (entryFrame m #[.ref a, .ref b, .int (Int32.ofNat o), .int (Int32.ofNat len), .null] 6)) (T15.setTop (mkF m 57 #[.val (.ref a), .val (.ref b), .val (.int (Int32.ofNat o)), .val (.int (Int32.ofNat len)), .val .null, .val (.ref s.heap.size)] [])) := c14.trans (st15 _ (Steps.refl _))
  have ap := apart (Or.inr ⟨_, (wk W (.laysFinal "java/lang/String" "java/lang/String" "value" "[B"))⟩) (Or.inr ⟨_, (wk W (.laysFinal "java/lang/String" "java/lang/String" "coder" "B"))⟩) f1 f2 (t₁ := .array .byte) (t₂ := .byte) (by decide +kernel) (by decide +kernel) (by decide)
  have al := X8.warmed.alike.symm.trans X15.warmed.alike
  have n7 : T11.heap[s.heap.size]? = some N := by rw [q11]; exact n1.1
  exact ⟨T15, none, _, _, _, X15, by simp, rfl, by omega, (fun _ => rfl), ⟨rfl, _, N, bl15, ((Same.refl D _).set _ (by simp)).set _ (by simp), sl15, (Cell.slots_setSlot_ne _ ap).trans sl13, n1.keep al (p15.other hne (p13.other hne n7)), n2, by rw [al.findClass]; exact n3, n4, n5, fun y c h1 h2 => p15.other h1 (p13.other h1 (by rw [q11]; exact n6 y c h2)), by rw [p15.2.2, p13.2.2, q11]; exact z8⟩, fun fs hl => c16.trans (X15.returnOut hexec hret (hb hbytes d57) hl)⟩
end New4
namespace New1
def yN : MethodName := ⟨"java/lang/String", "<init>", "([C)V"⟩
abbrev yB : ByteArray := jdk_42_method_3_code
theorem d0 : decode yB 0 = .ok (.aload_n 0, 1) := by decide +kernel
theorem d1 : decode yB 1 = .ok (.aload_n 1, 1) := by decide +kernel
theorem d2 : decode yB 2 = .ok (.iconst 0, 1) := by decide +kernel
theorem d3 : decode yB 3 = .ok (.aload_n 1, 1) := by decide +kernel
theorem d4 : decode yB 4 = .ok (.arraylength, 1) := by decide +kernel
theorem d5 : decode yB 5 = .ok (.aconst_null, 1) := by decide +kernel
theorem d6 : decode yB 6 = .ok (.invokespecial 27, 3) := by decide +kernel
theorem d9 : decode yB 9 = .ok (.return_, 1) := by decide +kernel
def site : List Cond := [New4.tab] ++ initW "java/lang/String" 27 New4.yN
def tab : Cond := tabOf yN yB 2 none site
def P (a : Addr) (D : Cell) (fV fC : Field) (b : Addr) (A : Cell) (z : Int32) (args : Array Value) (s : State) : Prop := args = #[.ref a, .ref b] ∧ Blank "java/lang/String" a D s ∧ Found "java/lang/String" "value" "[B" fV s ∧ Found "java/lang/String" "coder" "B" fC s ∧ Ch b A s ∧ StaticIs s "java/lang/String" "COMPACT_STRINGS" "Z" (.int z) ∧ ¬ z = 0 ∧ 0 < A.slots.size ∧ A.slots.size ≤ 536870912 ∧ ∀ i, i < A.slots.size → ¬ 255 < cv A i
def E (a : Addr) (D : Cell) (fV fC : Field) (A : Cell) (r : Option Value) (s u : State) : Prop := Got a D fV fC A 0 A.slots.size r s u
/-- new String(chars), not empty, no char above 255: a Latin-1 String of their low bytes -/
theorem law (l : Launch) (a : Addr) (D : Cell) (fV fC : Field) (b : Addr) (A : Cell) (z : Int32) : Law l yN 2 1 3 52 yB 2 none site (P a D fV fC b A z) (E a D fV fC A) [⟨a, fC.slot⟩, ⟨a, fV.slot⟩] 1 A.slots.size := by
  refine Law.of_walk (plainFor_of_name (by decide +kernel)) (by decide +kernel) (by decide +kernel) (by decide) (fun _ _ h => by rw [h.1]; rfl) (fun _ U U' hal hh h => ⟨h.1, h.2.1.mv hal hh, h.2.2.1.al hal, h.2.2.2.1.al hal, h.2.2.2.2.1.mv hal hh, h.2.2.2.2.2.1.there hal hh, h.2.2.2.2.2.2⟩) (fun r U U' V V' h1 hal h2 h => Got.mv r U U' V V' h1 hal h2 h) ?_
  intro p e s m args below meth c s₁ X0 hexec hbytes hml hret hlk hnm hown hh0 W hP
  obtain ⟨rfl, hB, f1, f2, hA, s1, hz, l0, l2, hp⟩ := hP
  have c1 : Steps p.tables e below (s₁.setTop (entryFrame m #[.ref a, .ref b] 2)) (s₁.setTop (mkF m 0 #[.val (.ref a), .val (.ref b)] [])) := entry rfl
  have c2 : Steps p.tables e below (s₁.setTop (entryFrame m #[.ref a, .ref b] 2)) (s₁.setTop (mkF m 6 #[.val (.ref a), .val (.ref b)] [.null, .int (Int32.ofNat A.slots.size), .int 0, .ref b, .ref a])) := c1.trans (by
    refine XS.aloadN X0.here hexec rfl (hb hbytes d0) rfl rfl ?_
    refine XS.aloadN X0.here hexec rfl (hb hbytes d1) rfl rfl ?_
    refine iconstV X0.here hexec rfl 0 (hb hbytes d2) (by decide) ?_
    refine XS.aloadN X0.here hexec rfl (hb hbytes d3) rfl rfl ?_
    refine X0.alen hexec (hA.1.mv X0.warmed.alike hh0) rfl rfl (hb hbytes d4) ?_
    refine XS.aconstNull X0.here hexec rfl (hb hbytes d5) ?_
    exact Steps.refl _)
  obtain ⟨v3, T3, X3, E3, g3⟩ := X0.callN hexec (New4.law l a D fV fC b A z 0 A.slots.size) rfl hown (wks W (initW "java/lang/String" 27 New4.yN)) (W New4.tab (by simp only [site, List.mem_cons, List.mem_append, true_or, or_true])) (W := 0) (Nat.le_of_ble_eq_true rfl) (Nat.le_of_ble_eq_true rfl) (Nat.le_refl _) (by show 0 + A.slots.size ≤ A.slots.size; omega) (g := (mkF m 6 #[.val (.ref a), .val (.ref b)] [.null, .int (Int32.ofNat A.slots.size), .int (Int32.ofNat 0), .ref b, .ref a])) rfl (by rw [hml]; rfl) c2 (argsL := [.ref b, .int (Int32.ofNat 0), .int (Int32.ofNat A.slots.size), .null]) (rest := []) rfl rfl (by show 2 * 0 + 0 ≤ _; decide) (hb hbytes d6) (⟨rfl, hB.mv X0.warmed.alike hh0, f1.al X0.warmed.alike, f2.al X0.warmed.alike, hA.mv X0.warmed.alike hh0, s1.there X0.warmed.alike hh0, hz, l0, by omega, l2, fun i hi => by rw [Nat.zero_add]; exact hp i hi⟩)
  have e0 := Got.mv _ s₁ s _ _ hh0.symm (Vm.Alike.refl _) rfl E3
  obtain rfl := e0.1
  have c4 : Steps p.tables e below (s₁.setTop (entryFrame m #[.ref a, .ref b] 2)) (T3.setTop (mkF m 9 #[.val (.ref a), .val (.ref b)] [])) := g3
  exact ⟨T3, none, _, _, _, X3, by simp, rfl, by omega, (fun _ => rfl), e0, fun fs hl => c4.trans (X3.returnOut hexec hret (hb hbytes d9) hl)⟩
theorem pays {l : Launch} {R : Room} {p : Program} {e : Env} {below : List Frame} {s : State} {sargs : Array Value} {len W : Nat} (a : Addr) (D : Cell) (fV fC : Field) (b : Addr) (A : Cell) (z : Int32) (htab : tab.before sargs s = true) (hfr : 4 ≤ R.frames) (hlo : W + 65 ≤ R.locals) :
    Back l R p e below s sargs yN len W (fun A₁ a₁ => A₁.cells + 1 ≤ R.cells ∧ A₁.slots + A.slots.size ≤ R.slots ∧ P a D fV fC b A z a₁ A₁.U) (fun A₁ _ v₁ B₁ => E a D fV fC A v₁ A₁.U B₁.U ∧ B₁.locs = A₁.locs ++ [⟨a, fC.slot⟩, ⟨a, fV.slot⟩] ∧ B₁.cells = A₁.cells + 1 ∧ B₁.slots = A₁.slots + A.slots.size) :=
  (law l a D fV fC b A z).pays htab hfr (by omega)
end New1
/-- the byte, read back as charAt reads it, is the char -/
theorem lo8_mask {x : Int32} (h0 : ¬ x < 0) (h1 : ¬ 255 < x) : lo8 x &&& 255 = x := by
  have t : ∀ k : Fin 256, lo8 (Int32.ofNat k.val) &&& 255 = Int32.ofNat k.val := by decide +kernel
  rw [Int32.lt_iff_toInt_lt] at h0 h1
  have e0 : (0 : Int32).toInt = 0 := rfl
  have e1 : (255 : Int32).toInt = 255 := rfl
  obtain ⟨k, hk⟩ : ∃ k : Nat, x.toInt = k := ⟨x.toInt.toNat, by omega⟩
  have hx : x = Int32.ofNat k := Int32.toInt_inj.mp (by rw [hk, Int32.toInt_ofNat_small (by omega)])
  rw [hx]
  exact t ⟨k, by omega⟩
end StrChars
namespace StrChars.Road
open Jvm Sem ClassFile Op Lib Jvm.Stand Jvm.Free Jvm.Free.XT
open Jvm.Lib.Cold (StaticIs)
abbrev ST : String := "java/lang/String"
/-- every table word that New1's law asks, flat -/
abbrev words : List Jvm.Cond := [.code New1.yN New1.yB 2 none, .initialized ST, .methodLink ST 27 New4.yN, .instanceMethod New4.yN,
  .code New4.yN New4.yB 6 none, .fieldLink ST 38 ST "COMPACT_STRINGS" "Z", .laysFinal ST ST "value" "[B", .fieldLink ST 9 ST "value" "[B", .laysFinal ST ST "coder" "B", .fieldLink ST 15 ST "coder" "B",
  .methodLink ST 1 Lib.objectInit, .instanceMethod Lib.objectInit, .code Lib.objectInit ⟨#[0xb1]⟩ 1 none, .methodLink ST 177 Cmp3.yN, .static Cmp3.yN, .methodLink ST 47 CodL.yN, .static CodL.yN,
  .code Cmp3.yN Cmp3.yB 6 (some (.array .byte)), .initialized U16, .arrayClass .byte, .methodLink U16 115 Cmp5.yN, .static Cmp5.yN, .code Cmp5.yN Cmp5.yB 7 (some .int), .code CodL.yN CodL.yB 2 (some .byte)]
theorem tab_of {a : Array Value} {s : State} (h : ∀ w ∈ words, w.before a s = true) : New1.tab.before a s = true := by
  have h5 : Cmp5.tab.before a s = true := unparts (wk h (.code Cmp5.yN Cmp5.yB 7 (some .int))) (wks h (.initialized Cmp5.yN.cls :: Cmp5.site))
  have hc : CodL.tab.before a s = true := unparts (wk h (.code CodL.yN CodL.yB 2 (some .byte))) (wks h (.initialized CodL.yN.cls :: CodL.site))
  have q5 : ∀ w ∈ Cmp5.tab :: words, w.before a s = true := fun w hw => (List.mem_cons.mp hw).elim (fun e => e ▸ h5) (h w)
  have h3 : Cmp3.tab.before a s = true := unparts (wk q5 (.code Cmp3.yN Cmp3.yB 6 (some (.array .byte)))) (wks q5 (.initialized Cmp3.yN.cls :: Cmp3.site))
  have q3 : ∀ w ∈ Cmp3.tab :: CodL.tab :: words, w.before a s = true := fun w hw => (List.mem_cons.mp hw).elim (fun e => e ▸ h3) fun hw => (List.mem_cons.mp hw).elim (fun e => e ▸ hc) (h w)
  have h4 : New4.tab.before a s = true := unparts (wk q3 (.code New4.yN New4.yB 6 none)) (wks q3 (.initialized New4.yN.cls :: New4.site))
  have q4 : ∀ w ∈ New4.tab :: words, w.before a s = true := fun w hw => (List.mem_cons.mp hw).elim (fun e => e ▸ h4) (h w)
  exact unparts (wk q4 (.code New1.yN New1.yB 2 none)) (wks q4 (.initialized New1.yN.cls :: New1.site))
/-- the words ride from the start Z to the walk's own state -/
theorem moved {Z s : State} {a0 args : Array Value} (hZ : Z.Warmed39 s.vm) (hw : ∀ d ∈ words, d.before a0 Z = true) : ∀ d ∈ words, d.before args s = true := fun d hd => by
  have q := hw d hd
  have t : ∀ d ∈ words, d = .arrayClass .byte ∨ (d.onTables && d.keepsFace) = true := by decide +kernel
  rcases t d hd with rfl | t
  · exact RoadKit.mvA hZ q
  · exact RoadKit.mv hZ q t
/-- WHAT COMES BACK, over the tables of the start Z: h the heap at the call, h' behind it -/
def Q (Z : State) (x : Addr) (A : Cell) (h : Heap) (v : Option Value) (h' : Heap) (L : List Loc) : Prop := v = none ∧ (∀ y ∈ L, y.base = x) ∧ RoadKit.Keep h h' [x] ∧ h'.size = h.size + 1 ∧ RoadKit.Exa Z h' x ST ∧ RoadKit.Fld Z h' x ST "value" "[B" (.ref h.size) ∧ RoadKit.Fld Z h' x ST "coder" "B" (.int 0) ∧
  (∃ V : Cell, RoadKit.Arr Z h' h.size V .byte ∧ V.vm = .none ∧ Z.vm.findClass "[B" = some V.cls ∧ V.slots.size = A.slots.size ∧ ∀ j, j < A.slots.size → V.slots[j]? = some (.int (lo8 (cv A j)))) ∧
  ∀ (O n d : String) (w : Value), RoadKit.Fld Z h x O n d w → RoadKit.slotOf Z O n d ≠ RoadKit.slotOf Z ST "value" "[B" → RoadKit.slotOf Z O n d ≠ RoadKit.slotOf Z ST "coder" "B" → RoadKit.Fld Z h' x O n d w
/-- **new String(chars) AT A CALL, IN THE ROAD'S FORM**: for specialBack behind newO: x the fresh String, b the char[] with the cell A -/
theorem back {p : Program} {l : Launch} {e : Env} {R : Room} {s : State} {args : Array Value} {below : List Frame} {len W : Nat} {Z : State} {a0 : Array Value} {h : Heap} (hZ : Z.Warmed39 s.vm) (hw : ∀ d ∈ words, d.before a0 Z = true) {kI : Nat} (wi : (Jvm.Cond.instantiable ST kI).before a0 Z = true)
    {x b : Addr} {A : Cell} {z : Int32} {v0 c0 : Value} (E : RoadKit.Exa Z h x ST) (V : RoadKit.Fld Z h x ST "value" "[B" v0) (C : RoadKit.Fld Z h x ST "coder" "B" c0) (K : RoadKit.Arr Z h b A .char) (hty : Typed .char A) (S : RoadKit.Sta Z h ST "COMPACT_STRINGS" "Z" (.int z)) (hz : ¬ z = 0)
    (l0 : 0 < A.slots.size) (l2 : A.slots.size ≤ 536870912) (hp : ∀ i, i < A.slots.size → ¬ 255 < cv A i) (hfr : 4 ≤ R.frames) (hlo : W + 65 ≤ R.locals) :
    Back l R p e below s args New1.yN len W (fun P a => a = #[.ref x, .ref b] ∧ P.U.heap = h ∧ P.cells + 1 ≤ R.cells ∧ P.slots + A.slots.size ≤ R.slots)
      (fun P _ v B => ∃ L, Q Z x A h v B.U.heap L ∧ B.locs = P.locs ++ L ∧ B.cells = P.cells + 1 ∧ B.slots = P.slots + A.slots.size) := by
  intro m meth c P g ig mk a X hg hsize hdg hW hn hp'
  obtain ⟨rfl, rfl, r1, r2⟩ := hp'
  have al : Z.vm.Alike P.U.vm := hZ.alike.trans X.warmed.alike
  obtain ⟨D, cfV, kV, iV, fV, hD, gV, stV, knV, obV, asV, slV⟩ := id V
  obtain ⟨D', cfC, kC, iC, fC, hD', gC, stC, -, -, asC, slC⟩ := id C
  cases hD.symm.trans hD'
  obtain ⟨D2, kD, e1, e2, e3, e4, e5⟩ := id E
  cases hD.symm.trans e1
  obtain ⟨c2, k2, i1, i2, i3, -⟩ := Cond.instantiable_spec wi
  cases e2.symm.trans i1
  cases e3.symm.trans i2
  obtain ⟨kU, u1, u2⟩ := al.2.2 _ _ e3
  have hB : Blank ST x D P.U := ⟨hD, ⟨knV, fun q hq => by rw [hq] at obV; cases obV⟩, by rw [al.findClass]; exact e2, kU, u1, by rw [u2]; exact i3, by rw [u2]; exact e5 i3⟩
  have F1 : Found ST "value" "[B" fV P.U := ⟨SBG.found_only al ⟨cfV, kV, iV, gV⟩, stV⟩
  have F2 : Found ST "coder" "B" fC P.U := ⟨SBG.found_only al ⟨cfC, kC, iC, gC⟩, stC⟩
  have hA : Ch b A P.U := ⟨⟨K.1, State.isArrayOf_alike al K.2.1, K.2.2, by omega⟩, hty⟩
  have hS : StaticIs P.U ST "COMPACT_STRINGS" "Z" (.int z) := by
    obtain ⟨cfS, iS, kS, fS, st, cS, t1, t2, t3, t4, t5, t6, t7⟩ := S
    exact StaticIs.there (s := { Z with heap := P.U.heap }) ⟨cfS, iS, kS, fS, st, cS, t1, t2, t3, t4, t5, (fun q => by rw [q] at t6; cases t6), t7⟩ al rfl
  obtain ⟨v, B, X', ⟨⟨hv, E', V', q1, q2, q3, q4, q5, q6, q7, q8, q9, q10, q11⟩, hl, hc, hs⟩, st⟩ := New1.pays x D fV fC b A z (tab_of (moved hZ hw)) hfr hlo m meth c P g ig mk _ X hg hsize hdg hW hn ⟨r1, r2, rfl, hB, F1, F2, hA, hS, hz, l0, l2, hp⟩
  have al' : Z.vm.Alike B.U.vm := hZ.alike.trans X'.warmed.alike
  have hsz : E'.slots.size = D.slots.size := by
    obtain ⟨-, -, -, kB, w1, w2, w3⟩ := q1
    obtain ⟨kB', y1, y2⟩ := al'.2.2 _ _ e3
    rw [q2.2.1] at w1
    cases w1.symm.trans y1
    rw [w3, e5 i3, y2]
  refine ⟨v, B, X', ⟨_, ⟨hv, ?_, ⟨by omega, fun y cy hy hn' => q10 y cy (by simpa using hn') hy, fun y cy hy => ?_⟩, q11, ⟨E', _, q1.1, by rw [q2.2.1]; exact e2, by rw [q2.2.1]; exact e3, by rw [q2.1]; exact obV, fun _ => by rw [hsz]; exact e5 i3⟩,
    ⟨E', cfV, kV, iV, fV, q1.1, gV, stV, by rw [q2.1]; exact knV, by rw [q2.1]; exact obV, by rw [q2.2.1]; exact asV, q3⟩, ⟨E', cfC, kC, iC, fC, q1.1, gC, stC, by rw [q2.1]; exact knV, by rw [q2.1]; exact obV, by rw [q2.2.1]; exact asC, q4⟩,
    ⟨V', ⟨q5.1, State.isArrayOf_alike al'.symm q5.2.1, q5.2.2.1⟩, q6, by rw [← al'.findClass]; exact q7, q8, fun j hj => by have := q9 j hj; rwa [Nat.zero_add] at this⟩, fun O n d w F n1 n2 => ?_⟩, hl, hc, hs⟩, st⟩
  · intro y hy
    simp only [List.mem_cons, List.not_mem_nil, or_false] at hy
    rcases hy with rfl | rfl <;> rfl
  · by_cases q : y = x
    · subst q
      cases hD.symm.trans hy
      exact ⟨E', q1.1, q2.2.1, q2.1, hsz⟩
    · exact ⟨cy, q10 y cy q hy, rfl, rfl, rfl⟩
  · obtain ⟨D3, cf, k, i, f, g1, g2, g3, g4, g5, g6, g7⟩ := F
    cases hD.symm.trans g1
    simp only [RoadKit.slotOf, g2, gV, gC, Option.map_some, Option.getD_some] at n1 n2
    exact ⟨E', cf, k, i, f, q1.1, g2, g3, by rw [q2.1]; exact g4, by rw [q2.1]; exact g5, by rw [q2.2.1]; exact g6, by rw [q2.2.2 f.slot (by simp [n1, n2])]; exact g7⟩
end StrChars.Road
namespace StrChars.Road
open Jvm Sem ClassFile Op Lib Jvm.Stand Jvm.Free Jvm.Free.XT
/-- WHAT COMES BACK, the byte[] as a list of values -/
def QA (Z : State) (x : Addr) (zn : Int32) (cs : List Int32) (h : Heap) (v : Option Value) (h' : Heap) (L : List Loc) : Prop := v = none ∧ (∀ y ∈ L, y.base = x) ∧ RoadKit.Keep h h' [x] ∧ h'.size = h.size + 1 ∧ RoadKit.Exa Z h' x ST ∧ RoadKit.Fld Z h' x ST "value" "[B" (.ref h.size) ∧ RoadKit.Fld Z h' x ST "coder" "B" (.int 0) ∧
  (∃ kb, Z.vm.findClass "[B" = some kb ∧ RoadKit.Arv Z h' h.size kb .byte zn (cs.map fun c => .int (lo8 c)) (.int 0)) ∧
  ∀ (O n d : String) (w : Value), RoadKit.Fld Z h x O n d w → RoadKit.slotOf Z O n d ≠ RoadKit.slotOf Z ST "value" "[B" → RoadKit.slotOf Z O n d ≠ RoadKit.slotOf Z ST "coder" "B" → RoadKit.Fld Z h' x O n d w
/-- **new String(chars) AT A CALL, THE ARRAYS AS LISTS**: the char[] at b holds cs, not empty, no char above 255 -/
theorem backArv {p : Program} {l : Launch} {e : Env} {R : Room} {s : State} {args : Array Value} {below : List Frame} {len W : Nat} {Z : State} {a0 : Array Value} {h : Heap} (hZ : Z.Warmed39 s.vm) (hw : ∀ d ∈ words, d.before a0 Z = true) {kI : Nat} (wi : (Jvm.Cond.instantiable ST kI).before a0 Z = true)
    {x b : Addr} {k : ClassId} {zn z : Int32} {cs : List Int32} {dv v0 c0 : Value} (E : RoadKit.Exa Z h x ST) (V : RoadKit.Fld Z h x ST "value" "[B" v0) (C : RoadKit.Fld Z h x ST "coder" "B" c0) (K : RoadKit.Arv Z h b k .char zn (cs.map Value.int) dv) (S : RoadKit.Sta Z h ST "COMPACT_STRINGS" "Z" (.int z)) (hz : ¬ z = 0)
    (hlen : zn.toNatClampNeg = cs.length) (h0 : 0 < cs.length) (hbig : cs.length ≤ 536870912) (hall : ∀ c ∈ cs, ¬ 255 < c) (hfr : 4 ≤ R.frames) (hlo : W + 65 ≤ R.locals) :
    Back l R p e below s args New1.yN len W (fun P a => a = #[.ref x, .ref b] ∧ P.U.heap = h ∧ P.cells + 1 ≤ R.cells ∧ P.slots + cs.length ≤ R.slots)
      (fun P _ v B => ∃ L, QA Z x zn cs h v B.U.heap L ∧ B.locs = P.locs ++ L ∧ B.cells = P.cells + 1 ∧ B.slots = P.slots + cs.length) := by
  obtain ⟨A, K1, K2, K3, K4, K5, K6⟩ := K
  have e : A.slots.size = cs.length := K3.trans hlen
  have hat : ∀ (i : Nat) (hi : i < cs.length), A.slots[i]? = some (.int cs[i]) := fun i hi => by rw [K5 i (by omega)]; simp [List.getD_eq_getElem?_getD, hi]
  have hcv : ∀ (i : Nat) (hi : i < cs.length), cv A i = cs[i] := fun i hi => by unfold cv; rw [hat i hi]
  have hty : Typed .char A := fun i v hv => by
    have hi : i < A.slots.size := (Array.getElem?_eq_some_iff.mp hv).1
    have q := K5 i hi
    rw [hv] at q
    rw [Option.some.inj q]
    exact K6 i hi
  refine Back.mono (back hZ hw wi E V C K1 hty S hz (by omega) (by omega) (fun i hi => by rw [hcv i (by omega)]; exact hall _ (List.getElem_mem _)) hfr hlo) (fun P a hp => ⟨hp.1, hp.2.1, hp.2.2.1, by rw [e]; exact hp.2.2.2⟩) (fun P a v B hp hq => ?_)
  obtain ⟨L, ⟨q1, q2, q3, q4, q5, q6, q7, ⟨V', v1, v2, v3, v4, v5⟩, q9⟩, hl, hc, hs⟩ := hq
  refine ⟨L, ⟨q1, q2, q3, q4, q5, q6, q7, ⟨V'.cls, v3, V', v1, rfl, by rw [v4, e, hlen], K4, fun i hi => ?_, fun i hi => ?_⟩, q9⟩, hl, hc, by rw [hs, e]⟩
  · have hi' : i < cs.length := by omega
    rw [v5 i (by omega), hcv i hi']; simp [List.getD_eq_getElem?_getD, hi']
  · have hi' : i < cs.length := by omega
    simp only [List.getD_eq_getElem?_getD, List.getElem?_map, List.getElem?_eq_getElem hi', Option.map_some, Option.getD_some]
    exact fits_lo8 _
end StrChars.Road
namespace StrChars.Road
open Jvm Sem ClassFile Op Lib Jvm.Stand Jvm.Free Jvm.Free.XT
/-- WHAT COMES BACK, in the writer's own shape -/
def QV (Z : State) (x : Addr) (N : Int32) (bs : List Int32) (h : Heap) (n0 : Nat) (v : Option Value) (h' : Heap) (L : List Loc) : Prop := v = none ∧ RoadKit.Fr n0 L ∧ RoadKit.Keep h h' [x] ∧ RoadKit.Exa Z h' x ST ∧ RoadKit.Fld Z h' x ST "coder" "B" (.int 0) ∧
  ∃ (t : Addr) (kb : ClassId), n0 ≤ t ∧ h.size ≤ t ∧ ¬ t = x ∧ RoadKit.Fld Z h' x ST "value" "[B" (.ref t) ∧ RoadKit.Arv Z h' t kb .byte N (bs.map Value.int) (.int 0)
/-- **new String(chars) AT A CALL, FOR THE WRITER**: a char[] of n known ints, each 0 to 255 -/
theorem backV {p : Program} {l : Launch} {e : Env} {R : Room} {s : State} {args : Array Value} {below : List Frame} {len W : Nat} {Z : State} {a0 : Array Value} {h : Heap} (hZ : Z.Warmed39 s.vm) (hw : ∀ d ∈ words, d.before a0 Z = true) {kI : Nat} (wi : (Jvm.Cond.instantiable ST kI).before a0 Z = true)
    {x b : Addr} {kC : ClassId} {cs bs : List Int32} {d v0 c0 : Value} {z N : Int32} {n n0 : Nat} (hx0 : n0 ≤ x) (hh0 : n0 ≤ h.size) (E : RoadKit.Exa Z h x ST) (V : RoadKit.Fld Z h x ST "value" "[B" v0) (C : RoadKit.Fld Z h x ST "coder" "B" c0) (K : RoadKit.Arv Z h b kC .char N (cs.map Value.int) d) (S : RoadKit.Sta Z h ST "COMPACT_STRINGS" "Z" (.int z)) (hz : ¬ z = 0)
    (hn : cs.length = n) (hN : N = Int32.ofNat n) (l0 : 0 < n) (l2 : n ≤ 4000) (hp : ∀ c ∈ cs, ¬ c < 0 ∧ ¬ (255 : Int32) < c) (hb : bs = cs.map (fun c => c.toInt8.toInt32)) (hfr : 4 ≤ R.frames) (hlo : W + 65 ≤ R.locals) :
    Back l R p e below s args (⟨"java/lang/String", "<init>", "([C)V"⟩ : MethodName) len W (fun P a => a = #[.ref x, .ref b] ∧ P.U.heap = h ∧ P.cells + 1 ≤ R.cells ∧ P.slots + n ≤ R.slots)
      (fun P _ v B => ∃ L, QV Z x N bs h n0 v B.U.heap L ∧ B.locs = P.locs ++ L ∧ B.cells = P.cells + 1 ∧ B.slots = P.slots + n) := by
  subst hn hN hb
  refine Back.mono (backArv hZ hw wi E V C K S hz (n32 (by omega)) l0 (by omega) (fun c hc => (hp c hc).2) hfr hlo) (fun P a hp => hp) (fun P a v B hp hq => ?_)
  obtain ⟨L, ⟨q1, q2, q3, q4, q5, q6, q7, ⟨kb, v1, v2⟩, q9⟩, hl, hc, hs⟩ := hq
  exact ⟨L, ⟨q1, fun y hy => by rw [q2 y hy]; exact hx0, q3, q5, q7, h.size, kb, hh0, Nat.le_refl _, Nat.ne_of_gt E.lt, q6, by rw [List.map_map]; exact v2⟩, hl, hc, hs⟩
end StrChars.Road
namespace StrChars
open Jvm Sem ClassFile Op Lib Jvm.Stand Jvm.Free.XT Jvm.Free.ALB Jvm.Free.JM Jvm.Free
open Jvm.Lib.Cold (StaticIs)
def hi8 (x : Int32) : Int32 := lo8 (x >>> ((8 : Int32) &&& 31))
/-- what StringUTF16.getChar makes of two bytes -/
def pairCh (u v : Int32) : Int32 := (((u &&& 255) <<< ((0 : Int32) &&& 31)) ||| ((v &&& 255) <<< ((8 : Int32) &&& 31))).toUInt32.toUInt16.toUInt32.toInt32
theorem lo8_and (x : Int32) : (lo8 x &&& 255).toBitVec.toNat = x.toBitVec.toNat % 256 := by
  have h : (lo8 x).toBitVec = (x.toBitVec.signExtend 8).signExtend 32 := by rw [lo8, Int8.toBitVec_toInt32, Int32.toBitVec_toInt8]
  rw [Int32.toBitVec_and, BitVec.toNat_and, h]
  have e : ((x.toBitVec.signExtend 8).signExtend 32).toNat % 256 = x.toBitVec.toNat % 256 := by
    rw [BitVec.toNat_signExtend]
    have hlt := x.toBitVec.isLt
    simp only [BitVec.toNat_setWidth, BitVec.toNat_signExtend]
    split <;> split <;> omega
  rw [← e]
  exact Nat.and_two_pow_sub_one_eq_mod _ 8
theorem pair_says {c : Int32} (h0 : ¬ c < 0) (h1 : ¬ 65535 < c) : pairCh (lo8 c) (hi8 c) = c := by
  rw [Int32.lt_iff_toInt_lt] at h0 h1
  have e0 : (0 : Int32).toInt = 0 := rfl
  have e1 : (65535 : Int32).toInt = 65535 := rfl
  have hc : c.toInt = c.toBitVec.toNat := by
    have := c.toBitVec.isLt
    have e : c.toInt = c.toBitVec.toInt := rfl
    rw [e] at h0 h1
    rw [e]
    rw [BitVec.toInt_eq_toNat_cond] at h0 h1 ⊢
    split at h0 <;> split <;> omega
  have hn : c.toBitVec.toNat < 65536 := by omega
  have a1 := lo8_and c
  have a2 : (hi8 c &&& 255).toBitVec.toNat = c.toBitVec.toNat / 256 := by
    rw [hi8, lo8_and]
    have e : ((8 : Int32) &&& 31) = 8 := by decide
    rw [e, Int32.toBitVec_shiftRight]
    have e2 : ((8 : Int32).toBitVec.smod 32) = 8#32 := by decide
    rw [e2, BitVec.sshiftRight_eq', BitVec.toNat_sshiftRight_of_msb_false (by rw [BitVec.msb_eq_false_iff_two_mul_lt]; omega)]
    show c.toBitVec.toNat >>> 8 % 256 = _
    rw [Nat.shiftRight_eq_div_pow]
    omega
  unfold pairCh
  apply Int32.toBitVec_inj.mp
  apply BitVec.eq_of_toNat_eq
  have f0 : ((0 : Int32) &&& 31) = 0 := by decide
  have f8 : ((8 : Int32) &&& 31) = 8 := by decide
  rw [f0, f8]
  have g : (((lo8 c &&& 255) <<< (0 : Int32)) ||| ((hi8 c &&& 255) <<< (8 : Int32))).toBitVec.toNat = c.toBitVec.toNat := by
    rw [Int32.toBitVec_or, Int32.toBitVec_shiftLeft, Int32.toBitVec_shiftLeft]
    have s0 : ((0 : Int32).toBitVec.smod 32) = 0#32 := by decide
    have s8 : ((8 : Int32).toBitVec.smod 32) = 8#32 := by decide
    rw [s0, s8, BitVec.toNat_or]
    simp only [BitVec.shiftLeft_eq', BitVec.toNat_shiftLeft, a1, a2]
    show (c.toBitVec.toNat % 256) <<< 0 % 2 ^ 32 ||| (c.toBitVec.toNat / 256) <<< 8 % 2 ^ 32 = _
    rw [Nat.shiftLeft_zero, Nat.mod_eq_of_lt (show c.toBitVec.toNat % 256 < 2 ^ 32 by omega), Nat.mod_eq_of_lt (show (c.toBitVec.toNat / 256) <<< 8 < 2 ^ 32 by rw [Nat.shiftLeft_eq]; omega), Nat.or_comm, ← Nat.shiftLeft_add_eq_or_of_lt (by omega), Nat.shiftLeft_eq]
    omega
  show BitVec.toNat (((((lo8 c &&& 255) <<< (0 : Int32)) ||| ((hi8 c &&& 255) <<< (8 : Int32))).toBitVec.setWidth 16).setWidth 32) = _
  rw [BitVec.toNat_setWidth, BitVec.toNat_setWidth, g]
  omega
end StrChars
namespace StrChars
open Jvm Sem ClassFile Op Lib Jvm.Stand Jvm.Free.XT Jvm.Free.ALB Jvm.Free.JM Jvm.Free
open Jvm.Lib.Cold (StaticIs)
/-- the array's cell V codes the n chars f 0 .. f (n - 1) by the coder cd, as the JDK does: coder 1 just where some char is above 255 -/
def Cod (cd : Int32) (n : Nat) (f : Nat → Int32) (V : Cell) : Prop := (cd = 0 ∧ V.slots.size = n ∧ ∀ j, j < n → V.slots[j]? = some (.int (lo8 (f j))) ∧ ¬ 255 < f j) ∨ (cd = 1 ∧ V.slots.size = 2 * n ∧ (∀ j, j < n → V.slots[2 * j]? = some (.int (lo8 (f j))) ∧ V.slots[2 * j + 1]? = some (.int (hi8 (f j)))) ∧ ∃ j, j < n ∧ 255 < f j)
/-- **x is a String of the n chars f 0 .. f (n - 1)**, Latin-1 or UTF-16; its array at t has the cell V -/
def Txt (x t : Addr) (V : Cell) (cd : Int32) (n : Nat) (f : Nat → Int32) (U : State) : Prop := Exact "java/lang/String" x U ∧ Has x "java/lang/String" "value" "[B" (.ref t) U ∧ Has x "java/lang/String" "coder" "B" (.int cd) U ∧ XT.Arr .byte t V U ∧ Cod cd n f V ∧ ∀ j, j < n → ¬ f j < 0 ∧ ¬ 65535 < f j
theorem Txt.mv {x t : Addr} {V : Cell} {cd : Int32} {n : Nat} {f : Nat → Int32} {U U' : State} (h : Txt x t V cd n f U) (hal : U.vm.Alike U'.vm) (hh : U'.heap = U.heap) : Txt x t V cd n f U' := ⟨h.1.mv hal hh, h.2.1.mv hal hh, h.2.2.1.mv hal hh, h.2.2.2.1.mv hal hh, h.2.2.2.2⟩
end StrChars
namespace StrChars.Road
open Jvm Sem ClassFile Op Lib Jvm.Stand Jvm.Free Jvm.Free.XT
open Jvm.Lib.Cold (StaticIs)
theorem consq {a : Array Value} {s : State} {c : Jvm.Cond} {L : List Jvm.Cond} (h0 : c.before a s = true) (h : ∀ w ∈ L, w.before a s = true) : ∀ w ∈ c :: L, w.before a s = true := fun w hw => (List.mem_cons.mp hw).elim (fun e => e ▸ h0) (h w)
/-- the bytes of the chars cs, low before high -/
def wideBytes : List Int32 → List Value
  | [] => []
  | c :: cs => .int (lo8 c) :: .int (hi8 c) :: wideBytes cs
theorem wide_lo (d : Value) : ∀ (cs : List Int32) (j : Nat), j < cs.length → (wideBytes cs).getD (2 * j) d = .int (lo8 (cs.getD j 0))
  | [], j, h => absurd h (Nat.not_lt_zero j)
  | c :: cs, 0, _ => rfl
  | c :: cs, j + 1, h => by
    have q := wide_lo d cs j (by simpa using h)
    rw [show 2 * (j + 1) = 2 * j + 1 + 1 from by omega]
    simpa [wideBytes] using q
theorem wide_hi (d : Value) : ∀ (cs : List Int32) (j : Nat), j < cs.length → (wideBytes cs).getD (2 * j + 1) d = .int (hi8 (cs.getD j 0))
  | [], j, h => absurd h (Nat.not_lt_zero j)
  | c :: cs, 0, _ => rfl
  | c :: cs, j + 1, h => by
    have q := wide_hi d cs j (by simpa using h)
    rw [show 2 * (j + 1) + 1 = 2 * j + 1 + 1 + 1 from by omega]
    simpa [wideBytes] using q
theorem low_at (d : Value) (cs : List Int32) (j : Nat) (h : j < cs.length) : (cs.map fun c => Value.int (lo8 c)).getD j d = .int (lo8 (cs.getD j 0)) := by
  simp [List.getD_eq_getElem?_getD, h]
/-- an array of N2 bytes vs codes the chars cs by the coder cd -/
def CodA (cs : List Int32) (cd N2 : Int32) (vs : List Value) : Prop := (cd = 0 ∧ N2 = Int32.ofNat cs.length ∧ vs = (cs.map fun c => Value.int (lo8 c)) ∧ ∀ c ∈ cs, ¬ 255 < c) ∨ (cd = 1 ∧ N2 = Int32.ofNat (2 * cs.length) ∧ vs = wideBytes cs ∧ ∃ c ∈ cs, 255 < c)
theorem CodA.cod {cs : List Int32} {cd N2 : Int32} {vs : List Value} {V : Cell} (h : CodA cs cd N2 vs) (hn : 2 * cs.length < 2 ^ 31) (hs : V.slots.size = N2.toNatClampNeg) (hv : RoadKit.Has V vs (.int 0)) : Cod cd cs.length (fun j => cs.getD j 0) V := by
  rcases h with ⟨rfl, rfl, rfl, h⟩ | ⟨rfl, rfl, rfl, c, hc, hw⟩
  · rw [n32 (by omega)] at hs
    exact Or.inl ⟨rfl, hs, fun j hj => ⟨by rw [hv j (by omega), low_at _ _ _ hj], by
      have e : cs.getD j 0 = cs[j] := by simp [List.getD_eq_getElem?_getD, hj]
      show ¬ 255 < cs.getD j 0
      rw [e]; exact h _ (List.getElem_mem _)⟩⟩
  · rw [n32 (by omega)] at hs
    obtain ⟨j, hj, rfl⟩ := List.getElem_of_mem hc
    exact Or.inr ⟨rfl, hs, fun j hj => ⟨by rw [hv _ (by omega), wide_lo _ _ _ hj], by rw [hv _ (by omega), wide_hi _ _ _ hj]⟩, j, hj, by
      have e : cs.getD j 0 = cs[j] := by simp [List.getD_eq_getElem?_getD, hj]
      show 255 < cs.getD j 0
      rw [e]; exact hw⟩
/-- an object of exactly java/lang/String, its two fields found: as the laws ask it -/
theorem strObj {Z U : State} {a0 : Array Value} {kI : Nat} (wi : (Jvm.Cond.instantiable ST kI).before a0 Z = true) (al : Z.vm.Alike U.vm) {x : Addr} {v0 c0 : Value} (E : RoadKit.Exa Z U.heap x ST) (V : RoadKit.Fld Z U.heap x ST "value" "[B" v0) (C : RoadKit.Fld Z U.heap x ST "coder" "B" c0) :
    ∃ (D : Cell) (fV fC : Field), Blank ST x D U ∧ Found ST "value" "[B" fV U ∧ Found ST "coder" "B" fC U ∧ D.slots[fV.slot]? = some v0 ∧ D.slots[fC.slot]? = some c0 ∧ RoadKit.slotOf Z ST "value" "[B" = fV.slot ∧ RoadKit.slotOf Z ST "coder" "B" = fC.slot := by
  obtain ⟨D, cfV, kV, iV, fV, hD, gV, stV, knV, obV, asV, slV⟩ := V
  obtain ⟨D', cfC, kC, iC, fC, hD', gC, stC, -, -, asC, slC⟩ := C
  cases hD.symm.trans hD'
  obtain ⟨D2, kD, e1, e2, e3, e4, e5⟩ := E
  cases hD.symm.trans e1
  obtain ⟨c2, k2, i1, i2, i3, -⟩ := Cond.instantiable_spec wi
  cases e2.symm.trans i1
  cases e3.symm.trans i2
  obtain ⟨kU, u1, u2⟩ := al.2.2 _ _ e3
  exact ⟨D, fV, fC, ⟨hD, ⟨knV, fun q hq => by rw [hq] at obV; cases obV⟩, by rw [al.findClass]; exact e2, kU, u1, by rw [u2]; exact i3, by rw [u2]; exact e5 i3⟩, ⟨SBG.found_only al ⟨cfV, kV, iV, gV⟩, stV⟩, ⟨SBG.found_only al ⟨cfC, kC, iC, gC⟩, stC⟩, slV, slC, by simp [RoadKit.slotOf, gV], by simp [RoadKit.slotOf, gC]⟩
theorem sta_is {Z U : State} (al : Z.vm.Alike U.vm) {C n d : String} {v : Value} (S : RoadKit.Sta Z U.heap C n d v) : StaticIs U C n d v := by
  obtain ⟨cfS, iS, kS, fS, st, cS, t1, t2, t3, t4, t5, t6, t7⟩ := S
  exact StaticIs.there (s := { Z with heap := U.heap }) ⟨cfS, iS, kS, fS, st, cS, t1, t2, t3, t4, t5, (fun q => by rw [q] at t6; cases t6), t7⟩ al rfl
end StrChars.Road
namespace StrChars
open Jvm Sem ClassFile Op Lib Jvm.Stand Jvm.Free.XT Jvm.Free.ALB Jvm.Free.JM Jvm.Free
open Jvm.Lib.Cold (StaticIs)
/-- what place i of a byte[]'s cell holds -/
def yv (A : Cell) (i : Nat) : Int32 := match A.slots[i]? with | some (.int x) => x | _ => 0
theorem yv_get {a : Addr} {A : Cell} {U : State} (h : XT.Arr .byte a A U) (ht : Typed .byte A) {i : Nat} (hi : i < A.slots.size) : A.slots[i]? = some (.int (yv A i)) := by
  have e := Array.getElem?_eq_getElem hi
  have f := ht i _ e
  unfold yv; rw [e]
  generalize A.slots[i] = v at f
  cases v <;> simp [fits] at f ⊢
/-- the two arrays are equal, place for place -/
def EqC (A B : Cell) : Prop := A.slots.size = B.slots.size ∧ ∀ i, i < A.slots.size → yv A i = yv B i
/-- a boolean that says whether p -/
def Says01 (q : Prop) (r : Option Value) (s u : State) : Prop := ∃ v : Int32, r = some (.int v) ∧ u.heap = s.heap ∧ ((v = 1 ∧ q) ∨ (v = 0 ∧ ¬ q))
theorem Says01.mv {q : Prop} : ∀ r (U U' V V' : State), U'.heap = U.heap → V.vm.Alike V'.vm → V'.heap = V.heap → Says01 q r U V → Says01 q r U' V' :=
  fun r U U' V V' h1 _ h2 ⟨v, a, b, c⟩ => ⟨v, a, by rw [h1, h2]; exact b, c⟩
namespace LEq
def yN : MethodName := ⟨"java/lang/StringLatin1", "equals", "([B[B)Z"⟩
abbrev yB : ByteArray := jdk_43_method_13_code
theorem d0 : decode yB 0 = .ok (.aload_n 0, 1) := by decide +kernel
theorem d1 : decode yB 1 = .ok (.arraylength, 1) := by decide +kernel
theorem d2 : decode yB 2 = .ok (.aload_n 1, 1) := by decide +kernel
theorem d3 : decode yB 3 = .ok (.arraylength, 1) := by decide +kernel
theorem d4 : decode yB 4 = .ok (.if_icmp (.ne) 30, 3) := by decide +kernel
theorem d7 : decode yB 7 = .ok (.iconst 0, 1) := by decide +kernel
theorem d8 : decode yB 8 = .ok (.istore_n 2, 1) := by decide +kernel
theorem d9 : decode yB 9 = .ok (.iload_n 2, 1) := by decide +kernel
theorem d10 : decode yB 10 = .ok (.aload_n 0, 1) := by decide +kernel
theorem d11 : decode yB 11 = .ok (.arraylength, 1) := by decide +kernel
theorem d12 : decode yB 12 = .ok (.if_icmp (.ge) 20, 3) := by decide +kernel
theorem d15 : decode yB 15 = .ok (.aload_n 0, 1) := by decide +kernel
theorem d16 : decode yB 16 = .ok (.iload_n 2, 1) := by decide +kernel
theorem d17 : decode yB 17 = .ok (.baload, 1) := by decide +kernel
theorem d18 : decode yB 18 = .ok (.aload_n 1, 1) := by decide +kernel
theorem d19 : decode yB 19 = .ok (.iload_n 2, 1) := by decide +kernel
theorem d20 : decode yB 20 = .ok (.baload, 1) := by decide +kernel
theorem d21 : decode yB 21 = .ok (.if_icmp (.eq) 5, 3) := by decide +kernel
theorem d24 : decode yB 24 = .ok (.iconst 0, 1) := by decide +kernel
theorem d25 : decode yB 25 = .ok (.ireturn, 1) := by decide +kernel
theorem d26 : decode yB 26 = .ok (.iinc 2 1, 3) := by decide +kernel
theorem d29 : decode yB 29 = .ok (.goto (-20), 3) := by decide +kernel
theorem d32 : decode yB 32 = .ok (.iconst 1, 1) := by decide +kernel
theorem d33 : decode yB 33 = .ok (.ireturn, 1) := by decide +kernel
theorem d34 : decode yB 34 = .ok (.iconst 0, 1) := by decide +kernel
theorem d35 : decode yB 35 = .ok (.ireturn, 1) := by decide +kernel
def site : List Cond := []
def tab : Cond := tabOf yN yB 3 (some .boolean) site
def P (a : Addr) (A : Cell) (b : Addr) (B : Cell) (args : Array Value) (s : State) : Prop := args = #[.ref a, .ref b] ∧ XT.Arr .byte a A s ∧ Typed .byte A ∧ XT.Arr .byte b B s ∧ Typed .byte B
/-- whether two byte[] are equal, place for place -/
theorem law (l : Launch) (a : Addr) (A : Cell) (b : Addr) (B : Cell) : Law l yN 2 2 0 0 yB 3 (some .boolean) site (P a A b B) (Says01 (EqC A B)) [] 0 0 := by
  refine Law.of_walk (plainFor_of_name (by decide +kernel)) (by decide +kernel) (by decide +kernel) (by decide) (fun _ _ h => by rw [h.1]; rfl) (fun _ U U' hal hh h => ⟨h.1, h.2.1.mv hal hh, h.2.2.1, h.2.2.2.1.mv hal hh, h.2.2.2.2⟩) (fun r U U' V V' h1 hal h2 h => Says01.mv r U U' V V' h1 hal h2 h) ?_
  intro p e s m args below meth c s₁ X0 hexec hbytes hml hret hlk hnm hown hh0 W hP
  obtain ⟨rfl, hA, tA, hB, tB⟩ := hP
  have a31 := hA.2.2.2
  have b31 := hB.2.2.2
  have hA0 := hA.mv X0.warmed.alike hh0
  have hB0 := hB.mv X0.warmed.alike hh0
  have c1 : Steps p.tables e below (s₁.setTop (entryFrame m #[.ref a, .ref b] 3)) (s₁.setTop (mkF m 0 #[.val (.ref a), .val (.ref b), .unset] [])) := entry rfl
  have c2 : Steps p.tables e below (s₁.setTop (entryFrame m #[.ref a, .ref b] 3)) (s₁.setTop (mkF m 4 #[.val (.ref a), .val (.ref b), .unset] [.int (Int32.ofNat B.slots.size), .int (Int32.ofNat A.slots.size)])) := c1.trans (by
    refine XS.aloadN X0.here hexec rfl (hb hbytes d0) rfl rfl ?_
    refine X0.alen hexec hA0 rfl rfl (hb hbytes d1) ?_
    refine XS.aloadN X0.here hexec rfl (hb hbytes d2) rfl rfl ?_
    refine X0.alen hexec hB0 rfl rfl (hb hbytes d3) ?_
    exact Steps.refl _)
  by_cases hs : A.slots.size = B.slots.size
  · have c3 : Steps p.tables e below (s₁.setTop (entryFrame m #[.ref a, .ref b] 3)) (s₁.setTop (mkF m 9 #[.val (.ref a), .val (.ref b), .val (.int 0)] [])) := c2.trans (by
      refine XS.icmpNo X0.here hexec rfl (hb hbytes d4) rfl (ii_ne_f (by rw [hs])) ?_
      refine iconstV X0.here hexec rfl 0 (hb hbytes d7) (by decide) ?_
      refine XS.istoreN X0.here hexec rfl (hb hbytes d8) rfl rfl ?_
      exact Steps.refl _)
    have loop : ∀ (r i : Nat), i + r = A.slots.size → (∀ j, j < i → yv A j = yv B j) → Steps p.tables e below (s₁.setTop (entryFrame m #[.ref a, .ref b] 3)) (s₁.setTop (mkF m 9 #[.val (.ref a), .val (.ref b), .val (.int (Int32.ofNat i))] [])) → ∃ (pc : Nat) (Ls : Array Slot) (v : Int32), (pc = 25 ∨ pc = 33) ∧ ((v = 1 ∧ EqC A B) ∨ (v = 0 ∧ ¬ EqC A B)) ∧ Steps p.tables e below (s₁.setTop (entryFrame m #[.ref a, .ref b] 3)) (s₁.setTop (mkF m pc Ls [.int v])) := by
      intro r
      induction r with
      | zero =>
        intro i hi he cl
        exact ⟨33, _, 1, Or.inr rfl, Or.inl ⟨rfl, hs, fun j hj => he j (by omega)⟩, cl.trans (by
          refine XS.iloadN X0.here hexec rfl (hb hbytes d9) rfl ?_
          refine XS.aloadN X0.here hexec rfl (hb hbytes d10) rfl rfl ?_
          refine X0.alen hexec hA0 rfl rfl (hb hbytes d11) ?_
          refine XS.icmpYes X0.here hexec rfl (pc0 := 12) rfl (hb hbytes d12) rfl (ii_ge_t (nlt32 (by omega) (by omega))) (by decide) rfl ?_
          refine iconstV X0.here hexec rfl 1 (hb hbytes d32) (by decide) ?_
          exact Steps.refl _)⟩
      | succ r ih =>
        intro i hi he cl
        have c4 : Steps p.tables e below (s₁.setTop (entryFrame m #[.ref a, .ref b] 3)) (s₁.setTop (mkF m 21 #[.val (.ref a), .val (.ref b), .val (.int (Int32.ofNat i))] [.int (yv B i), .int (yv A i)])) := cl.trans (by
          refine XS.iloadN X0.here hexec rfl (hb hbytes d9) rfl ?_
          refine XS.aloadN X0.here hexec rfl (hb hbytes d10) rfl rfl ?_
          refine X0.alen hexec hA0 rfl rfl (hb hbytes d11) ?_
          refine XS.icmpNo X0.here hexec rfl (hb hbytes d12) rfl (ii_ge_f (lt32 (by omega) (by omega))) ?_
          refine XS.aloadN X0.here hexec rfl (hb hbytes d15) rfl rfl ?_
          refine XS.iloadN X0.here hexec rfl (hb hbytes d16) rfl ?_
          refine X0.aget hexec hA0 rfl (yv_get hA tA (i := i) (by omega)) rfl rfl (hb hbytes d17) ?_
          refine XS.aloadN X0.here hexec rfl (hb hbytes d18) rfl rfl ?_
          refine XS.iloadN X0.here hexec rfl (hb hbytes d19) rfl ?_
          refine X0.aget hexec hB0 rfl (yv_get hB tB (i := i) (by omega)) rfl rfl (hb hbytes d20) ?_
          exact Steps.refl _)
        by_cases hv : yv A i = yv B i
        · have c5 : Steps p.tables e below (s₁.setTop (entryFrame m #[.ref a, .ref b] 3)) (s₁.setTop (mkF m 9 #[.val (.ref a), .val (.ref b), .val (.int (Int32.ofNat i + 1))] [])) := c4.trans (by
            refine XS.icmpYes X0.here hexec rfl (pc0 := 21) rfl (hb hbytes d21) rfl (ii_eq_t hv) (by decide) rfl ?_
            refine iincV X0.here hexec rfl 1 (hb hbytes d26) (by decide) rfl rfl ?_
            refine XS.goto X0.here hexec rfl (pc0 := 29) rfl (hb hbytes d29) (by decide) rfl ?_
            exact Steps.refl _)
          rw [succ32] at c5
          exact ih (i + 1) (by omega) (fun j hj => by
            by_cases e : j = i
            · rw [e]; exact hv
            · exact he j (by omega)) c5
        · exact ⟨25, _, 0, Or.inl rfl, Or.inr ⟨rfl, fun q => hv (q.2 i (by omega))⟩, c4.trans (by
            refine XS.icmpNo X0.here hexec rfl (hb hbytes d21) rfl (ii_eq_f hv) ?_
            refine iconstV X0.here hexec rfl 0 (hb hbytes d24) (by decide) ?_
            exact Steps.refl _)⟩
    obtain ⟨pc, Ls, v, hpc, hv, cz⟩ := loop A.slots.size 0 (by omega) (fun j hj => absurd hj (Nat.not_lt_zero j)) c3
    have nv : narrow .boolean (.int v) = .int v := by rcases hv with ⟨rfl, -⟩ | ⟨rfl, -⟩ <;> rfl
    rcases hpc with rfl | rfl
    · exact ⟨s₁, some (.int v), _, _, _, X0, rfl, rfl, rfl, (fun h => by cases h), ⟨v, rfl, hh0, hv⟩, fun fs hl => cz.trans (X0.ireturnOut hexec hret nv (Or.inr (Or.inl rfl)) (hb hbytes d25) hl)⟩
    · exact ⟨s₁, some (.int v), _, _, _, X0, rfl, rfl, rfl, (fun h => by cases h), ⟨v, rfl, hh0, hv⟩, fun fs hl => cz.trans (X0.ireturnOut hexec hret nv (Or.inr (Or.inl rfl)) (hb hbytes d33) hl)⟩
  · have c3 : Steps p.tables e below (s₁.setTop (entryFrame m #[.ref a, .ref b] 3)) (s₁.setTop (mkF m 35 #[.val (.ref a), .val (.ref b), .unset] [.int 0])) := c2.trans (by
      refine XS.icmpYes X0.here hexec rfl (pc0 := 4) rfl (hb hbytes d4) rfl (ii_ne_t (ne32 a31 b31 hs)) (by decide) rfl ?_
      refine iconstV X0.here hexec rfl 0 (hb hbytes d34) (by decide) ?_
      exact Steps.refl _)
    exact ⟨s₁, some (.int 0), _, _, _, X0, rfl, rfl, rfl, (fun h => by cases h), ⟨0, rfl, hh0, Or.inr ⟨rfl, fun q => hs q.1⟩⟩, fun fs hl => c3.trans (X0.ireturnOut hexec hret rfl (Or.inr (Or.inl rfl)) (hb hbytes d35) hl)⟩
end LEq
theorem Cod.ty {cd : Int32} {n : Nat} {f : Nat → Int32} {V : Cell} (h : Cod cd n f V) : Typed .byte V := fun i v hv => by
  have hi : i < V.slots.size := (Array.getElem?_eq_some_iff.mp hv).1
  rcases h with ⟨-, k1, k2⟩ | ⟨-, k1, k2, -⟩
  · rw [(k2 i (by omega)).1] at hv; cases hv; exact fits_lo8 _
  · rcases Nat.mod_two_eq_zero_or_one i with e | e
    · obtain ⟨j, rfl⟩ : ∃ j, i = 2 * j := ⟨i / 2, by omega⟩
      rw [(k2 j (by omega)).1] at hv; cases hv; exact fits_lo8 _
    · obtain ⟨j, rfl⟩ : ∃ j, i = 2 * j + 1 := ⟨i / 2, by omega⟩
      rw [(k2 j (by omega)).2] at hv; cases hv; exact fits_lo8 _
/-- the same text -/
def SameT (n : Nat) (f : Nat → Int32) (k : Nat) (g : Nat → Int32) : Prop := n = k ∧ ∀ j, j < n → f j = g j
theorem lo8_inj {x y : Int32} (h0 : ¬ x < 0) (h1 : ¬ 255 < x) (k0 : ¬ y < 0) (k1 : ¬ 255 < y) (h : lo8 x = lo8 y) : x = y := by
  rw [← lo8_mask h0 h1, ← lo8_mask k0 k1, h]
/-- arrays coded by one coder are equal just where the texts are -/
theorem Cod.eqv {cd : Int32} {n k : Nat} {f g : Nat → Int32} {V V' : Cell} (h : Cod cd n f V) (h' : Cod cd k g V') (hf : ∀ j, j < n → ¬ f j < 0 ∧ ¬ 65535 < f j) (hg : ∀ j, j < k → ¬ g j < 0 ∧ ¬ 65535 < g j) : EqC V V' ↔ SameT n f k g := by
  have yvv : ∀ {W : Cell} {i : Nat} {x : Int32}, W.slots[i]? = some (.int x) → yv W i = x := fun q => by unfold yv; rw [q]
  rcases h with ⟨rfl, k1, k2⟩ | ⟨rfl, k1, k2, -⟩
  · rcases h' with ⟨-, m1, m2⟩ | ⟨e, -⟩
    · constructor
      · rintro ⟨e1, e2⟩
        refine ⟨by omega, fun j hj => ?_⟩
        have q := e2 j (by omega)
        rw [yvv (k2 j hj).1, yvv (m2 j (by omega)).1] at q
        exact lo8_inj (hf j hj).1 (k2 j hj).2 (hg j (by omega)).1 (m2 j (by omega)).2 q
      · rintro ⟨rfl, e2⟩
        refine ⟨by omega, fun j hj => ?_⟩
        rw [yvv (k2 j (by omega)).1, yvv (m2 j (by omega)).1, e2 j (by omega)]
    · exact absurd e (by decide)
  · rcases h' with ⟨e, -⟩ | ⟨-, m1, m2, -⟩
    · exact absurd e (by decide)
    · constructor
      · rintro ⟨e1, e2⟩
        refine ⟨by omega, fun j hj => ?_⟩
        have q1 := e2 (2 * j) (by omega)
        have q2 := e2 (2 * j + 1) (by omega)
        rw [yvv (k2 j hj).1, yvv (m2 j (by omega)).1] at q1
        rw [yvv (k2 j hj).2, yvv (m2 j (by omega)).2] at q2
        rw [← pair_says (hf j hj).1 (hf j hj).2, ← pair_says (hg j (by omega)).1 (hg j (by omega)).2, q1, q2]
      · rintro ⟨rfl, e2⟩
        refine ⟨by omega, fun i hi => ?_⟩
        rcases Nat.mod_two_eq_zero_or_one i with e | e
        · obtain ⟨j, rfl⟩ : ∃ j, i = 2 * j := ⟨i / 2, by omega⟩
          rw [yvv (k2 j (by omega)).1, yvv (m2 j (by omega)).1, e2 j (by omega)]
        · obtain ⟨j, rfl⟩ : ∃ j, i = 2 * j + 1 := ⟨i / 2, by omega⟩
          rw [yvv (k2 j (by omega)).2, yvv (m2 j (by omega)).2, e2 j (by omega)]
/-- two codings differ: so do the texts -/
theorem Cod.dif {cd cd' : Int32} {n k : Nat} {f g : Nat → Int32} {V V' : Cell} (h : Cod cd n f V) (h' : Cod cd' k g V') (hne : ¬ cd = cd') : ¬ SameT n f k g := by
  rintro ⟨rfl, e⟩
  rcases h with ⟨rfl, -, k2⟩ | ⟨rfl, -, -, j, hj, hw⟩
  · rcases h' with ⟨rfl, -⟩ | ⟨-, -, -, j, hj, hw⟩
    · exact hne rfl
    · exact (k2 j hj).2 (by rw [e j hj]; exact hw)
  · rcases h' with ⟨-, -, m2⟩ | ⟨rfl, -⟩
    · exact (m2 j hj).2 (by rw [← e j hj]; exact hw)
    · exact hne rfl
/-- an object of exactly C is an instance of C -/
theorem cinst {p : Program} {l : Launch} {e : Env} {R : Room} {s : State} {m : MethodId} {args : Array Value} {below : List Frame} {meth : Method} {c : Code} {T : State} {locs : List Loc} {cells slots : Nat} (X : Stand p l e R s m args below meth c T locs cells slots) (hexec : p.tables.exec = Jvm.exec) {own C : String} {index : Nat} (hown : s.vm.findClass own = some m.cls) (hlink : (Cond.classLink own index C).before args s = true) {a : Addr} (hE : Exact C a T)
    {g : JFrame} (hg : g.method = m) {rest : List Value} (hstack : g.stack = .ref a :: rest) (hdg : decode c.code g.pc = .ok (.instanceof index, 3)) :
    ∃ T', Stand p l e R s m args below meth c T' locs cells slots ∧ T'.heap = T.heap ∧ ∀ target, Steps p.tables e below (T'.setTop { g with pc := g.pc + 3, stack := .int 1 :: rest }) target → Steps p.tables e below (T.setTop g) target := by
  obtain ⟨cB, h1, D, h2, h3, h4⟩ := hE
  have h1' : s.vm.findClass C = some cB := by rw [← X.warmed.alike.findClass]; exact h1
  obtain ⟨vm', X', st⟩ := X.instanceofYes hexec hown hlink h2 h4 h1' (by rw [h3]; exact Jvm.Free.SB.assignable_self _ _) hg hstack hdg
  exact ⟨_, X', rfl, st⟩
theorem cself {p : Program} {l : Launch} {e : Env} {R : Room} {s : State} {m : MethodId} {args : Array Value} {below : List Frame} {meth : Method} {c : Code} {T : State} {locs : List Loc} {cells slots : Nat} (X : Stand p l e R s m args below meth c T locs cells slots) (hexec : p.tables.exec = Jvm.exec) {own C : String} {index : Nat} (hown : s.vm.findClass own = some m.cls) (hlink : (Cond.classLink own index C).before args s = true) {a : Addr} (hE : Exact C a T)
    {g : JFrame} (hg : g.method = m) {rest : List Value} (hstack : g.stack = .ref a :: rest) (hdg : decode c.code g.pc = .ok (.checkcast index, 3)) :
    ∃ T', Stand p l e R s m args below meth c T' locs cells slots ∧ T'.heap = T.heap ∧ ∀ target, Steps p.tables e below (T'.setTop { g with pc := g.pc + 3, stack := .ref a :: rest }) target → Steps p.tables e below (T.setTop g) target := by
  obtain ⟨cB, h1, D, h2, h3, h4⟩ := hE
  have h1' : s.vm.findClass C = some cB := by rw [← X.warmed.alike.findClass]; exact h1
  obtain ⟨vm', X', st⟩ := X.checkcastYes hexec hown hlink h2 h4 h1' (by rw [h3]; exact Jvm.Free.SB.assignable_self _ _) hg hstack hdg
  exact ⟨_, X', rfl, fun t h => st t (by rw [← hstack] at h; exact h)⟩
namespace SEq
def yN : MethodName := ⟨"java/lang/String", "equals", "(Ljava/lang/Object;)Z"⟩
abbrev yB : ByteArray := jdk_42_method_66_code
theorem d0 : decode yB 0 = .ok (.aload_n 0, 1) := by decide +kernel
theorem d1 : decode yB 1 = .ok (.aload_n 1, 1) := by decide +kernel
theorem d2 : decode yB 2 = .ok (.if_acmp (.ne) 5, 3) := by decide +kernel
theorem d5 : decode yB 5 = .ok (.iconst 1, 1) := by decide +kernel
theorem d6 : decode yB 6 = .ok (.ireturn, 1) := by decide +kernel
theorem d7 : decode yB 7 = .ok (.aload_n 1, 1) := by decide +kernel
theorem d8 : decode yB 8 = .ok (.instanceof 10, 3) := by decide +kernel
theorem d11 : decode yB 11 = .ok (.ifCond (.eq) 43, 3) := by decide +kernel
theorem d14 : decode yB 14 = .ok (.aload_n 1, 1) := by decide +kernel
theorem d15 : decode yB 15 = .ok (.checkcast 10, 3) := by decide +kernel
theorem d18 : decode yB 18 = .ok (.astore_n 2, 1) := by decide +kernel
theorem d19 : decode yB 19 = .ok (.getstatic 38, 3) := by decide +kernel
theorem d22 : decode yB 22 = .ok (.ifCond (.eq) 14, 3) := by decide +kernel
theorem d25 : decode yB 25 = .ok (.aload_n 0, 1) := by decide +kernel
theorem d26 : decode yB 26 = .ok (.getfield 15, 3) := by decide +kernel
theorem d29 : decode yB 29 = .ok (.aload_n 2, 1) := by decide +kernel
theorem d30 : decode yB 30 = .ok (.getfield 15, 3) := by decide +kernel
theorem d33 : decode yB 33 = .ok (.if_icmp (.ne) 21, 3) := by decide +kernel
theorem d36 : decode yB 36 = .ok (.aload_n 0, 1) := by decide +kernel
theorem d37 : decode yB 37 = .ok (.getfield 9, 3) := by decide +kernel
theorem d40 : decode yB 40 = .ok (.aload_n 2, 1) := by decide +kernel
theorem d41 : decode yB 41 = .ok (.getfield 9, 3) := by decide +kernel
theorem d44 : decode yB 44 = .ok (.invokestatic 541, 3) := by decide +kernel
theorem d47 : decode yB 47 = .ok (.ifCond (.eq) 7, 3) := by decide +kernel
theorem d50 : decode yB 50 = .ok (.iconst 1, 1) := by decide +kernel
theorem d51 : decode yB 51 = .ok (.goto 4, 3) := by decide +kernel
theorem d54 : decode yB 54 = .ok (.iconst 0, 1) := by decide +kernel
theorem d55 : decode yB 55 = .ok (.ireturn, 1) := by decide +kernel
def site : List Cond := [.classLink "java/lang/String" 10 "java/lang/String", .fieldLink "java/lang/String" 38 "java/lang/String" "COMPACT_STRINGS" "Z", .fieldLink "java/lang/String" 15 "java/lang/String" "coder" "B", .fieldLink "java/lang/String" 9 "java/lang/String" "value" "[B", LEq.tab] ++ staticW "java/lang/String" 541 LEq.yN
def tab : Cond := tabOf yN yB 3 (some .boolean) site
def P (x t : Addr) (V : Cell) (cd : Int32) (n : Nat) (f : Nat → Int32) (y t' : Addr) (V' : Cell) (cd' : Int32) (k : Nat) (g : Nat → Int32) (z : Int32) (args : Array Value) (s : State) : Prop := args = #[.ref x, .ref y] ∧ Txt x t V cd n f s ∧ Txt y t' V' cd' k g s ∧ StaticIs s "java/lang/String" "COMPACT_STRINGS" "Z" (.int z) ∧ ¬ z = 0
/-- equals(Object) of two Strings: whether the texts are the same -/
theorem law (l : Launch) (x t : Addr) (V : Cell) (cd : Int32) (n : Nat) (f : Nat → Int32) (y t' : Addr) (V' : Cell) (cd' : Int32) (k : Nat) (g : Nat → Int32) (z : Int32) : Law l yN 2 1 1 14 yB 3 (some .boolean) site (P x t V cd n f y t' V' cd' k g z) (Says01 (SameT n f k g)) [] 0 0 := by
  refine Law.of_walk (plainFor_of_name (by decide +kernel)) (by decide +kernel) (by decide +kernel) (by decide) (fun _ _ h => by rw [h.1]; rfl) (fun _ U U' hal hh h => ⟨h.1, h.2.1.mv hal hh, h.2.2.1.mv hal hh, h.2.2.2.1.there hal hh, h.2.2.2.2⟩) (fun r U U' V V' h1 hal h2 h => Says01.mv r U U' V V' h1 hal h2 h) ?_
  intro p e s m args below meth c s₁ X0 hexec hbytes hml hret hlk hnm hown hh0 W hP
  obtain ⟨rfl, hx, hy, s1, hz⟩ := hP
  have c1 : Steps p.tables e below (s₁.setTop (entryFrame m #[.ref x, .ref y] 3)) (s₁.setTop (mkF m 2 #[.val (.ref x), .val (.ref y), .unset] [.ref y, .ref x])) := Steps.trans (entry rfl) (by
    show Steps p.tables e below (s₁.setTop (mkF m 0 #[.val (.ref x), .val (.ref y), .unset] [])) _
    refine XS.aloadN X0.here hexec rfl (hb hbytes d0) rfl rfl ?_
    refine XS.aloadN X0.here hexec rfl (hb hbytes d1) rfl rfl ?_
    exact Steps.refl _)
  by_cases hxy : x = y
  · have c2 : Steps p.tables e below (s₁.setTop (entryFrame m #[.ref x, .ref y] 3)) (s₁.setTop (mkF m 6 #[.val (.ref x), .val (.ref y), .unset] [.int 1])) := c1.trans (by
      refine acmpNo X0.here hexec rfl (hb hbytes d2) rfl rfl rfl (by simp [acmp, hxy]) ?_
      refine iconstV X0.here hexec rfl 1 (hb hbytes d5) (by decide) ?_
      exact Steps.refl _)
    subst hxy
    have ec : cd = cd' := by
      obtain ⟨D, fd, a1, a2, a3⟩ := hx.2.2.1
      obtain ⟨D', fd', b1, b2, b3⟩ := hy.2.2.1
      cases a1.symm.trans b1
      obtain ⟨q1, q2, q3, q4⟩ := a2.1
      obtain ⟨r1, r2, r3, r4⟩ := b2.1
      cases q4.symm.trans r4
      cases a3.symm.trans b3; rfl
    have et : t = t' := by
      obtain ⟨D, fd, a1, a2, a3⟩ := hx.2.1
      obtain ⟨D', fd', b1, b2, b3⟩ := hy.2.1
      cases a1.symm.trans b1
      obtain ⟨q1, q2, q3, q4⟩ := a2.1
      obtain ⟨r1, r2, r3, r4⟩ := b2.1
      cases q4.symm.trans r4
      cases a3.symm.trans b3; rfl
    subst ec et
    have ev : V = V' := by cases hx.2.2.2.1.1.symm.trans hy.2.2.2.1.1; rfl
    subst ev
    have hs : SameT n f k g := (Cod.eqv hx.2.2.2.2.1 hy.2.2.2.2.1 hx.2.2.2.2.2 hy.2.2.2.2.2).mp ⟨rfl, fun _ _ => rfl⟩
    exact ⟨s₁, some (.int 1), _, _, _, X0, rfl, rfl, rfl, (fun h => by cases h), ⟨1, rfl, hh0, Or.inl ⟨rfl, hs⟩⟩, fun fs hl => c2.trans (X0.ireturnOut hexec hret rfl (Or.inr (Or.inl rfl)) (hb hbytes d6) hl)⟩
  · have c2 : Steps p.tables e below (s₁.setTop (entryFrame m #[.ref x, .ref y] 3)) (s₁.setTop (mkF m 8 #[.val (.ref x), .val (.ref y), .unset] [.ref y])) := c1.trans (by
      refine acmpYes X0.here hexec rfl (pc0 := 2) rfl (hb hbytes d2) rfl rfl rfl (by simp [acmp, hxy]) (by decide) rfl ?_
      refine XS.aloadN X0.here hexec rfl (hb hbytes d7) rfl rfl ?_
      exact Steps.refl _)
    obtain ⟨T3, X3, q3, st3⟩ := cinst X0 hexec hown (wk W (.classLink "java/lang/String" 10 "java/lang/String")) (hy.mv X0.warmed.alike hh0).1 (g := (mkF m 8 #[.val (.ref x), .val (.ref y), .unset] [.ref y])) rfl (rest := []) rfl (hb hbytes d8)
    have hh3 := q3.trans hh0
    have c4 : Steps p.tables e below (s₁.setTop (entryFrame m #[.ref x, .ref y] 3)) (T3.setTop (mkF m 15 #[.val (.ref x), .val (.ref y), .unset] [.ref y])) := (c2.trans (st3 _ (Steps.refl _))).trans (by
      refine XS.ifNo X3.here hexec rfl (hb hbytes d11) rfl (i0_eq_f (by decide)) ?_
      refine XS.aloadN X3.here hexec rfl (hb hbytes d14) rfl rfl ?_
      exact Steps.refl _)
    obtain ⟨T5, X5, q5, st5⟩ := cself X3 hexec hown (wk W (.classLink "java/lang/String" 10 "java/lang/String")) (hy.mv X3.warmed.alike hh3).1 (g := (mkF m 15 #[.val (.ref x), .val (.ref y), .unset] [.ref y])) rfl (rest := []) rfl (hb hbytes d15)
    have hh5 := q5.trans hh3
    have c6 : Steps p.tables e below (s₁.setTop (entryFrame m #[.ref x, .ref y] 3)) (T5.setTop (mkF m 19 #[.val (.ref x), .val (.ref y), .val (.ref y)] [])) := (c4.trans (st5 _ (Steps.refl _))).trans (by
      refine XS.astoreN X5.here hexec rfl (hb hbytes d18) rfl rfl rfl ?_
      exact Steps.refl _)
    obtain ⟨T7, X7, q7, st7⟩ := X5.sget hexec hown (wk W (.fieldLink "java/lang/String" 38 "java/lang/String" "COMPACT_STRINGS" "Z")) s1 (fun _ _ h => by rw [hh5]; exact h) (g := (mkF m 19 #[.val (.ref x), .val (.ref y), .val (.ref y)] [])) rfl (hb hbytes d19)
    have hh7 := q7.trans hh5
    have c8 : Steps p.tables e below (s₁.setTop (entryFrame m #[.ref x, .ref y] 3)) (T7.setTop (mkF m 26 #[.val (.ref x), .val (.ref y), .val (.ref y)] [.ref x])) := (c6.trans (st7 _ (Steps.refl _))).trans (by
      refine XS.ifNo X7.here hexec rfl (hb hbytes d22) rfl (i0_eq_f hz) ?_
      refine XS.aloadN X7.here hexec rfl (hb hbytes d25) rfl rfl ?_
      exact Steps.refl _)
    obtain ⟨T9, X9, q9, st9⟩ := X7.hget hexec hown (wk W (.fieldLink "java/lang/String" 15 "java/lang/String" "coder" "B")) (hx.mv X7.warmed.alike hh7).2.2.1 (g := (mkF m 26 #[.val (.ref x), .val (.ref y), .val (.ref y)] [.ref x])) rfl (rest := []) rfl (hb hbytes d26)
    have hh9 := q9.trans hh7
    have c10 : Steps p.tables e below (s₁.setTop (entryFrame m #[.ref x, .ref y] 3)) (T9.setTop (mkF m 30 #[.val (.ref x), .val (.ref y), .val (.ref y)] [.ref y, .int cd])) := (c8.trans (st9 _ (Steps.refl _))).trans (by
      refine XS.aloadN X9.here hexec rfl (hb hbytes d29) rfl rfl ?_
      exact Steps.refl _)
    obtain ⟨T11, X11, q11, st11⟩ := X9.hget hexec hown (wk W (.fieldLink "java/lang/String" 15 "java/lang/String" "coder" "B")) (hy.mv X9.warmed.alike hh9).2.2.1 (g := (mkF m 30 #[.val (.ref x), .val (.ref y), .val (.ref y)] [.ref y, .int cd])) rfl (rest := [.int cd]) rfl (hb hbytes d30)
    have hh11 := q11.trans hh9
    have c12 : Steps p.tables e below (s₁.setTop (entryFrame m #[.ref x, .ref y] 3)) (T11.setTop (mkF m 33 #[.val (.ref x), .val (.ref y), .val (.ref y)] [.int cd', .int cd])) := c10.trans (st11 _ (Steps.refl _))
    by_cases hcd : cd = cd'
    · subst hcd
      have c13 : Steps p.tables e below (s₁.setTop (entryFrame m #[.ref x, .ref y] 3)) (T11.setTop (mkF m 37 #[.val (.ref x), .val (.ref y), .val (.ref y)] [.ref x])) := c12.trans (by
        refine XS.icmpNo X11.here hexec rfl (hb hbytes d33) rfl (ii_ne_f rfl) ?_
        refine XS.aloadN X11.here hexec rfl (hb hbytes d36) rfl rfl ?_
        exact Steps.refl _)
      obtain ⟨T14, X14, q14, st14⟩ := X11.hget hexec hown (wk W (.fieldLink "java/lang/String" 9 "java/lang/String" "value" "[B")) (hx.mv X11.warmed.alike hh11).2.1 (g := (mkF m 37 #[.val (.ref x), .val (.ref y), .val (.ref y)] [.ref x])) rfl (rest := []) rfl (hb hbytes d37)
      have hh14 := q14.trans hh11
      have c15 : Steps p.tables e below (s₁.setTop (entryFrame m #[.ref x, .ref y] 3)) (T14.setTop (mkF m 41 #[.val (.ref x), .val (.ref y), .val (.ref y)] [.ref y, .ref t])) := (c13.trans (st14 _ (Steps.refl _))).trans (by
        refine XS.aloadN X14.here hexec rfl (hb hbytes d40) rfl rfl ?_
        exact Steps.refl _)
      obtain ⟨T16, X16, q16, st16⟩ := X14.hget hexec hown (wk W (.fieldLink "java/lang/String" 9 "java/lang/String" "value" "[B")) (hy.mv X14.warmed.alike hh14).2.1 (g := (mkF m 41 #[.val (.ref x), .val (.ref y), .val (.ref y)] [.ref y, .ref t])) rfl (rest := [.ref t]) rfl (hb hbytes d41)
      have hh16 := q16.trans hh14
      have c17 : Steps p.tables e below (s₁.setTop (entryFrame m #[.ref x, .ref y] 3)) (T16.setTop (mkF m 44 #[.val (.ref x), .val (.ref y), .val (.ref y)] [.ref t', .ref t])) := c15.trans (st16 _ (Steps.refl _))
      obtain ⟨v18, T18, X18, E18, g18⟩ := X16.callS hexec (LEq.law l t V t' V') hown (wks W (staticW "java/lang/String" 541 LEq.yN)) (wk W LEq.tab) (W := 0) (Nat.le_of_ble_eq_true rfl) (Nat.le_of_ble_eq_true rfl) (Nat.le_refl _) (Nat.le_refl _) (g := (mkF m 44 #[.val (.ref x), .val (.ref y), .val (.ref y)] [.ref t', .ref t])) rfl (by rw [hml]; rfl) c17 (argsL := [.ref t, .ref t']) (rest := []) rfl rfl (by show 2 * 0 + 0 ≤ _; decide) (hb hbytes d44) (⟨rfl, hx.2.2.2.1.mv X16.warmed.alike hh16, hx.2.2.2.2.1.ty, hy.2.2.2.1.mv X16.warmed.alike hh16, hy.2.2.2.2.1.ty⟩)
      obtain ⟨v, rfl, q18, hv⟩ := E18
      have iff := Cod.eqv hx.2.2.2.2.1 hy.2.2.2.2.1 hx.2.2.2.2.2 hy.2.2.2.2.2
      rcases hv with ⟨rfl, he⟩ | ⟨rfl, he⟩
      · have c19 : Steps p.tables e below (s₁.setTop (entryFrame m #[.ref x, .ref y] 3)) (T18.setTop (mkF m 55 #[.val (.ref x), .val (.ref y), .val (.ref y)] [.int 1])) := Steps.trans g18 (by
          refine XS.ifNo X18.here hexec rfl (hb hbytes d47) rfl (i0_eq_f (by decide)) ?_
          refine iconstV X18.here hexec rfl 1 (hb hbytes d50) (by decide) ?_
          refine XS.goto X18.here hexec rfl (pc0 := 51) rfl (hb hbytes d51) (by decide) rfl ?_
          exact Steps.refl _)
        exact ⟨T18, some (.int 1), _, _, _, X18, rfl, rfl, rfl, (fun h => by cases h), ⟨1, rfl, q18.trans hh16, Or.inl ⟨rfl, iff.mp he⟩⟩, fun fs hl => c19.trans (X18.ireturnOut hexec hret rfl (Or.inr (Or.inl rfl)) (hb hbytes d55) hl)⟩
      · have c19 : Steps p.tables e below (s₁.setTop (entryFrame m #[.ref x, .ref y] 3)) (T18.setTop (mkF m 55 #[.val (.ref x), .val (.ref y), .val (.ref y)] [.int 0])) := Steps.trans g18 (by
          refine XS.ifYes X18.here hexec rfl (pc0 := 47) rfl (hb hbytes d47) rfl (i0_eq_t rfl) (by decide) rfl ?_
          refine iconstV X18.here hexec rfl 0 (hb hbytes d54) (by decide) ?_
          exact Steps.refl _)
        exact ⟨T18, some (.int 0), _, _, _, X18, rfl, rfl, rfl, (fun h => by cases h), ⟨0, rfl, q18.trans hh16, Or.inr ⟨rfl, fun q => he (iff.mpr q)⟩⟩, fun fs hl => c19.trans (X18.ireturnOut hexec hret rfl (Or.inr (Or.inl rfl)) (hb hbytes d55) hl)⟩
    · have c13 : Steps p.tables e below (s₁.setTop (entryFrame m #[.ref x, .ref y] 3)) (T11.setTop (mkF m 55 #[.val (.ref x), .val (.ref y), .val (.ref y)] [.int 0])) := c12.trans (by
        refine XS.icmpYes X11.here hexec rfl (pc0 := 33) rfl (hb hbytes d33) rfl (ii_ne_t hcd) (by decide) rfl ?_
        refine iconstV X11.here hexec rfl 0 (hb hbytes d54) (by decide) ?_
        exact Steps.refl _)
      exact ⟨T11, some (.int 0), _, _, _, X11, rfl, rfl, rfl, (fun h => by cases h), ⟨0, rfl, hh11, Or.inr ⟨rfl, Cod.dif hx.2.2.2.2.1 hy.2.2.2.2.1 hcd⟩⟩, fun fs hl => c13.trans (X11.ireturnOut hexec hret rfl (Or.inr (Or.inl rfl)) (hb hbytes d55) hl)⟩
theorem pays {l : Launch} {R : Room} {p : Program} {e : Env} {below : List Frame} {s : State} {sargs : Array Value} {len W : Nat} (x t : Addr) (V : Cell) (cd : Int32) (n : Nat) (f : Nat → Int32) (y t' : Addr) (V' : Cell) (cd' : Int32) (k : Nat) (g : Nat → Int32) (z : Int32) (htab : tab.before sargs s = true) (hfr : 2 ≤ R.frames) (hlo : W + 28 ≤ R.locals) :
    Back l R p e below s sargs yN len W (fun A₁ a₁ => A₁.cells + 0 ≤ R.cells ∧ A₁.slots + 0 ≤ R.slots ∧ P x t V cd n f y t' V' cd' k g z a₁ A₁.U) (fun A₁ _ v₁ B₁ => Says01 (SameT n f k g) v₁ A₁.U B₁.U ∧ B₁.locs = A₁.locs ++ [] ∧ B₁.cells = A₁.cells + 0 ∧ B₁.slots = A₁.slots + 0) :=
  (law l x t V cd n f y t' V' cd' k g z).pays htab hfr (by omega)
end SEq
end StrChars
namespace StrChars.Road
open Jvm Sem ClassFile Op Lib Jvm.Stand Jvm.Free Jvm.Free.XT
open Jvm.Lib.Cold (StaticIs)
/-- the words of String.equals(Object) -/
abbrev wordsEq : List Jvm.Cond := [.code SEq.yN SEq.yB 3 (some .boolean), .initialized ST, .classLink ST 10 ST, .fieldLink ST 38 ST "COMPACT_STRINGS" "Z", .fieldLink ST 15 ST "coder" "B", .fieldLink ST 9 ST "value" "[B", .methodLink ST 541 LEq.yN, .static LEq.yN, .code LEq.yN LEq.yB 3 (some .boolean), .initialized "java/lang/StringLatin1"]
theorem tabEq_of {a : Array Value} {s : State} (h : ∀ w ∈ wordsEq, w.before a s = true) : SEq.tab.before a s = true := by
  have hl : LEq.tab.before a s = true := unparts (wk h (.code LEq.yN LEq.yB 3 (some .boolean))) (wks h (.initialized LEq.yN.cls :: LEq.site))
  have q := consq hl h
  exact unparts (wk q (.code SEq.yN SEq.yB 3 (some .boolean))) (wks q (.initialized SEq.yN.cls :: SEq.site))
theorem movedEq {Z s : State} {a0 args : Array Value} (hZ : Z.Warmed39 s.vm) (hw : ∀ d ∈ wordsEq, d.before a0 Z = true) : ∀ d ∈ wordsEq, d.before args s = true := fun d hd => by
  have t : ∀ d ∈ wordsEq, (d.onTables && d.keepsFace) = true := by decide +kernel
  exact RoadKit.mv hZ (hw d hd) (t d hd)
/-- the road's facts of a String, as the laws ask it -/
theorem txt_of {Z U : State} {a0 : Array Value} {kI : Nat} (wi : (Jvm.Cond.instantiable ST kI).before a0 Z = true) (al : Z.vm.Alike U.vm) {x t : Addr} {kb : ClassId} {cs : List Int32} {cd N2 : Int32} {vs : List Value} (E : RoadKit.Exa Z U.heap x ST) (V : RoadKit.Fld Z U.heap x ST "value" "[B" (.ref t)) (C : RoadKit.Fld Z U.heap x ST "coder" "B" (.int cd)) (K : RoadKit.Arv Z U.heap t kb .byte N2 vs (.int 0)) (hc : CodA cs cd N2 vs) (hb : ∀ c ∈ cs, ¬ c < 0 ∧ ¬ (65535 : Int32) < c) (l2 : cs.length ≤ 4000) :
    ∃ A, Txt x t A cd cs.length (fun j => cs.getD j 0) U := by
  obtain ⟨A, K1, K2, K3, K4, K5, K6⟩ := K
  have hcod := hc.cod (by omega) K3 K5
  obtain ⟨D, fV, fC, hB, F1, F2, g1, g2, -, -⟩ := strObj wi al E V C
  exact ⟨A, ⟨_, hB.2.2.1, D, hB.1, rfl, by cases q : D.vm <;> first | rfl | exact absurd q (hB.2.1.2 _)⟩, Has.of hB F1 g1, Has.of hB F2 g2, ⟨K1.1, State.isArrayOf_alike al K1.2.1, K1.2.2, by rcases hcod with ⟨-, q, -⟩ | ⟨-, q, -⟩ <;> omega⟩, hcod, fun j hj => by
    have e : cs.getD j 0 = cs[j] := by simp [List.getD_eq_getElem?_getD, hj]
    show ¬ cs.getD j 0 < 0 ∧ ¬ 65535 < cs.getD j 0
    rw [e]; exact hb _ (List.getElem_mem _)⟩
theorem same_list (cs ds : List Int32) : SameT cs.length (fun j => cs.getD j 0) ds.length (fun j => ds.getD j 0) ↔ cs = ds := by
  constructor
  · rintro ⟨e, q⟩
    refine List.ext_getElem e fun j h1 h2 => ?_
    have := q j h1
    simpa [List.getD_eq_getElem?_getD, h1, h2] using this
  · rintro rfl
    exact ⟨rfl, fun _ _ => rfl⟩
/-- **equals(Object) OF TWO SUCH STRINGS**: 1 just where the chars are the same -/
theorem eqW {p : Program} {l : Launch} {e : Env} {R : Room} {s : State} {args : Array Value} {below : List Frame} {len W : Nat} {Z : State} {a0 : Array Value} {h : Heap} (hZ : Z.Warmed39 s.vm) (hw : ∀ d ∈ wordsEq, d.before a0 Z = true) {kI : Nat} (wi : (Jvm.Cond.instantiable ST kI).before a0 Z = true)
    {x t : Addr} {kb : ClassId} {cs : List Int32} {cd N2 : Int32} {vs : List Value} (E : RoadKit.Exa Z h x ST) (V : RoadKit.Fld Z h x ST "value" "[B" (.ref t)) (C : RoadKit.Fld Z h x ST "coder" "B" (.int cd)) (K : RoadKit.Arv Z h t kb .byte N2 vs (.int 0)) (hc : CodA cs cd N2 vs) (hb : ∀ c ∈ cs, ¬ c < 0 ∧ ¬ (65535 : Int32) < c) (l2 : cs.length ≤ 4000)
    {y t' : Addr} {kb' : ClassId} {ds : List Int32} {cd' N2' : Int32} {vs' : List Value} (E' : RoadKit.Exa Z h y ST) (V' : RoadKit.Fld Z h y ST "value" "[B" (.ref t')) (C' : RoadKit.Fld Z h y ST "coder" "B" (.int cd')) (K' : RoadKit.Arv Z h t' kb' .byte N2' vs' (.int 0)) (hc' : CodA ds cd' N2' vs') (hb' : ∀ c ∈ ds, ¬ c < 0 ∧ ¬ (65535 : Int32) < c) (l2' : ds.length ≤ 4000)
    {z : Int32} (S : RoadKit.Sta Z h ST "COMPACT_STRINGS" "Z" (.int z)) (hz : ¬ z = 0) (hfr : 2 ≤ R.frames) (hlo : W + 28 ≤ R.locals) :
    Back l R p e below s args (⟨"java/lang/String", "equals", "(Ljava/lang/Object;)Z"⟩ : MethodName) len W (fun P a => a = #[.ref x, .ref y] ∧ P.U.heap = h ∧ P.cells + 0 ≤ R.cells ∧ P.slots + 0 ≤ R.slots)
      (fun P _ v B => ∃ L, (((v = some (.int 1) ∧ cs = ds) ∨ (v = some (.int 0) ∧ ¬ cs = ds)) ∧ L = [] ∧ B.U.heap = h) ∧ B.locs = P.locs ++ L ∧ B.cells = P.cells + 0 ∧ B.slots = P.slots + 0) := by
  intro m meth c P g ig mk a X hg hsize hdg hW hn hp'
  obtain ⟨rfl, rfl, r1, r2⟩ := hp'
  have al : Z.vm.Alike P.U.vm := hZ.alike.trans X.warmed.alike
  obtain ⟨A, hx⟩ := txt_of wi al E V C K hc hb l2
  obtain ⟨A', hy⟩ := txt_of wi al E' V' C' K' hc' hb' l2'
  obtain ⟨v, B, X', ⟨⟨w, hv, hh, hq⟩, hl, hk, hs⟩, st⟩ := SEq.pays x t A cd cs.length (fun j => cs.getD j 0) y t' A' cd' ds.length (fun j => ds.getD j 0) z (tabEq_of (movedEq hZ hw)) hfr hlo m meth c P g ig mk _ X hg hsize hdg hW hn ⟨r1, r2, rfl, hx, hy, sta_is al S, hz⟩
  refine ⟨v, B, X', ⟨[], ⟨?_, rfl, hh⟩, hl, hk, hs⟩, st⟩
  rcases hq with ⟨rfl, q⟩ | ⟨rfl, q⟩
  · exact Or.inl ⟨hv, (same_list cs ds).mp q⟩
  · exact Or.inr ⟨hv, fun e => q ((same_list cs ds).mpr e)⟩
end StrChars.Road
namespace StrChars.Road
open Jvm Sem ClassFile Op Lib Jvm.Stand Jvm.Free Jvm.Free.XT
open Jvm.Lib.Cold (StaticIs)
/-- what backV says of its String, as the contracts of this text ask it: cs's low bytes, coder 0 -/
theorem codOf {cs : List Int32} {n : Nat} (hn : cs.length = n) (hb : ∀ c ∈ cs, ¬ 255 < c) : CodA cs 0 (Int32.ofNat n) ((cs.map lo8).map Value.int) := Or.inl ⟨rfl, by rw [hn], by simp [List.map_map, Function.comp_def], hb⟩
end StrChars.Road
end Jvm.Pilot.@@N@@
namespace Jvm.Pilot.@@N@@
open Jvm Jvm.ClassFile Sem Op Lib Jvm.Free Jvm.Stand Jvm.LawKit Jvm.RoadKit Bundle Jvm.Pilot.@@N@@.Jvm.D
theorem hwk {ts : List Jvm.Cond} {a0 : Array Value} {Z : State} (hw : ∀ d ∈ ts, d.before a0 Z = true) (i : Nat) {d : Jvm.Cond} (h : ts[i]? = some d) : d.before a0 Z = true := hw d (List.mem_of_getElem? h)
theorem old_le {Z : State} {n0 : Nat} {h : Heap} (O : Old Z n0 h) : n0 ≤ h.size := O.1 ▸ O.2.1
theorem narrow_refV {t : FieldType} {v : Value} (ht : t.isReference = true) (hv : v.isRef = true) : narrow t v = v := by rcases ref_cases hv with rfl | ⟨a, rfl⟩ <;> cases t <;> first | rfl | cases ht
theorem fits_refV {t : FieldType} {v : Value} (ht : t.isReference = true) (hv : v.isRef = true) : fits t v = true := by rcases ref_cases hv with rfl | ⟨a, rfl⟩ <;> cases t <;> first | rfl | cases ht
def SameStand {p : Program} {l : Launch} {e : Env} {R : Room} {s : State} {m : MethodId} {args : Array Value} {below : List Frame} {meth : Method} {c : Code} {T : State} {locs : List Loc} {cells slots : Nat} (_ : Stand p l e R s m args below meth c T locs cells slots) (T' : State) : Prop := Stand p l e R s m args below meth c T' locs cells slots
def WideStand {p : Program} {l : Launch} {e : Env} {R : Room} {s : State} {m : MethodId} {args : Array Value} {below : List Frame} {meth : Method} {c : Code} {T : State} {locs : List Loc} {cells slots : Nat} (_ : Stand p l e R s m args below meth c T locs cells slots) (s' T' : State) (dc ds : Nat) : Prop := Stand p l e R s' m args below meth c T' locs (cells + dc) (slots + ds)
def JoinStand {p : Program} {l : Launch} {e : Env} {R : Room} {s : State} {m : MethodId} {args : Array Value} {below : List Frame} {meth : Method} {c : Code} {T : State} {locs : List Loc} {cells slots : Nat} (_ : Stand p l e R s m args below meth c T locs cells slots) (s' T' : State) (L' : List Loc) (dc ds : Nat) : Prop := Stand p l e R s' m args below meth c T' (locs ++ L') (cells + dc) (slots + ds)
theorem own_jn {p : Program} {l : Launch} {e : Env} {R : Room} {s : State} {m : MethodId} {args : Array Value} {below : List Frame} {meth : Method} {c : Code} {T : State} {locs : List Loc} {cells slots : Nat} (X : Stand p l e R s m args below meth c T locs cells slots) : Stand p l e R s m args below meth c T (locs ++ []) cells slots := by rw [List.append_nil]; exact X
def OptExa (Z : State) (h : Heap) (v : Value) (C : String) : Prop := ∀ a, v = .ref a → Exa Z h a C
theorem own_mext {Z : State} {h h' : Heap} {v : Value} {C : String} (E : Ext h h') (F : OptExa Z h v C) : OptExa Z h' v C := fun a q => Exa.ext E (F a q)
theorem own_mwr {Z : State} {h h' : Heap} {v w : Value} {C : String} {b : Addr} {sl : Nat} (W : Wr h h' b sl w) (F : OptExa Z h v C) : OptExa Z h' v C := fun a q => Exa.wr W (F a q)
theorem own_mkeep {Z : State} {h h' : Heap} {v : Value} {C : String} {ws : List Addr} (K : Keep h h' ws) (F : OptExa Z h v C) : OptExa Z h' v C := fun a q => Exa.keep (F a q) K
theorem own_mnull {Z : State} {h : Heap} {C : String} : OptExa Z h .null C := fun a q => by cases q
theorem own_mref {Z : State} {h : Heap} {x : Addr} {C : String} (E : Exa Z h x C) : OptExa Z h (.ref x) C := fun a q => by cases q; exact E
theorem own_sf {P : Addr → Prop} {y : Addr} {L : List Addr} (q : P y) (r : ∀ x ∈ L, P x) : ∀ x ∈ y :: L, P x := fun x z => (List.mem_cons.mp z).elim (fun u => u ▸ q) (r x)
theorem own_ext {h h' h'' : Heap} (a : Ext h h') (b : Ext h' h'') : Ext h h'' := ⟨Nat.le_trans a.1 b.1, fun x c q => b.2 x c (a.2 x c q)⟩
theorem own_ite {c : Prop} [Decidable c] {a b : Value} (ha : a.isRef = true) (hb : b.isRef = true) : (if c then a else b).isRef = true := by split <;> assumption
theorem own_eqI {args : Array Value} {s : State} {a b : Term} {n : Int32} (h : (Jvm.Cond.eq a b).value args s none s [] = some true) (hb : b.eval args s none [] s = some (.int n)) : a.eval args s none [] s = some (.int n) := by
  obtain ⟨x, y, h1, h2, h3, h4⟩ := cmp_v (Or.inl h)
  cases h2.symm.trans hb
  obtain ⟨z, rfl⟩ := h4
  have q := gotT (Jvm.Cond.eq_ints h1 hb) h
  rw [h1, q]
theorem own_eqR {args : Array Value} {s : State} {a b : Term} {x y : Value} (h : (Jvm.Cond.eq a b).value args s none s [] = some true) (ha : a.eval args s none [] s = some x) (hb : b.eval args s none [] s = some y) (hx : x.isRef = true) (hy : y.isRef = true) : x = y := gotT (eq_R ha hb hx hy) h
theorem own_neR {args : Array Value} {s : State} {a b : Term} {x y : Value} (h : (Jvm.Cond.not (Jvm.Cond.eq a b)).value args s none s [] = some true) (ha : a.eval args s none [] s = some x) (hb : b.eval args s none [] s = some y) (hx : x.isRef = true) (hy : y.isRef = true) : ¬ x = y := gotF (eq_R ha hb hx hy) (not_v h)
theorem own_str {a0 : Array Value} {Z : State} (hw : ∀ d ∈ tables_1, d.before a0 Z = true) : ∀ a ∈ Bundle.stringAtoms, a.before a0 Z = true := fun a ha => by
  simp only [Bundle.stringAtoms, List.mem_cons, List.not_mem_nil, or_false] at ha
  rcases ha with rfl | rfl | rfl | rfl | rfl | rfl | rfl
  · exact (hwk hw 4 rfl)
  · exact (hwk hw 5 rfl)
  · exact (hwk hw 6 rfl)
  · exact (hwk hw 7 rfl)
  · exact (hwk hw 8 rfl)
  · exact (hwk hw 9 rfl)
  · exact (hwk hw 10 rfl)

theorem own_EW {a0 : Array Value} {Z : State} (hw : ∀ d ∈ tables_1, d.before a0 Z = true) : EW Z a0 consts_1 := by
  unfold consts_1
  exact (EW.cons (hwk hw 3 rfl) (by decide) (EW.cons (hwk hw 78 rfl) (by decide) (EW.cons (hwk hw 76 rfl) (by decide) (EW.cons (hwk hw 80 rfl) (by decide) EW.nil))))
/-- a call of a callee that keeps the literals' invariant and is told which addresses no literal has -/
theorem own_backSH {p : Program} {l : Launch} {e : Env} {R : Room} {s : State} {args : Array Value} {below : List Frame} {Z : State} {a0 : Array Value} {EL : List (String × Nat)} {h : Heap} {vm0 : Vm} {y : MethodName} {bytes : ByteArray} {maxL : Nat} {ret : Option FieldType} {rm : Room} {len W : Nat} {as' : Array Value} {Q : Option Value → Heap → List Loc → Prop} {sf : List Addr}
    (hM : MetFree l y (head1 [Jvm.Cond.code y bytes maxL ret] rm) (fun a U => a = as' ∧ Z.Warmed39 U.vm ∧ U.heap = h ∧ CHv Z EL U.vm h ∧ ∀ x ∈ sf, Safe Z EL U.vm h x) (fun _ _ _ _ _ => True) (fun _ U o U' => ∃ v L, o = .returned v ∧ Q v U'.heap L ∧ CHr Z EL U.vm U.heap U'.vm U'.heap ∧ ReturnedEndW U o U' L rm.cells rm.slots))
    (hZ : Z.Warmed39 vm0) (wc : (Jvm.Cond.code y bytes maxL ret).before a0 Z = true) (wz : (Jvm.Cond.initialized y.cls).before a0 Z = true) (hf : rm.frames + 1 ≤ R.frames) (hl : W + (maxL + 11) + rm.locals ≤ R.locals) (hEL : EW Z a0 EL) (H : CHv Z EL vm0 h) (hsf : ∀ x ∈ sf, x < h.size ∧ Safe Z EL vm0 h x) :
    BackS l R p e below (s.setVm vm0) args y len W (fun A a => a = as' ∧ A.U.heap = h ∧ A.cells + rm.cells ≤ R.cells ∧ A.slots + rm.slots ≤ R.slots)
      (fun A _ v B => ∃ L, Q v B.U.heap L ∧ B.locs = A.locs ++ L ∧ B.cells = A.cells + rm.cells ∧ B.slots = A.slots + rm.slots ∧ CHr Z EL vm0 h B.U.vm B.U.heap) := by
  refine BackS.of_freeW (bytes := bytes) (maxL := maxL) (ret := ret) (E := fun _ U o t L k n => (k = rm.cells ∧ n = rm.slots) ∧ (∃ v, o = .returned v ∧ Q v t.heap L) ∧ CHr Z EL U.vm U.heap t.vm t.heap) hM hf hl ?_ ?_ ?_ ?_ ?_
  · intro m meth c A a Y hp
    have hU : Z.Warmed39 A.U.vm := wtrans (s := s.setVm vm0) hZ Y.warmed
    refine ⟨?_, mv hU wc, mv hU wz, hp.2.2.1, hp.2.2.2⟩
    show (Jvm.Cond.and _ .tt).before a A.U = true
    rw [Cond.before_and, mv hU wc]; rfl
  · intro m meth c A a g mk Y hp
    have C := CHv.at Y hZ hEL H
    exact ⟨hp.1, wtrans (s := s.setVm vm0) hZ Y.warmed, hp.2.1, C.1, fun x hx => C.safe (hsf x hx).1 (hsf x hx).2⟩
  · intros; trivial
  · rintro _ _ _ _ ⟨v, L, h1, h2, h3, h4⟩
    exact ⟨L, _, _, h4, ⟨rfl, rfl⟩, ⟨v, h1, h2⟩, h3⟩
  · rintro m meth c A a g mk v t L k n Y hp - - ⟨⟨rfl, rfl⟩, ⟨v', e3, e4⟩, e5⟩
    cases e3
    refine ⟨L, e4, rfl, rfl, rfl, (CHv.at Y hZ hEL H).trans ?_⟩
    rw [← hp.2.1]; exact e5

theorem own_frnil {n0 : Nat} {L : List Loc} (h : L = []) : Fr n0 L := h ▸ Fr.nil n0
def OwnStr (cs : List Int32) (N : Int32) (vs : List Value) : Prop := StrChars.Road.CodA cs (0 : Int32) N vs ∧ (∀ c ∈ cs, ¬ c < 0 ∧ ¬ (65535 : Int32) < c) ∧ cs.length ≤ 4000
def VM (cs ds : List Int32) : Int32 := if cs = ds then 1 else 0
theorem own_vm {cs ds : List Int32} {v : Option Value} (h : (v = some (.int 1) ∧ cs = ds) ∨ (v = some (.int 0) ∧ ¬ cs = ds)) : v = some (.int (VM cs ds)) := by
  unfold VM
  rcases h with ⟨rfl, h⟩ | ⟨rfl, h⟩
  · rw [if_pos h]
  · rw [if_neg h]
theorem own_s255 {cs : List Int32} (h : ∀ c ∈ cs, ¬ c < 0 ∧ ¬ (255 : Int32) < c) (hl : cs.length ≤ 4000) : OwnStr cs (Int32.ofNat cs.length) ((cs.map (fun c => c.toInt8.toInt32)).map Value.int) :=
  ⟨StrChars.Road.codOf rfl (fun c hc => (h c hc).2), fun c hc => ⟨(h c hc).1, fun q => (h c hc).2 (by rw [Int32.lt_iff_toInt_lt] at q ⊢; have e1 : (65535 : Int32).toInt = 65535 := by decide
                                                                                                      have e2 : (255 : Int32).toInt = 255 := by decide
                                                                                                      omega)⟩, hl⟩

theorem own_cloneV {p : Program} {l : Launch} {e : Env} {R : Room} {s : State} {m : MethodId} {args : Array Value} {below : List Frame} {meth : Method} {c : Code} {T : State} {locs : List Loc} {cells slots : Nat} {Z : State} {h : Heap} {a : Addr} {ty : FieldType} (X : Stand p l e R s m args below meth c T locs cells slots) (hx : p.tables.exec = Jvm.exec) (hZ : Z.Warmed39 s.vm) {a0 : Array Value} {own ad : String} {index : Nat} (hown : s.vm.findClass own = some m.cls)
    (w1 : (Cond.methodLink own index ⟨ad, "clone", "()Ljava/lang/Object;"⟩).before a0 Z = true) (w2 : (Cond.sameMethod ad "java/lang/Object" "clone" "()Ljava/lang/Object;").before a0 Z = true) (w3 : (Cond.native ⟨"java/lang/Object", "clone", "()Ljava/lang/Object;"⟩).before a0 Z = true)
    (w4 : (Cond.instanceMethod ⟨"java/lang/Object", "clone", "()Ljava/lang/Object;"⟩).before a0 Z = true) (w5 : (Cond.selects ad ⟨ad, "clone", "()Ljava/lang/Object;"⟩ ⟨"java/lang/Object", "clone", "()Ljava/lang/Object;"⟩).before a0 Z = true) (w6 : (Cond.castable ad "java/lang/Cloneable").before a0 Z = true)
    (eT : T.heap = h) {k : ClassId} {z : Int32} {vs : List Value} {dv : Value} (F : Arv Z h a k ty z vs dv) (E : Exa Z h a ad) {g : JFrame} (hg : g.method = m) (hsize : g.locals.size = c.maxLocals) {rest : List Value} (hst : g.stack = .ref a :: rest) (hd : decode c.code g.pc = .ok (.invokevirtual index, 3))
    (hf : 1 ≤ R.frames) {W cap : Nat} (hW : 2 * g.monitorRoom + (rest.map fun v => v.category).sum ≤ W) (hl : W + 14 ≤ R.locals) (hcap : z.toNatClampNeg ≤ cap) (hc : cells + 1 ≤ R.cells) (hsl : slots + cap ≤ R.slots) :
    ∃ T' h', Stand p l e R s m args below meth c T' locs (cells + 1) (slots + cap) ∧ T'.heap = h' ∧ Ext h h' ∧ Arv Z h' h.size k ty z vs dv ∧ Exa Z h' h.size ad ∧
      ∀ target, Steps p.tables e below (T'.setTop { g with pc := g.pc + 3, stack := .ref h.size :: rest }) target → Steps p.tables e below (T.setTop g) target := by
  obtain ⟨cl, A, q1, S, q3, H, G⟩ := F
  have FC : FitC Z cl := fitC_of A fun i hi v hv => by rw [H i hi] at hv; cases hv; exact G i hi
  obtain ⟨T', h', X', e', ex, A', E', st⟩ := cloneA X hx hZ hown w1 w2 w3 w4 w5 w6 eT A E FC hg hsize hst hd hf hW hl (by rw [S]; exact hcap) hc hsl
  exact ⟨T', h', X', e', ex, ⟨cloneOf cl, A', q1, S, q3, H, G⟩, E', st⟩

theorem own_os0 : OwnStr [(99 : Int32), (97 : Int32), (108 : Int32), (108 : Int32)] (4 : Int32) [(.int (99 : Int32)), (.int (97 : Int32)), (.int (108 : Int32)), (.int (108 : Int32))] := ⟨Or.inl ⟨rfl, by decide, by rfl, by decide⟩, by decide, by decide⟩
theorem own_os1 : OwnStr [(115 : Int32), (109 : Int32), (115 : Int32)] (3 : Int32) [(.int (115 : Int32)), (.int (109 : Int32)), (.int (115 : Int32))] := ⟨Or.inl ⟨rfl, by decide, by rfl, by decide⟩, by decide, by decide⟩
theorem own_os2 : OwnStr [(100 : Int32), (97 : Int32), (116 : Int32), (97 : Int32)] (4 : Int32) [(.int (100 : Int32)), (.int (97 : Int32)), (.int (116 : Int32)), (.int (97 : Int32))] := ⟨Or.inl ⟨rfl, by decide, by rfl, by decide⟩, by decide, by decide⟩
theorem own_os3 : OwnStr [(108 : Int32), (111 : Int32), (99 : Int32), (97 : Int32), (108 : Int32), (45 : Int32), (100 : Int32), (97 : Int32), (116 : Int32), (97 : Int32)] (10 : Int32) [(.int (108 : Int32)), (.int (111 : Int32)), (.int (99 : Int32)), (.int (97 : Int32)), (.int (108 : Int32)), (.int (45 : Int32)), (.int (100 : Int32)), (.int (97 : Int32)), (.int (116 : Int32)), (.int (97 : Int32))] := ⟨Or.inl ⟨rfl, by decide, by rfl, by decide⟩, by decide, by decide⟩
theorem own_s255c {cs ds : List Int32} (h : ∀ c ∈ cs, ¬ c < 0 ∧ ¬ (255 : Int32) < c) (hl : cs.length ≤ 4000) (e : cs = ds) : OwnStr ds (Int32.ofNat cs.length) ((cs.map (fun c => c.toInt8.toInt32)).map Value.int) := by
  subst e
  exact own_s255 h hl
theorem own_vm0 (cs : List Int32) : ¬ VM cs cs = (0 : Int32) := by unfold VM; rw [if_pos rfl]; decide
theorem ef_rm8 (m : MethodId)  : entryFrame m #[] 0 = mkF m 0 #[] [] := by first | (simp [entryFrame, mkF, argsToLocals, Value.category]; done) | rfl
def Q_rm8 (Z : State) (w_UsageKind_SMS : Addr) (w_UsageKind_CALL : Addr) (w_UsageKind_DATA : Addr) (w_UsageKind__VALUES : Addr) (w_UsageKind_LOCAL_DATA : Addr) (k_w_UsageKind__VALUES : ClassId) (h0 : Heap) (n0 : Nat) (v : Option Value) (h : Heap) (L : List Loc) : Prop := ∃ o : Addr, (v = some (.ref o)) ∧ (Fr n0 L) ∧ (Keep h0 h []) ∧ (h0.size ≤ o) ∧ (Arv Z h o k_w_UsageKind__VALUES (.object "com/example/bill_run/billrun/UsageKind") (4 : Int32) [(.ref w_UsageKind_CALL), (.ref w_UsageKind_SMS), (.ref w_UsageKind_DATA), (.ref w_UsageKind_LOCAL_DATA)] .null)
theorem pn_0 : plainName "com/example/bill_run/billrun/UsageKind" = true := by first | (simp [plainName, overriddenIn]; done) | decide +kernel
theorem d8_0 : decode prog_46_method_1_code 0 = .ok (.getstatic 16, 3) := by decide +kernel
theorem d8_3 : decode prog_46_method_1_code 3 = .ok (.invokevirtual 20, 3) := by decide +kernel
theorem d8_6 : decode prog_46_method_1_code 6 = .ok (.checkcast 21, 3) := by decide +kernel
theorem d8_9 : decode prog_46_method_1_code 9 = .ok (.areturn, 1) := by decide +kernel
set_option maxRecDepth 65536 in
set_option maxHeartbeats 40000000 in
theorem rm8 (l : Launch) (Z : State) (a0 : Array Value) (hw : ∀ d ∈ tables_1, d.before a0 Z = true) (ws : List Jvm.Cond) (w_UsageKind_SMS : Addr) (w_UsageKind_CALL : Addr) (w_UsageKind_DATA : Addr) (w_UsageKind__VALUES : Addr) (w_UsageKind_LOCAL_DATA : Addr) (k_w_UsageKind__VALUES : ClassId) (h0 : Heap) (n0 : Nat) (O0 : Old Z n0 h0) (S_UsageKind__VALUES : Sta Z Z.heap "com/example/bill_run/billrun/UsageKind" "$VALUES" "[Lcom/example/bill_run/billrun/UsageKind;" (.ref w_UsageKind__VALUES)) (E_w_UsageKind__VALUES : Exa Z Z.heap w_UsageKind__VALUES "[Lcom/example/bill_run/billrun/UsageKind;") (V_w_UsageKind__VALUES : Arv Z Z.heap w_UsageKind__VALUES k_w_UsageKind__VALUES (.object "com/example/bill_run/billrun/UsageKind") (4 : Int32) [(.ref w_UsageKind_CALL), (.ref w_UsageKind_SMS), (.ref w_UsageKind_DATA), (.ref w_UsageKind_LOCAL_DATA)] .null) :
    MetFree l (⟨"com/example/bill_run/billrun/UsageKind", "values", "()[Lcom/example/bill_run/billrun/UsageKind;"⟩ : MethodName) (head1 (Jvm.Cond.code (⟨"com/example/bill_run/billrun/UsageKind", "values", "()[Lcom/example/bill_run/billrun/UsageKind;"⟩ : MethodName) prog_46_method_1_code 0 (some (.array (.object "com/example/bill_run/billrun/UsageKind"))) :: ws) ({ frames := 1, cells := 1, slots := 4, locals := 14 } : Room)) (fun a U => a = #[] ∧ Z.Warmed39 U.vm ∧ U.heap = h0) (fun _ _ _ _ _ => True) (fun _ U o U' => ∃ v L, o = .returned v ∧ Q_rm8 Z w_UsageKind_SMS w_UsageKind_CALL w_UsageKind_DATA w_UsageKind__VALUES w_UsageKind_LOCAL_DATA k_w_UsageKind__VALUES h0 n0 v U'.heap L ∧ FrameEnd U o U' L ({ frames := 1, cells := 1, slots := 4, locals := 14 } : Room).cells ({ frames := 1, cells := 1, slots := 4, locals := 14 } : Room).slots) := by
  refine MetFree.of_bodySF (plainFor_of_name pn_0) hisR ?_
  intro p e s m args below meth c s₁ Bd hml0 hP hK
  obtain ⟨rfl, hZ, hh⟩ := hP
  have hx := Bd.exec
  have hby := Bd.bytes
  have hml : c.maxLocals = 0 := hml0
  have hown : s.vm.findClass "com/example/bill_run/billrun/UsageKind" = some m.cls := findClass_of_methodNamed Bd.named
  have hnm := (name_of_methodNamed Bd.named Bd.method).1
  have X0 : Stand p l e ({ frames := 1, cells := 1, slots := 4, locals := 14 } : Room) s m #[] below meth c s₁ [] 0 0 := Stand.of_body Bd
  have e0 : s₁.heap = h0 := by rw [← hh, Bd.state]; rfl
  have N0 := Fr.nil n0
  have Z0 : n0 ≤ h0.size := old_le O0
  have pre0 : ∀ t, Steps p.tables e below (s₁.setTop (mkF m 0 #[] [])) t → Steps p.tables e below (s₁.setTop (entryFrame m #[] 0)) t := fun t k => castTop (ef_rm8 m ) k
  have c101 : Sta Z h0 "com/example/bill_run/billrun/UsageKind" "$VALUES" "[Lcom/example/bill_run/billrun/UsageKind;" (.ref w_UsageKind__VALUES) := Sta.ext (O0).2 S_UsageKind__VALUES
  obtain ⟨T102, X102, e102, st102⟩ := getS2 X0 hx hZ hown (host := "") (Or.inl (hwk hw 42 rfl)) Via.refl e0 c101 (g := (mkF m 0 #[] [])) rfl (hb hby d8_0)
  have c103 : Arv Z h0 w_UsageKind__VALUES k_w_UsageKind__VALUES (.object "com/example/bill_run/billrun/UsageKind") (4 : Int32) [(.ref w_UsageKind_CALL), (.ref w_UsageKind_SMS), (.ref w_UsageKind_DATA), (.ref w_UsageKind_LOCAL_DATA)] .null := V_w_UsageKind__VALUES.ext O0.2
  have c104 : Exa Z h0 w_UsageKind__VALUES "[Lcom/example/bill_run/billrun/UsageKind;" := Exa.ext (O0).2 E_w_UsageKind__VALUES
  obtain ⟨T105, h105, X105, e105, E105, A105, D105, st105⟩ := own_cloneV X102 hx hZ hown (hwk hw 44 rfl) (hwk hw 45 rfl) (hwk hw 49 rfl) (hwk hw 47 rfl) (hwk hw 48 rfl) (hwk hw 50 rfl) e102 c103 c104 (g := (mkF m 3 #[] [(.ref w_UsageKind__VALUES)])) rfl (by rw [hml]; rfl) rfl (hb hby d8_3) (by decide) (W := 0) (by show 2 * 0 + _ ≤ _; exact Nat.le_of_eq rfl) (by decide) (cap := 4) (by decide) (by decide) (by decide)
  obtain ⟨b105, g105⟩ : ∃ z, z = h0.size := ⟨_, rfl⟩
  rw [← g105] at A105 D105 st105
  have g_b105 : n0 ≤ b105 := Nat.le_trans (old_le O0) (Nat.le_of_eq g105.symm)
  obtain ⟨T106, X106, e106, st106⟩ := castY X105 hx hZ hown (hwk hw 55 rfl) e105 (Ins.self D105) (g := (mkF m 6 #[] [(.ref b105)])) rfl rfl (hb hby d8_6)
  have K107 : Keep h0 h105 [] := Keep.ext (Keep.refl h0 []) E105
  obtain ⟨fs, hr, hrun, hended, hW, hsame⟩ := X106.leave (v := some (.ref b105)) (fun h => by rw [Bd.returns] at h; cases h)
  refine ⟨_, _, pre0 _ ?_, hrun, hended, _, _, rfl, ?_, ⟨_, rfl⟩, hW, hsame.mono (by decide) (by decide)⟩
  · show Steps p.tables e below (s₁.setTop (mkF m 0 #[] [])) _
    refine st102 _ ?_
    show Steps p.tables e below (T102.setTop (mkF m 3 #[] [(.ref w_UsageKind__VALUES)])) _
    refine st105 _ ?_
    show Steps p.tables e below (T105.setTop (mkF m 6 #[] [(.ref b105)])) _
    refine st106 _ ?_
    show Steps p.tables e below (T106.setTop (mkF m 9 #[] [(.ref b105)])) _
    exact Jvm.RoadKit.retOut X106 hx Bd.returns rfl (Or.inr (Or.inr (Or.inr (Or.inr ⟨rfl, rfl, rfl⟩)))) (hb hby d8_9) hr
  · show Q_rm8 Z w_UsageKind_SMS w_UsageKind_CALL w_UsageKind_DATA w_UsageKind__VALUES w_UsageKind_LOCAL_DATA k_w_UsageKind__VALUES h0 n0 _ T106.heap _
    rw [e106]
    unfold Q_rm8
    exact ⟨b105, rfl, N0, K107, (Nat.le_trans (Nat.le_refl _) (Nat.le_of_eq g105.symm)), A105⟩
theorem ef_rm11 (m : MethodId) (x0 : Addr) : entryFrame m #[(.ref x0)] 1 = mkF m 0 #[.val (.ref x0)] [] := by first | (simp [entryFrame, mkF, argsToLocals, Value.category]; done) | rfl
def Q_rm11 (Z : State) (a1 : Addr) (s1 : Addr) (h0 : Heap) (n0 : Nat) (v : Option Value) (h : Heap) (L : List Loc) : Prop := (v = some (.ref s1)) ∧ (Fr n0 L) ∧ (h = h0)
theorem d11_0 : decode prog_46_method_5_code 0 = .ok (.aload_n 0, 1) := by decide +kernel
theorem d11_1 : decode prog_46_method_5_code 1 = .ok (.getfield 35, 3) := by decide +kernel
theorem d11_4 : decode prog_46_method_5_code 4 = .ok (.areturn, 1) := by decide +kernel
set_option maxRecDepth 65536 in
set_option maxHeartbeats 40000000 in
theorem rm11 (l : Launch) (Z : State) (a0 : Array Value) (hw : ∀ d ∈ tables_1, d.before a0 Z = true) (ws : List Jvm.Cond) (a1 : Addr) (s1 : Addr) (h0 : Heap) (n0 : Nat) (O0 : Old Z n0 h0) (F1 : Fld Z h0 a1 "com/example/bill_run/billrun/UsageKind" "written" "Ljava/lang/String;" (.ref s1)) :
    MetFree l (⟨"com/example/bill_run/billrun/UsageKind", "toString", "()Ljava/lang/String;"⟩ : MethodName) (head1 (Jvm.Cond.code (⟨"com/example/bill_run/billrun/UsageKind", "toString", "()Ljava/lang/String;"⟩ : MethodName) prog_46_method_5_code 1 (some (.object "java/lang/String")) :: ws) ({ frames := 0, cells := 0, slots := 0, locals := 0 } : Room)) (fun a U => a = #[(.ref a1)] ∧ Z.Warmed39 U.vm ∧ U.heap = h0) (fun _ _ _ _ _ => True) (fun _ U o U' => ∃ v L, o = .returned v ∧ Q_rm11 Z a1 s1 h0 n0 v U'.heap L ∧ FrameEnd U o U' L ({ frames := 0, cells := 0, slots := 0, locals := 0 } : Room).cells ({ frames := 0, cells := 0, slots := 0, locals := 0 } : Room).slots) := by
  refine MetFree.of_bodySF (plainFor_of_name pn_0) hisR ?_
  intro p e s m args below meth c s₁ Bd hml0 hP hK
  obtain ⟨rfl, hZ, hh⟩ := hP
  have hx := Bd.exec
  have hby := Bd.bytes
  have hml : c.maxLocals = 1 := hml0
  have hown : s.vm.findClass "com/example/bill_run/billrun/UsageKind" = some m.cls := findClass_of_methodNamed Bd.named
  have hnm := (name_of_methodNamed Bd.named Bd.method).1
  have X0 : Stand p l e ({ frames := 0, cells := 0, slots := 0, locals := 0 } : Room) s m #[(.ref a1)] below meth c s₁ [] 0 0 := Stand.of_body Bd
  have e0 : s₁.heap = h0 := by rw [← hh, Bd.state]; rfl
  have N0 := Fr.nil n0
  have Z0 : n0 ≤ h0.size := old_le O0
  have pre0 : ∀ t, Steps p.tables e below (s₁.setTop (mkF m 0 #[.val (.ref a1)] [])) t → Steps p.tables e below (s₁.setTop (entryFrame m #[(.ref a1)] 1)) t := fun t k => castTop (ef_rm11 m a1) k
  obtain ⟨T101, X101, e101, st101⟩ := getF X0 hx hZ hown (host := "") (Or.inl (hwk hw 57 rfl)) Via.refl e0 F1 (g := (mkF m 1 #[.val (.ref a1)] [(.ref a1)])) rfl rfl (hb hby d11_1)
  obtain ⟨fs, hr, hrun, hended, hW, hsame⟩ := X101.leave (v := some (.ref s1)) (fun h => by rw [Bd.returns] at h; cases h)
  refine ⟨_, _, pre0 _ ?_, hrun, hended, _, _, rfl, ?_, ⟨_, rfl⟩, hW, hsame.mono (by decide) (by decide)⟩
  · show Steps p.tables e below (s₁.setTop (mkF m 0 #[.val (.ref a1)] [])) _
    refine XS.aloadN X0.here hx rfl (hb hby d11_0) rfl rfl ?_
    show Steps p.tables e below (s₁.setTop (mkF m 1 #[.val (.ref a1)] [(.ref a1)])) _
    refine st101 _ ?_
    show Steps p.tables e below (T101.setTop (mkF m 4 #[.val (.ref a1)] [(.ref s1)])) _
    exact Jvm.RoadKit.retOut X101 hx Bd.returns rfl (Or.inr (Or.inr (Or.inr (Or.inr ⟨rfl, rfl, rfl⟩)))) (hb hby d11_4) hr
  · show Q_rm11 Z a1 s1 h0 n0 _ T101.heap _
    rw [e101]
    unfold Q_rm11
    exact ⟨rfl, N0, rfl⟩
theorem ef_rn0 (m : MethodId) (x0 : Addr) : entryFrame m #[(.ref x0)] 5 = mkF m 0 #[.val (.ref x0), .unset, .unset, .unset, .unset] [] := by first | (simp [entryFrame, mkF, argsToLocals, Value.category]; done) | rfl
def Q_rn0 (Z : State) (s1 : Addr) (t1 : Addr) (k1 : ClassId) (n1 : Int32) (vs1 : List Value) (w_UsageKind_SMS : Addr) (w_UsageKind_CALL : Addr) (w_UsageKind_DATA : Addr) (w_UsageKind__VALUES : Addr) (w_UsageKind_LOCAL_DATA : Addr) (w_UsageKind_CALL_written : Addr) (w_UsageKind_CALL_written_value : Addr) (k_w_UsageKind__VALUES : ClassId) (k_w_UsageKind_CALL_written_value : ClassId) (zc : Int32) (h0 : Heap) (n0 : Nat) (v : Option Value) (h : Heap) (L : List Loc) : Prop := (v = some (.ref w_UsageKind_CALL)) ∧ (Fr n0 L) ∧ (Keep h0 h [])
theorem d7_0 : decode prog_46_method_4_code 0 = .ok (.invokestatic 39, 3) := by decide +kernel
theorem pd_0 : parseMethodDescriptor "()[Lcom/example/bill_run/billrun/UsageKind;" = some ⟨[], some (.array (.object "com/example/bill_run/billrun/UsageKind"))⟩ := by decide +kernel
theorem d7_3 : decode prog_46_method_4_code 3 = .ok (.astore_n 1, 1) := by decide +kernel
theorem d7_4 : decode prog_46_method_4_code 4 = .ok (.aload_n 1, 1) := by decide +kernel
theorem d7_5 : decode prog_46_method_4_code 5 = .ok (.arraylength, 1) := by decide +kernel
theorem d7_6 : decode prog_46_method_4_code 6 = .ok (.istore_n 2, 1) := by decide +kernel
theorem d7_7 : decode prog_46_method_4_code 7 = .ok (.iconst 0, 1) := by decide +kernel
theorem d7_8 : decode prog_46_method_4_code 8 = .ok (.istore_n 3, 1) := by decide +kernel
theorem d7_9 : decode prog_46_method_4_code 9 = .ok (.iload_n 3, 1) := by decide +kernel
theorem d7_10 : decode prog_46_method_4_code 10 = .ok (.iload_n 2, 1) := by decide +kernel
theorem d7_11 : decode prog_46_method_4_code 11 = .ok (.if_icmp .ge 29, 3) := by decide +kernel
theorem d7_14 : decode prog_46_method_4_code 14 = .ok (.aload_n 1, 1) := by decide +kernel
theorem d7_15 : decode prog_46_method_4_code 15 = .ok (.iload_n 3, 1) := by decide +kernel
theorem d7_16 : decode prog_46_method_4_code 16 = .ok (.aaload, 1) := by decide +kernel
theorem d7_17 : decode prog_46_method_4_code 17 = .ok (.astore 4, 2) := by decide +kernel
theorem d7_19 : decode prog_46_method_4_code 19 = .ok (.aload 4, 2) := by decide +kernel
theorem d7_21 : decode prog_46_method_4_code 21 = .ok (.getfield 35, 3) := by decide +kernel
theorem d7_24 : decode prog_46_method_4_code 24 = .ok (.aload_n 0, 1) := by decide +kernel
theorem d7_25 : decode prog_46_method_4_code 25 = .ok (.invokevirtual 43, 3) := by decide +kernel
theorem pd_1 : parseMethodDescriptor "(Ljava/lang/Object;)Z" = some ⟨[(.object "java/lang/Object")], some .boolean⟩ := by decide +kernel
theorem d7_28 : decode prog_46_method_4_code 28 = .ok (.ifCond .eq 6, 3) := by decide +kernel
theorem d7_31 : decode prog_46_method_4_code 31 = .ok (.aload 4, 2) := by decide +kernel
theorem d7_33 : decode prog_46_method_4_code 33 = .ok (.areturn, 1) := by decide +kernel
set_option maxRecDepth 65536 in
set_option maxHeartbeats 40000000 in
theorem rn0 (l : Launch) (Z : State) (a0 : Array Value) (hw : ∀ d ∈ tables_1, d.before a0 Z = true) (ws : List Jvm.Cond) (s1 : Addr) (t1 : Addr) (k1 : ClassId) (n1 : Int32) (vs1 : List Value) (w_UsageKind_SMS : Addr) (w_UsageKind_CALL : Addr) (w_UsageKind_DATA : Addr) (w_UsageKind__VALUES : Addr) (w_UsageKind_LOCAL_DATA : Addr) (w_UsageKind_CALL_written : Addr) (w_UsageKind_CALL_written_value : Addr) (k_w_UsageKind__VALUES : ClassId) (k_w_UsageKind_CALL_written_value : ClassId) (zc : Int32) (h0 : Heap) (n0 : Nat) (O0 : Old Z n0 h0) (E1 : Exa Z h0 s1 "java/lang/String") (V1 : Fld Z h0 s1 "java/lang/String" "value" "[B" (.ref t1)) (C1 : Fld Z h0 s1 "java/lang/String" "coder" "B" (.int (0 : Int32))) (A1 : Arv Z h0 t1 k1 .byte n1 vs1 (.int 0)) (S1 : OwnStr [(99 : Int32), (97 : Int32), (108 : Int32), (108 : Int32)] n1 vs1) (E_w_UsageKind_CALL : Exa Z Z.heap w_UsageKind_CALL "com/example/bill_run/billrun/UsageKind") (S_UsageKind__VALUES : Sta Z Z.heap "com/example/bill_run/billrun/UsageKind" "$VALUES" "[Lcom/example/bill_run/billrun/UsageKind;" (.ref w_UsageKind__VALUES)) (E_w_UsageKind__VALUES : Exa Z Z.heap w_UsageKind__VALUES "[Lcom/example/bill_run/billrun/UsageKind;") (V_w_UsageKind__VALUES : Arv Z Z.heap w_UsageKind__VALUES k_w_UsageKind__VALUES (.object "com/example/bill_run/billrun/UsageKind") (4 : Int32) [(.ref w_UsageKind_CALL), (.ref w_UsageKind_SMS), (.ref w_UsageKind_DATA), (.ref w_UsageKind_LOCAL_DATA)] .null) (F_w_UsageKind_CALL_written : Fld Z Z.heap w_UsageKind_CALL "com/example/bill_run/billrun/UsageKind" "written" "Ljava/lang/String;" (.ref w_UsageKind_CALL_written)) (E_w_UsageKind_CALL_written : Exa Z Z.heap w_UsageKind_CALL_written "java/lang/String") (F_w_UsageKind_CALL_written_value : Fld Z Z.heap w_UsageKind_CALL_written "java/lang/String" "value" "[B" (.ref w_UsageKind_CALL_written_value)) (F_w_UsageKind_CALL_written_coder : Fld Z Z.heap w_UsageKind_CALL_written "java/lang/String" "coder" "B" (.int (0 : Int32))) (V_w_UsageKind_CALL_written_value : Arv Z Z.heap w_UsageKind_CALL_written_value k_w_UsageKind_CALL_written_value .byte (4 : Int32) [(.int (99 : Int32)), (.int (97 : Int32)), (.int (108 : Int32)), (.int (108 : Int32))] (.int (0 : Int32))) (SZ : Sta Z Z.heap "java/lang/String" "COMPACT_STRINGS" "Z" (.int zc)) (PZ : ¬ (zc = (0 : Int32))) :
    MetFree l (⟨"com/example/bill_run/billrun/UsageKind", "named", "(Ljava/lang/String;)Lcom/example/bill_run/billrun/UsageKind;"⟩ : MethodName) (head1 (Jvm.Cond.code (⟨"com/example/bill_run/billrun/UsageKind", "named", "(Ljava/lang/String;)Lcom/example/bill_run/billrun/UsageKind;"⟩ : MethodName) prog_46_method_4_code 5 (some (.object "com/example/bill_run/billrun/UsageKind")) :: ws) ({ frames := 2, cells := 1, slots := 4, locals := 28 } : Room)) (fun a U => a = #[(.ref s1)] ∧ Z.Warmed39 U.vm ∧ U.heap = h0) (fun _ _ _ _ _ => True) (fun _ U o U' => ∃ v L, o = .returned v ∧ Q_rn0 Z s1 t1 k1 n1 vs1 w_UsageKind_SMS w_UsageKind_CALL w_UsageKind_DATA w_UsageKind__VALUES w_UsageKind_LOCAL_DATA w_UsageKind_CALL_written w_UsageKind_CALL_written_value k_w_UsageKind__VALUES k_w_UsageKind_CALL_written_value zc h0 n0 v U'.heap L ∧ FrameEnd U o U' L ({ frames := 2, cells := 1, slots := 4, locals := 28 } : Room).cells ({ frames := 2, cells := 1, slots := 4, locals := 28 } : Room).slots) := by
  refine MetFree.of_bodySF (plainFor_of_name pn_0) hisR ?_
  intro p e s m args below meth c s₁ Bd hml0 hP hK
  obtain ⟨rfl, hZ, hh⟩ := hP
  have hx := Bd.exec
  have hby := Bd.bytes
  have hml : c.maxLocals = 5 := hml0
  have hown : s.vm.findClass "com/example/bill_run/billrun/UsageKind" = some m.cls := findClass_of_methodNamed Bd.named
  have hnm := (name_of_methodNamed Bd.named Bd.method).1
  have X0 : Stand p l e ({ frames := 2, cells := 1, slots := 4, locals := 28 } : Room) s m #[(.ref s1)] below meth c s₁ [] 0 0 := Stand.of_body Bd
  have e0 : s₁.heap = h0 := by rw [← hh, Bd.state]; rfl
  have N0 := Fr.nil n0
  have Z0 : n0 ≤ h0.size := old_le O0
  have pre0 : ∀ t, Steps p.tables e below (s₁.setTop (mkF m 0 #[.val (.ref s1), .unset, .unset, .unset, .unset] [])) t → Steps p.tables e below (s₁.setTop (entryFrame m #[(.ref s1)] 5)) t := fun t k => castTop (ef_rn0 m s1) k
  obtain ⟨_, _, ⟨T101, L101, k101, n101⟩, -, X101, ⟨Lc101, hQ101, l101, y101, z101⟩, st101⟩ := Jvm.LawKit.callS X0 hx (y := (⟨"com/example/bill_run/billrun/UsageKind", "values", "()[Lcom/example/bill_run/billrun/UsageKind;"⟩ : MethodName)) hown (mvT hZ (hwk hw 39 rfl)) (mvT hZ (hwk hw 40 rfl)) (mvT hZ (hwk hw 1 rfl)) (mvT hZ (hwk hw 41 rfl)) (by decide) (backOf (W := 0) (rm8 l Z a0 hw [] w_UsageKind_SMS w_UsageKind_CALL w_UsageKind_DATA w_UsageKind__VALUES w_UsageKind_LOCAL_DATA k_w_UsageKind__VALUES h0 n0 O0 S_UsageKind__VALUES E_w_UsageKind__VALUES V_w_UsageKind__VALUES) hZ (hwk hw 41 rfl) (hwk hw 1 rfl) (by decide) (by decide)) (g := (mkF m 0 #[.val (.ref s1), .unset, .unset, .unset, .unset] [])) rfl (by rw [hml]; rfl) (argsL := []) (rest := []) (lenOf pd_0 rfl) rfl (by show 2 * 0 + _ ≤ _; exact Nat.le_of_eq rfl) (hb hby d7_0) (fun _ _ => ⟨rfl, e0, (by decide : 0 + 1 ≤ _), (by decide : 0 + 4 ≤ _)⟩)
  dsimp only [Pt.U, Pt.locs, Pt.cells, Pt.slots] at X101 l101 y101 z101 st101 hQ101
  subst l101 y101 z101
  unfold Q_rm8 at hQ101
  obtain ⟨o_101, rfl, N101q, K101, ge_o_101, f101_0⟩ := hQ101
  have N101 := Fr.app N0 N101q
  have g_o_101 : n0 ≤ o_101 := Nat.le_trans (old_le O0) ge_o_101
  obtain ⟨cl102, Ar102, -, Sz102, Nn102, -, -⟩ := id f101_0
  obtain ⟨clq103, Arq103, kqq103, Szq103, Nnq103, Hsq103, Gsq103⟩ := id f101_0
  have hinq103 : ¬ ((0 : Int32) < 0 ∨ clq103.slots.size ≤ ((0 : Int32)).toNatClampNeg) := inb_of Szq103 ⟨by decide, by decide⟩
  have O105 : Old Z n0 T101.heap := Old.keep O0 K101 all0
  have c104 : Fld Z T101.heap w_UsageKind_CALL "com/example/bill_run/billrun/UsageKind" "written" "Ljava/lang/String;" (.ref w_UsageKind_CALL_written) := Fld.ext (O105).2 F_w_UsageKind_CALL_written
  obtain ⟨T106, X106, e106, st106⟩ := getF X101 hx hZ hown (host := "") (Or.inl (hwk hw 57 rfl)) Via.refl (rfl : T101.heap = T101.heap) c104 (g := (mkF m 21 #[.val (.ref s1), .val (.ref o_101), .val (.int (4 : Int32)), .val (.int (0 : Int32)), .val (.ref w_UsageKind_CALL)] [(.ref w_UsageKind_CALL)])) rfl rfl (hb hby d7_21)
  have hws107 : ∀ d ∈ StrChars.Road.wordsEq, d.before a0 Z = true := fun d hd => hw d ((by decide +kernel : ∀ d ∈ StrChars.Road.wordsEq, d ∈ tables_1) d hd)
  have c108 : Exa Z T101.heap w_UsageKind_CALL_written "java/lang/String" := Exa.ext (O105).2 E_w_UsageKind_CALL_written
  have c109 : Fld Z T101.heap w_UsageKind_CALL_written "java/lang/String" "value" "[B" (.ref w_UsageKind_CALL_written_value) := Fld.ext (O105).2 F_w_UsageKind_CALL_written_value
  have c110 : Fld Z T101.heap w_UsageKind_CALL_written "java/lang/String" "coder" "B" (.int (0 : Int32)) := Fld.ext (O105).2 F_w_UsageKind_CALL_written_coder
  have c111 : Arv Z T101.heap w_UsageKind_CALL_written_value k_w_UsageKind_CALL_written_value .byte (4 : Int32) [(.int (99 : Int32)), (.int (97 : Int32)), (.int (108 : Int32)), (.int (108 : Int32))] (.int (0 : Int32)) := V_w_UsageKind_CALL_written_value.ext O105.2
  have c112 : Exa Z T101.heap s1 "java/lang/String" := (Exa.keep E1 K101)
  have c113 : Fld Z T101.heap s1 "java/lang/String" "value" "[B" (.ref t1) := (Fld.keep V1 K101 nin0)
  have c114 : Fld Z T101.heap s1 "java/lang/String" "coder" "B" (.int (0 : Int32)) := (Fld.keep C1 K101 nin0)
  have c115 : Arv Z T101.heap t1 k1 .byte n1 vs1 (.int 0) := (Arv.keep A1 K101 nin0)
  have c116 : Sta Z T101.heap "java/lang/String" "COMPACT_STRINGS" "Z" (.int zc) := Sta.ext (O105).2 SZ
  obtain ⟨cq117, kq117, q117a, q117b, q117c⟩ := isOf hZ e106 c108
  obtain ⟨_, _, ⟨T117, L117, k117, n117⟩, -, X117, ⟨Lc117, hQ117, l117, y117, z117⟩, st117⟩ := X106.virtualBack hx (y := (⟨"java/lang/String", "equals", "(Ljava/lang/Object;)Z"⟩ : MethodName)) (z := (⟨"java/lang/String", "equals", "(Ljava/lang/Object;)Z"⟩ : MethodName)) hown (mvT hZ (hwk hw 59 rfl)) (mvT hZ (hwk hw 60 rfl)) (notFace_of_selects (args := #[]) (mvT hZ (hwk hw 62 rfl))) (mvT hZ (hwk hw 62 rfl)) (mvT hZ (hwk hw 61 rfl)) (by decide) (StrChars.Road.eqW (W := 0) hZ hws107 (kI := 4) (hwk hw 5 rfl) c108 c109 c110 c111 own_os0.1 own_os0.2.1 own_os0.2.2 c112 c113 c114 c115 S1.1 S1.2.1 S1.2.2 c116 PZ (by decide) (by decide)) q117a q117c (g := (mkF m 25 #[.val (.ref s1), .val (.ref o_101), .val (.int (4 : Int32)), .val (.int (0 : Int32)), .val (.ref w_UsageKind_CALL)] [(.ref s1), (.ref w_UsageKind_CALL_written)])) rfl (by rw [hml]; rfl) (Steps.refl _) (argsL := [(.ref s1)]) (rest := []) (lenOf pd_1 rfl) rfl (by show 2 * 0 + _ ≤ _; exact Nat.le_of_eq rfl) (hb hby d7_25) (fun _ _ => ⟨rfl, e106, (by decide : 1 + 0 ≤ _), (by decide : 4 + 0 ≤ _)⟩)
  dsimp only [Pt.U, Pt.locs, Pt.cells, Pt.slots] at X117 l117 y117 z117 st117 hQ117
  subst l117 y117 z117
  obtain ⟨hv117, hl117, e117⟩ := hQ117
  cases own_vm hv117
  have N117 := Fr.app N101 (own_frnil hl117)
  have K118 : Keep h0 T101.heap [] := Keep.trans (Keep.refl h0 []) K101 all0
  obtain ⟨fs, hr, hrun, hended, hW, hsame⟩ := X117.leave (v := some (.ref w_UsageKind_CALL)) (fun h => by rw [Bd.returns] at h; cases h)
  refine ⟨_, _, pre0 _ ?_, hrun, hended, _, _, rfl, ?_, ⟨_, rfl⟩, hW, hsame.mono (by decide) (by decide)⟩
  · show Steps p.tables e below (s₁.setTop (mkF m 0 #[.val (.ref s1), .unset, .unset, .unset, .unset] [])) _
    refine st101 _ ?_
    show Steps p.tables e below (T101.setTop (mkF m 3 #[.val (.ref s1), .unset, .unset, .unset, .unset] [(.ref o_101)])) _
    refine XS.astoreN X101.here hx rfl (hb hby d7_3) rfl rfl (l' := #[.val (.ref s1), .val (.ref o_101), .unset, .unset, .unset]) rfl ?_
    show Steps p.tables e below (T101.setTop (mkF m 4 #[.val (.ref s1), .val (.ref o_101), .unset, .unset, .unset] [])) _
    refine XS.aloadN X101.here hx rfl (hb hby d7_4) rfl rfl ?_
    show Steps p.tables e below (T101.setTop (mkF m 5 #[.val (.ref s1), .val (.ref o_101), .unset, .unset, .unset] [(.ref o_101)])) _
    refine X101.arraylength hx (by rw [(rfl : T101.heap = T101.heap)]; exact Ar102.1) (State.isArrayOf_alike hZ.alike Ar102.2.1) (g := (mkF m 5 #[.val (.ref s1), .val (.ref o_101), .unset, .unset, .unset] [(.ref o_101)])) rfl rfl (hb hby d7_5) _ ?_
    rw [len_of Sz102 Nn102]
    show Steps p.tables e below (T101.setTop (mkF m 6 #[.val (.ref s1), .val (.ref o_101), .unset, .unset, .unset] [(.int (4 : Int32))])) _
    refine XS.istoreN X101.here hx rfl (hb hby d7_6) rfl (l' := #[.val (.ref s1), .val (.ref o_101), .val (.int (4 : Int32)), .unset, .unset]) rfl ?_
    show Steps p.tables e below (T101.setTop (mkF m 7 #[.val (.ref s1), .val (.ref o_101), .val (.int (4 : Int32)), .unset, .unset] [])) _
    refine XS.iconst X101.here hx rfl (hb hby d7_7) ?_
    show Steps p.tables e below (T101.setTop (mkF m 8 #[.val (.ref s1), .val (.ref o_101), .val (.int (4 : Int32)), .unset, .unset] [(.int (0 : Int32))])) _
    refine XS.istoreN X101.here hx rfl (hb hby d7_8) rfl (l' := #[.val (.ref s1), .val (.ref o_101), .val (.int (4 : Int32)), .val (.int (0 : Int32)), .unset]) rfl ?_
    show Steps p.tables e below (T101.setTop (mkF m 9 #[.val (.ref s1), .val (.ref o_101), .val (.int (4 : Int32)), .val (.int (0 : Int32)), .unset] [])) _
    refine XS.iloadN X101.here hx rfl (hb hby d7_9) rfl ?_
    show Steps p.tables e below (T101.setTop (mkF m 10 #[.val (.ref s1), .val (.ref o_101), .val (.int (4 : Int32)), .val (.int (0 : Int32)), .unset] [(.int (0 : Int32))])) _
    refine XS.iloadN X101.here hx rfl (hb hby d7_10) rfl ?_
    show Steps p.tables e below (T101.setTop (mkF m 11 #[.val (.ref s1), .val (.ref o_101), .val (.int (4 : Int32)), .val (.int (0 : Int32)), .unset] [(.int (4 : Int32)), (.int (0 : Int32))])) _
    refine XS.icmpNo X101.here hx rfl (hb hby d7_11) rfl (tlt (by decide : (0 : Int32) < (4 : Int32))).2.1 ?_
    show Steps p.tables e below (T101.setTop (mkF m 14 #[.val (.ref s1), .val (.ref o_101), .val (.int (4 : Int32)), .val (.int (0 : Int32)), .unset] [])) _
    refine XS.aloadN X101.here hx rfl (hb hby d7_14) rfl rfl ?_
    show Steps p.tables e below (T101.setTop (mkF m 15 #[.val (.ref s1), .val (.ref o_101), .val (.int (4 : Int32)), .val (.int (0 : Int32)), .unset] [(.ref o_101)])) _
    refine XS.iloadN X101.here hx rfl (hb hby d7_15) rfl ?_
    show Steps p.tables e below (T101.setTop (mkF m 16 #[.val (.ref s1), .val (.ref o_101), .val (.int (4 : Int32)), .val (.int (0 : Int32)), .unset] [(.int (0 : Int32)), (.ref o_101)])) _
    refine X101.aaload hx (j := (0 : Int32)) (v := (.ref w_UsageKind_CALL)) (by rw [(rfl : T101.heap = T101.heap)]; exact Arq103.1) (State.isArrayOf_alike hZ.alike Arq103.2.1) rfl Arq103.2.2 hinq103 (Has.at Hsq103 hinq103 rfl) (g := (mkF m 16 #[.val (.ref s1), .val (.ref o_101), .val (.int (4 : Int32)), .val (.int (0 : Int32)), .unset] [(.int (0 : Int32)), (.ref o_101)])) rfl rfl (hb hby d7_16) _ ?_
    show Steps p.tables e below (T101.setTop (mkF m 17 #[.val (.ref s1), .val (.ref o_101), .val (.int (4 : Int32)), .val (.int (0 : Int32)), .unset] [(.ref w_UsageKind_CALL)])) _
    refine XS.astore X101.here hx rfl (hb hby d7_17) rfl rfl (l' := #[.val (.ref s1), .val (.ref o_101), .val (.int (4 : Int32)), .val (.int (0 : Int32)), .val (.ref w_UsageKind_CALL)]) rfl ?_
    show Steps p.tables e below (T101.setTop (mkF m 19 #[.val (.ref s1), .val (.ref o_101), .val (.int (4 : Int32)), .val (.int (0 : Int32)), .val (.ref w_UsageKind_CALL)] [])) _
    refine XS.aload X101.here hx rfl (hb hby d7_19) rfl rfl ?_
    show Steps p.tables e below (T101.setTop (mkF m 21 #[.val (.ref s1), .val (.ref o_101), .val (.int (4 : Int32)), .val (.int (0 : Int32)), .val (.ref w_UsageKind_CALL)] [(.ref w_UsageKind_CALL)])) _
    refine st106 _ ?_
    show Steps p.tables e below (T106.setTop (mkF m 24 #[.val (.ref s1), .val (.ref o_101), .val (.int (4 : Int32)), .val (.int (0 : Int32)), .val (.ref w_UsageKind_CALL)] [(.ref w_UsageKind_CALL_written)])) _
    refine XS.aloadN X106.here hx rfl (hb hby d7_24) rfl rfl ?_
    show Steps p.tables e below (T106.setTop (mkF m 25 #[.val (.ref s1), .val (.ref o_101), .val (.int (4 : Int32)), .val (.int (0 : Int32)), .val (.ref w_UsageKind_CALL)] [(.ref s1), (.ref w_UsageKind_CALL_written)])) _
    refine st117.trans ?_
    show Steps p.tables e below (T117.setTop (mkF m 28 #[.val (.ref s1), .val (.ref o_101), .val (.int (4 : Int32)), .val (.int (0 : Int32)), .val (.ref w_UsageKind_CALL)] [(.int (VM [(99 : Int32), (97 : Int32), (108 : Int32), (108 : Int32)] [(99 : Int32), (97 : Int32), (108 : Int32), (108 : Int32)]))])) _
    refine XS.ifNo X117.here hx rfl (hb hby d7_28) rfl ((if0 _ _).trans (feq ((by decide) : ¬ ((VM [(99 : Int32), (97 : Int32), (108 : Int32), (108 : Int32)] [(99 : Int32), (97 : Int32), (108 : Int32), (108 : Int32)]) = (0 : Int32)))).1) ?_
    show Steps p.tables e below (T117.setTop (mkF m 31 #[.val (.ref s1), .val (.ref o_101), .val (.int (4 : Int32)), .val (.int (0 : Int32)), .val (.ref w_UsageKind_CALL)] [])) _
    refine XS.aload X117.here hx rfl (hb hby d7_31) rfl rfl ?_
    show Steps p.tables e below (T117.setTop (mkF m 33 #[.val (.ref s1), .val (.ref o_101), .val (.int (4 : Int32)), .val (.int (0 : Int32)), .val (.ref w_UsageKind_CALL)] [(.ref w_UsageKind_CALL)])) _
    exact Jvm.RoadKit.retOut X117 hx Bd.returns rfl (Or.inr (Or.inr (Or.inr (Or.inr ⟨rfl, rfl, rfl⟩)))) (hb hby d7_33) hr
  · show Q_rn0 Z s1 t1 k1 n1 vs1 w_UsageKind_SMS w_UsageKind_CALL w_UsageKind_DATA w_UsageKind__VALUES w_UsageKind_LOCAL_DATA w_UsageKind_CALL_written w_UsageKind_CALL_written_value k_w_UsageKind__VALUES k_w_UsageKind_CALL_written_value zc h0 n0 _ T117.heap _
    rw [e117]
    unfold Q_rn0
    exact ⟨rfl, N117, K118⟩
theorem ef_rn1 (m : MethodId) (x0 : Addr) : entryFrame m #[(.ref x0)] 5 = mkF m 0 #[.val (.ref x0), .unset, .unset, .unset, .unset] [] := by first | (simp [entryFrame, mkF, argsToLocals, Value.category]; done) | rfl
def Q_rn1 (Z : State) (s1 : Addr) (t1 : Addr) (k1 : ClassId) (n1 : Int32) (vs1 : List Value) (w_UsageKind_SMS : Addr) (w_UsageKind_CALL : Addr) (w_UsageKind_DATA : Addr) (w_UsageKind__VALUES : Addr) (w_UsageKind_LOCAL_DATA : Addr) (w_UsageKind_SMS_written : Addr) (w_UsageKind_CALL_written : Addr) (w_UsageKind_SMS_written_value : Addr) (w_UsageKind_CALL_written_value : Addr) (k_w_UsageKind__VALUES : ClassId) (k_w_UsageKind_SMS_written_value : ClassId) (k_w_UsageKind_CALL_written_value : ClassId) (zc : Int32) (h0 : Heap) (n0 : Nat) (v : Option Value) (h : Heap) (L : List Loc) : Prop := (v = some (.ref w_UsageKind_SMS)) ∧ (Fr n0 L) ∧ (Keep h0 h [])
theorem d7_34 : decode prog_46_method_4_code 34 = .ok (.iinc 3 1, 3) := by decide +kernel
theorem d7_37 : decode prog_46_method_4_code 37 = .ok (.goto (-28), 3) := by decide +kernel
set_option maxRecDepth 65536 in
set_option maxHeartbeats 40000000 in
theorem rn1 (l : Launch) (Z : State) (a0 : Array Value) (hw : ∀ d ∈ tables_1, d.before a0 Z = true) (ws : List Jvm.Cond) (s1 : Addr) (t1 : Addr) (k1 : ClassId) (n1 : Int32) (vs1 : List Value) (w_UsageKind_SMS : Addr) (w_UsageKind_CALL : Addr) (w_UsageKind_DATA : Addr) (w_UsageKind__VALUES : Addr) (w_UsageKind_LOCAL_DATA : Addr) (w_UsageKind_SMS_written : Addr) (w_UsageKind_CALL_written : Addr) (w_UsageKind_SMS_written_value : Addr) (w_UsageKind_CALL_written_value : Addr) (k_w_UsageKind__VALUES : ClassId) (k_w_UsageKind_SMS_written_value : ClassId) (k_w_UsageKind_CALL_written_value : ClassId) (zc : Int32) (h0 : Heap) (n0 : Nat) (O0 : Old Z n0 h0) (E1 : Exa Z h0 s1 "java/lang/String") (V1 : Fld Z h0 s1 "java/lang/String" "value" "[B" (.ref t1)) (C1 : Fld Z h0 s1 "java/lang/String" "coder" "B" (.int (0 : Int32))) (A1 : Arv Z h0 t1 k1 .byte n1 vs1 (.int 0)) (S1 : OwnStr [(115 : Int32), (109 : Int32), (115 : Int32)] n1 vs1) (E_w_UsageKind_SMS : Exa Z Z.heap w_UsageKind_SMS "com/example/bill_run/billrun/UsageKind") (E_w_UsageKind_CALL : Exa Z Z.heap w_UsageKind_CALL "com/example/bill_run/billrun/UsageKind") (S_UsageKind__VALUES : Sta Z Z.heap "com/example/bill_run/billrun/UsageKind" "$VALUES" "[Lcom/example/bill_run/billrun/UsageKind;" (.ref w_UsageKind__VALUES)) (E_w_UsageKind__VALUES : Exa Z Z.heap w_UsageKind__VALUES "[Lcom/example/bill_run/billrun/UsageKind;") (V_w_UsageKind__VALUES : Arv Z Z.heap w_UsageKind__VALUES k_w_UsageKind__VALUES (.object "com/example/bill_run/billrun/UsageKind") (4 : Int32) [(.ref w_UsageKind_CALL), (.ref w_UsageKind_SMS), (.ref w_UsageKind_DATA), (.ref w_UsageKind_LOCAL_DATA)] .null) (F_w_UsageKind_SMS_written : Fld Z Z.heap w_UsageKind_SMS "com/example/bill_run/billrun/UsageKind" "written" "Ljava/lang/String;" (.ref w_UsageKind_SMS_written)) (E_w_UsageKind_SMS_written : Exa Z Z.heap w_UsageKind_SMS_written "java/lang/String") (F_w_UsageKind_CALL_written : Fld Z Z.heap w_UsageKind_CALL "com/example/bill_run/billrun/UsageKind" "written" "Ljava/lang/String;" (.ref w_UsageKind_CALL_written)) (E_w_UsageKind_CALL_written : Exa Z Z.heap w_UsageKind_CALL_written "java/lang/String") (F_w_UsageKind_SMS_written_value : Fld Z Z.heap w_UsageKind_SMS_written "java/lang/String" "value" "[B" (.ref w_UsageKind_SMS_written_value)) (F_w_UsageKind_CALL_written_value : Fld Z Z.heap w_UsageKind_CALL_written "java/lang/String" "value" "[B" (.ref w_UsageKind_CALL_written_value)) (F_w_UsageKind_CALL_written_coder : Fld Z Z.heap w_UsageKind_CALL_written "java/lang/String" "coder" "B" (.int (0 : Int32))) (F_w_UsageKind_SMS_written_coder : Fld Z Z.heap w_UsageKind_SMS_written "java/lang/String" "coder" "B" (.int (0 : Int32))) (V_w_UsageKind_SMS_written_value : Arv Z Z.heap w_UsageKind_SMS_written_value k_w_UsageKind_SMS_written_value .byte (3 : Int32) [(.int (115 : Int32)), (.int (109 : Int32)), (.int (115 : Int32))] (.int (0 : Int32))) (V_w_UsageKind_CALL_written_value : Arv Z Z.heap w_UsageKind_CALL_written_value k_w_UsageKind_CALL_written_value .byte (4 : Int32) [(.int (99 : Int32)), (.int (97 : Int32)), (.int (108 : Int32)), (.int (108 : Int32))] (.int (0 : Int32))) (SZ : Sta Z Z.heap "java/lang/String" "COMPACT_STRINGS" "Z" (.int zc)) (PZ : ¬ (zc = (0 : Int32))) :
    MetFree l (⟨"com/example/bill_run/billrun/UsageKind", "named", "(Ljava/lang/String;)Lcom/example/bill_run/billrun/UsageKind;"⟩ : MethodName) (head1 (Jvm.Cond.code (⟨"com/example/bill_run/billrun/UsageKind", "named", "(Ljava/lang/String;)Lcom/example/bill_run/billrun/UsageKind;"⟩ : MethodName) prog_46_method_4_code 5 (some (.object "com/example/bill_run/billrun/UsageKind")) :: ws) ({ frames := 2, cells := 1, slots := 4, locals := 28 } : Room)) (fun a U => a = #[(.ref s1)] ∧ Z.Warmed39 U.vm ∧ U.heap = h0) (fun _ _ _ _ _ => True) (fun _ U o U' => ∃ v L, o = .returned v ∧ Q_rn1 Z s1 t1 k1 n1 vs1 w_UsageKind_SMS w_UsageKind_CALL w_UsageKind_DATA w_UsageKind__VALUES w_UsageKind_LOCAL_DATA w_UsageKind_SMS_written w_UsageKind_CALL_written w_UsageKind_SMS_written_value w_UsageKind_CALL_written_value k_w_UsageKind__VALUES k_w_UsageKind_SMS_written_value k_w_UsageKind_CALL_written_value zc h0 n0 v U'.heap L ∧ FrameEnd U o U' L ({ frames := 2, cells := 1, slots := 4, locals := 28 } : Room).cells ({ frames := 2, cells := 1, slots := 4, locals := 28 } : Room).slots) := by
  refine MetFree.of_bodySF (plainFor_of_name pn_0) hisR ?_
  intro p e s m args below meth c s₁ Bd hml0 hP hK
  obtain ⟨rfl, hZ, hh⟩ := hP
  have hx := Bd.exec
  have hby := Bd.bytes
  have hml : c.maxLocals = 5 := hml0
  have hown : s.vm.findClass "com/example/bill_run/billrun/UsageKind" = some m.cls := findClass_of_methodNamed Bd.named
  have hnm := (name_of_methodNamed Bd.named Bd.method).1
  have X0 : Stand p l e ({ frames := 2, cells := 1, slots := 4, locals := 28 } : Room) s m #[(.ref s1)] below meth c s₁ [] 0 0 := Stand.of_body Bd
  have e0 : s₁.heap = h0 := by rw [← hh, Bd.state]; rfl
  have N0 := Fr.nil n0
  have Z0 : n0 ≤ h0.size := old_le O0
  have pre0 : ∀ t, Steps p.tables e below (s₁.setTop (mkF m 0 #[.val (.ref s1), .unset, .unset, .unset, .unset] [])) t → Steps p.tables e below (s₁.setTop (entryFrame m #[(.ref s1)] 5)) t := fun t k => castTop (ef_rn1 m s1) k
  obtain ⟨_, _, ⟨T101, L101, k101, n101⟩, -, X101, ⟨Lc101, hQ101, l101, y101, z101⟩, st101⟩ := Jvm.LawKit.callS X0 hx (y := (⟨"com/example/bill_run/billrun/UsageKind", "values", "()[Lcom/example/bill_run/billrun/UsageKind;"⟩ : MethodName)) hown (mvT hZ (hwk hw 39 rfl)) (mvT hZ (hwk hw 40 rfl)) (mvT hZ (hwk hw 1 rfl)) (mvT hZ (hwk hw 41 rfl)) (by decide) (backOf (W := 0) (rm8 l Z a0 hw [] w_UsageKind_SMS w_UsageKind_CALL w_UsageKind_DATA w_UsageKind__VALUES w_UsageKind_LOCAL_DATA k_w_UsageKind__VALUES h0 n0 O0 S_UsageKind__VALUES E_w_UsageKind__VALUES V_w_UsageKind__VALUES) hZ (hwk hw 41 rfl) (hwk hw 1 rfl) (by decide) (by decide)) (g := (mkF m 0 #[.val (.ref s1), .unset, .unset, .unset, .unset] [])) rfl (by rw [hml]; rfl) (argsL := []) (rest := []) (lenOf pd_0 rfl) rfl (by show 2 * 0 + _ ≤ _; exact Nat.le_of_eq rfl) (hb hby d7_0) (fun _ _ => ⟨rfl, e0, (by decide : 0 + 1 ≤ _), (by decide : 0 + 4 ≤ _)⟩)
  dsimp only [Pt.U, Pt.locs, Pt.cells, Pt.slots] at X101 l101 y101 z101 st101 hQ101
  subst l101 y101 z101
  unfold Q_rm8 at hQ101
  obtain ⟨o_101, rfl, N101q, K101, ge_o_101, f101_0⟩ := hQ101
  have N101 := Fr.app N0 N101q
  have g_o_101 : n0 ≤ o_101 := Nat.le_trans (old_le O0) ge_o_101
  obtain ⟨cl102, Ar102, -, Sz102, Nn102, -, -⟩ := id f101_0
  obtain ⟨clq103, Arq103, kqq103, Szq103, Nnq103, Hsq103, Gsq103⟩ := id f101_0
  have hinq103 : ¬ ((0 : Int32) < 0 ∨ clq103.slots.size ≤ ((0 : Int32)).toNatClampNeg) := inb_of Szq103 ⟨by decide, by decide⟩
  have O105 : Old Z n0 T101.heap := Old.keep O0 K101 all0
  have c104 : Fld Z T101.heap w_UsageKind_CALL "com/example/bill_run/billrun/UsageKind" "written" "Ljava/lang/String;" (.ref w_UsageKind_CALL_written) := Fld.ext (O105).2 F_w_UsageKind_CALL_written
  obtain ⟨T106, X106, e106, st106⟩ := getF X101 hx hZ hown (host := "") (Or.inl (hwk hw 57 rfl)) Via.refl (rfl : T101.heap = T101.heap) c104 (g := (mkF m 21 #[.val (.ref s1), .val (.ref o_101), .val (.int (4 : Int32)), .val (.int (0 : Int32)), .val (.ref w_UsageKind_CALL)] [(.ref w_UsageKind_CALL)])) rfl rfl (hb hby d7_21)
  have hws107 : ∀ d ∈ StrChars.Road.wordsEq, d.before a0 Z = true := fun d hd => hw d ((by decide +kernel : ∀ d ∈ StrChars.Road.wordsEq, d ∈ tables_1) d hd)
  have c108 : Exa Z T101.heap w_UsageKind_CALL_written "java/lang/String" := Exa.ext (O105).2 E_w_UsageKind_CALL_written
  have c109 : Fld Z T101.heap w_UsageKind_CALL_written "java/lang/String" "value" "[B" (.ref w_UsageKind_CALL_written_value) := Fld.ext (O105).2 F_w_UsageKind_CALL_written_value
  have c110 : Fld Z T101.heap w_UsageKind_CALL_written "java/lang/String" "coder" "B" (.int (0 : Int32)) := Fld.ext (O105).2 F_w_UsageKind_CALL_written_coder
  have c111 : Arv Z T101.heap w_UsageKind_CALL_written_value k_w_UsageKind_CALL_written_value .byte (4 : Int32) [(.int (99 : Int32)), (.int (97 : Int32)), (.int (108 : Int32)), (.int (108 : Int32))] (.int (0 : Int32)) := V_w_UsageKind_CALL_written_value.ext O105.2
  have c112 : Exa Z T101.heap s1 "java/lang/String" := (Exa.keep E1 K101)
  have c113 : Fld Z T101.heap s1 "java/lang/String" "value" "[B" (.ref t1) := (Fld.keep V1 K101 nin0)
  have c114 : Fld Z T101.heap s1 "java/lang/String" "coder" "B" (.int (0 : Int32)) := (Fld.keep C1 K101 nin0)
  have c115 : Arv Z T101.heap t1 k1 .byte n1 vs1 (.int 0) := (Arv.keep A1 K101 nin0)
  have c116 : Sta Z T101.heap "java/lang/String" "COMPACT_STRINGS" "Z" (.int zc) := Sta.ext (O105).2 SZ
  obtain ⟨cq117, kq117, q117a, q117b, q117c⟩ := isOf hZ e106 c108
  obtain ⟨_, _, ⟨T117, L117, k117, n117⟩, -, X117, ⟨Lc117, hQ117, l117, y117, z117⟩, st117⟩ := X106.virtualBack hx (y := (⟨"java/lang/String", "equals", "(Ljava/lang/Object;)Z"⟩ : MethodName)) (z := (⟨"java/lang/String", "equals", "(Ljava/lang/Object;)Z"⟩ : MethodName)) hown (mvT hZ (hwk hw 59 rfl)) (mvT hZ (hwk hw 60 rfl)) (notFace_of_selects (args := #[]) (mvT hZ (hwk hw 62 rfl))) (mvT hZ (hwk hw 62 rfl)) (mvT hZ (hwk hw 61 rfl)) (by decide) (StrChars.Road.eqW (W := 0) hZ hws107 (kI := 4) (hwk hw 5 rfl) c108 c109 c110 c111 own_os0.1 own_os0.2.1 own_os0.2.2 c112 c113 c114 c115 S1.1 S1.2.1 S1.2.2 c116 PZ (by decide) (by decide)) q117a q117c (g := (mkF m 25 #[.val (.ref s1), .val (.ref o_101), .val (.int (4 : Int32)), .val (.int (0 : Int32)), .val (.ref w_UsageKind_CALL)] [(.ref s1), (.ref w_UsageKind_CALL_written)])) rfl (by rw [hml]; rfl) (Steps.refl _) (argsL := [(.ref s1)]) (rest := []) (lenOf pd_1 rfl) rfl (by show 2 * 0 + _ ≤ _; exact Nat.le_of_eq rfl) (hb hby d7_25) (fun _ _ => ⟨rfl, e106, (by decide : 1 + 0 ≤ _), (by decide : 4 + 0 ≤ _)⟩)
  dsimp only [Pt.U, Pt.locs, Pt.cells, Pt.slots] at X117 l117 y117 z117 st117 hQ117
  subst l117 y117 z117
  obtain ⟨hv117, hl117, e117⟩ := hQ117
  cases own_vm hv117
  have N117 := Fr.app N101 (own_frnil hl117)
  obtain ⟨clq118, Arq118, kqq118, Szq118, Nnq118, Hsq118, Gsq118⟩ := id f101_0
  have hinq118 : ¬ ((1 : Int32) < 0 ∨ clq118.slots.size ≤ ((1 : Int32)).toNatClampNeg) := inb_of Szq118 ⟨by decide, by decide⟩
  have c119 : Fld Z T101.heap w_UsageKind_SMS "com/example/bill_run/billrun/UsageKind" "written" "Ljava/lang/String;" (.ref w_UsageKind_SMS_written) := Fld.ext (O105).2 F_w_UsageKind_SMS_written
  obtain ⟨T120, X120, e120, st120⟩ := getF X117 hx hZ hown (host := "") (Or.inl (hwk hw 57 rfl)) Via.refl e117 c119 (g := (mkF m 21 #[.val (.ref s1), .val (.ref o_101), .val (.int (4 : Int32)), .val (.int (1 : Int32)), .val (.ref w_UsageKind_SMS)] [(.ref w_UsageKind_SMS)])) rfl rfl (hb hby d7_21)
  have hws121 : ∀ d ∈ StrChars.Road.wordsEq, d.before a0 Z = true := fun d hd => hw d ((by decide +kernel : ∀ d ∈ StrChars.Road.wordsEq, d ∈ tables_1) d hd)
  have c122 : Exa Z T101.heap w_UsageKind_SMS_written "java/lang/String" := Exa.ext (O105).2 E_w_UsageKind_SMS_written
  have c123 : Fld Z T101.heap w_UsageKind_SMS_written "java/lang/String" "value" "[B" (.ref w_UsageKind_SMS_written_value) := Fld.ext (O105).2 F_w_UsageKind_SMS_written_value
  have c124 : Fld Z T101.heap w_UsageKind_SMS_written "java/lang/String" "coder" "B" (.int (0 : Int32)) := Fld.ext (O105).2 F_w_UsageKind_SMS_written_coder
  have c125 : Arv Z T101.heap w_UsageKind_SMS_written_value k_w_UsageKind_SMS_written_value .byte (3 : Int32) [(.int (115 : Int32)), (.int (109 : Int32)), (.int (115 : Int32))] (.int (0 : Int32)) := V_w_UsageKind_SMS_written_value.ext O105.2
  obtain ⟨cq126, kq126, q126a, q126b, q126c⟩ := isOf hZ e120 c122
  obtain ⟨_, _, ⟨T126, L126, k126, n126⟩, -, X126, ⟨Lc126, hQ126, l126, y126, z126⟩, st126⟩ := X120.virtualBack hx (y := (⟨"java/lang/String", "equals", "(Ljava/lang/Object;)Z"⟩ : MethodName)) (z := (⟨"java/lang/String", "equals", "(Ljava/lang/Object;)Z"⟩ : MethodName)) hown (mvT hZ (hwk hw 59 rfl)) (mvT hZ (hwk hw 60 rfl)) (notFace_of_selects (args := #[]) (mvT hZ (hwk hw 62 rfl))) (mvT hZ (hwk hw 62 rfl)) (mvT hZ (hwk hw 61 rfl)) (by decide) (StrChars.Road.eqW (W := 0) hZ hws121 (kI := 4) (hwk hw 5 rfl) c122 c123 c124 c125 own_os1.1 own_os1.2.1 own_os1.2.2 c112 c113 c114 c115 S1.1 S1.2.1 S1.2.2 c116 PZ (by decide) (by decide)) q126a q126c (g := (mkF m 25 #[.val (.ref s1), .val (.ref o_101), .val (.int (4 : Int32)), .val (.int (1 : Int32)), .val (.ref w_UsageKind_SMS)] [(.ref s1), (.ref w_UsageKind_SMS_written)])) rfl (by rw [hml]; rfl) (Steps.refl _) (argsL := [(.ref s1)]) (rest := []) (lenOf pd_1 rfl) rfl (by show 2 * 0 + _ ≤ _; exact Nat.le_of_eq rfl) (hb hby d7_25) (fun _ _ => ⟨rfl, e120, (by decide : 1 + 0 ≤ _), (by decide : 4 + 0 ≤ _)⟩)
  dsimp only [Pt.U, Pt.locs, Pt.cells, Pt.slots] at X126 l126 y126 z126 st126 hQ126
  subst l126 y126 z126
  obtain ⟨hv126, hl126, e126⟩ := hQ126
  cases own_vm hv126
  have N126 := Fr.app N117 (own_frnil hl126)
  have K127 : Keep h0 T101.heap [] := Keep.trans (Keep.refl h0 []) K101 all0
  obtain ⟨fs, hr, hrun, hended, hW, hsame⟩ := X126.leave (v := some (.ref w_UsageKind_SMS)) (fun h => by rw [Bd.returns] at h; cases h)
  refine ⟨_, _, pre0 _ ?_, hrun, hended, _, _, rfl, ?_, ⟨_, rfl⟩, hW, hsame.mono (by decide) (by decide)⟩
  · show Steps p.tables e below (s₁.setTop (mkF m 0 #[.val (.ref s1), .unset, .unset, .unset, .unset] [])) _
    refine st101 _ ?_
    show Steps p.tables e below (T101.setTop (mkF m 3 #[.val (.ref s1), .unset, .unset, .unset, .unset] [(.ref o_101)])) _
    refine XS.astoreN X101.here hx rfl (hb hby d7_3) rfl rfl (l' := #[.val (.ref s1), .val (.ref o_101), .unset, .unset, .unset]) rfl ?_
    show Steps p.tables e below (T101.setTop (mkF m 4 #[.val (.ref s1), .val (.ref o_101), .unset, .unset, .unset] [])) _
    refine XS.aloadN X101.here hx rfl (hb hby d7_4) rfl rfl ?_
    show Steps p.tables e below (T101.setTop (mkF m 5 #[.val (.ref s1), .val (.ref o_101), .unset, .unset, .unset] [(.ref o_101)])) _
    refine X101.arraylength hx (by rw [(rfl : T101.heap = T101.heap)]; exact Ar102.1) (State.isArrayOf_alike hZ.alike Ar102.2.1) (g := (mkF m 5 #[.val (.ref s1), .val (.ref o_101), .unset, .unset, .unset] [(.ref o_101)])) rfl rfl (hb hby d7_5) _ ?_
    rw [len_of Sz102 Nn102]
    show Steps p.tables e below (T101.setTop (mkF m 6 #[.val (.ref s1), .val (.ref o_101), .unset, .unset, .unset] [(.int (4 : Int32))])) _
    refine XS.istoreN X101.here hx rfl (hb hby d7_6) rfl (l' := #[.val (.ref s1), .val (.ref o_101), .val (.int (4 : Int32)), .unset, .unset]) rfl ?_
    show Steps p.tables e below (T101.setTop (mkF m 7 #[.val (.ref s1), .val (.ref o_101), .val (.int (4 : Int32)), .unset, .unset] [])) _
    refine XS.iconst X101.here hx rfl (hb hby d7_7) ?_
    show Steps p.tables e below (T101.setTop (mkF m 8 #[.val (.ref s1), .val (.ref o_101), .val (.int (4 : Int32)), .unset, .unset] [(.int (0 : Int32))])) _
    refine XS.istoreN X101.here hx rfl (hb hby d7_8) rfl (l' := #[.val (.ref s1), .val (.ref o_101), .val (.int (4 : Int32)), .val (.int (0 : Int32)), .unset]) rfl ?_
    show Steps p.tables e below (T101.setTop (mkF m 9 #[.val (.ref s1), .val (.ref o_101), .val (.int (4 : Int32)), .val (.int (0 : Int32)), .unset] [])) _
    refine XS.iloadN X101.here hx rfl (hb hby d7_9) rfl ?_
    show Steps p.tables e below (T101.setTop (mkF m 10 #[.val (.ref s1), .val (.ref o_101), .val (.int (4 : Int32)), .val (.int (0 : Int32)), .unset] [(.int (0 : Int32))])) _
    refine XS.iloadN X101.here hx rfl (hb hby d7_10) rfl ?_
    show Steps p.tables e below (T101.setTop (mkF m 11 #[.val (.ref s1), .val (.ref o_101), .val (.int (4 : Int32)), .val (.int (0 : Int32)), .unset] [(.int (4 : Int32)), (.int (0 : Int32))])) _
    refine XS.icmpNo X101.here hx rfl (hb hby d7_11) rfl (tlt (by decide : (0 : Int32) < (4 : Int32))).2.1 ?_
    show Steps p.tables e below (T101.setTop (mkF m 14 #[.val (.ref s1), .val (.ref o_101), .val (.int (4 : Int32)), .val (.int (0 : Int32)), .unset] [])) _
    refine XS.aloadN X101.here hx rfl (hb hby d7_14) rfl rfl ?_
    show Steps p.tables e below (T101.setTop (mkF m 15 #[.val (.ref s1), .val (.ref o_101), .val (.int (4 : Int32)), .val (.int (0 : Int32)), .unset] [(.ref o_101)])) _
    refine XS.iloadN X101.here hx rfl (hb hby d7_15) rfl ?_
    show Steps p.tables e below (T101.setTop (mkF m 16 #[.val (.ref s1), .val (.ref o_101), .val (.int (4 : Int32)), .val (.int (0 : Int32)), .unset] [(.int (0 : Int32)), (.ref o_101)])) _
    refine X101.aaload hx (j := (0 : Int32)) (v := (.ref w_UsageKind_CALL)) (by rw [(rfl : T101.heap = T101.heap)]; exact Arq103.1) (State.isArrayOf_alike hZ.alike Arq103.2.1) rfl Arq103.2.2 hinq103 (Has.at Hsq103 hinq103 rfl) (g := (mkF m 16 #[.val (.ref s1), .val (.ref o_101), .val (.int (4 : Int32)), .val (.int (0 : Int32)), .unset] [(.int (0 : Int32)), (.ref o_101)])) rfl rfl (hb hby d7_16) _ ?_
    show Steps p.tables e below (T101.setTop (mkF m 17 #[.val (.ref s1), .val (.ref o_101), .val (.int (4 : Int32)), .val (.int (0 : Int32)), .unset] [(.ref w_UsageKind_CALL)])) _
    refine XS.astore X101.here hx rfl (hb hby d7_17) rfl rfl (l' := #[.val (.ref s1), .val (.ref o_101), .val (.int (4 : Int32)), .val (.int (0 : Int32)), .val (.ref w_UsageKind_CALL)]) rfl ?_
    show Steps p.tables e below (T101.setTop (mkF m 19 #[.val (.ref s1), .val (.ref o_101), .val (.int (4 : Int32)), .val (.int (0 : Int32)), .val (.ref w_UsageKind_CALL)] [])) _
    refine XS.aload X101.here hx rfl (hb hby d7_19) rfl rfl ?_
    show Steps p.tables e below (T101.setTop (mkF m 21 #[.val (.ref s1), .val (.ref o_101), .val (.int (4 : Int32)), .val (.int (0 : Int32)), .val (.ref w_UsageKind_CALL)] [(.ref w_UsageKind_CALL)])) _
    refine st106 _ ?_
    show Steps p.tables e below (T106.setTop (mkF m 24 #[.val (.ref s1), .val (.ref o_101), .val (.int (4 : Int32)), .val (.int (0 : Int32)), .val (.ref w_UsageKind_CALL)] [(.ref w_UsageKind_CALL_written)])) _
    refine XS.aloadN X106.here hx rfl (hb hby d7_24) rfl rfl ?_
    show Steps p.tables e below (T106.setTop (mkF m 25 #[.val (.ref s1), .val (.ref o_101), .val (.int (4 : Int32)), .val (.int (0 : Int32)), .val (.ref w_UsageKind_CALL)] [(.ref s1), (.ref w_UsageKind_CALL_written)])) _
    refine st117.trans ?_
    show Steps p.tables e below (T117.setTop (mkF m 28 #[.val (.ref s1), .val (.ref o_101), .val (.int (4 : Int32)), .val (.int (0 : Int32)), .val (.ref w_UsageKind_CALL)] [(.int (VM [(99 : Int32), (97 : Int32), (108 : Int32), (108 : Int32)] [(115 : Int32), (109 : Int32), (115 : Int32)]))])) _
    refine XS.ifYes X117.here hx rfl (pc0 := 28) (pc' := 34) rfl (hb hby d7_28) rfl ((if0 _ _).trans (teq ((by decide) : (VM [(99 : Int32), (97 : Int32), (108 : Int32), (108 : Int32)] [(115 : Int32), (109 : Int32), (115 : Int32)]) = (0 : Int32))).1) (by decide) (by decide) ?_
    show Steps p.tables e below (T117.setTop (mkF m 34 #[.val (.ref s1), .val (.ref o_101), .val (.int (4 : Int32)), .val (.int (0 : Int32)), .val (.ref w_UsageKind_CALL)] [])) _
    refine XS.iinc X117.here hx rfl (hb hby d7_34) rfl (l' := #[.val (.ref s1), .val (.ref o_101), .val (.int (4 : Int32)), .val (.int ((0 : Int32) + (1 : Int32))), .val (.ref w_UsageKind_CALL)]) rfl ?_
    show Steps p.tables e below (T117.setTop (mkF m 37 #[.val (.ref s1), .val (.ref o_101), .val (.int (4 : Int32)), .val (.int ((0 : Int32) + (1 : Int32))), .val (.ref w_UsageKind_CALL)] [])) _
    rw [show ((0 : Int32) + (1 : Int32)) = (1 : Int32) from by decide]
    show Steps p.tables e below (T117.setTop (mkF m 37 #[.val (.ref s1), .val (.ref o_101), .val (.int (4 : Int32)), .val (.int (1 : Int32)), .val (.ref w_UsageKind_CALL)] [])) _
    refine XS.goto X117.here hx rfl (pc0 := 37) (pc' := 9) rfl (hb hby d7_37) (by decide) (by decide) ?_
    show Steps p.tables e below (T117.setTop (mkF m 9 #[.val (.ref s1), .val (.ref o_101), .val (.int (4 : Int32)), .val (.int (1 : Int32)), .val (.ref w_UsageKind_CALL)] [])) _
    refine XS.iloadN X117.here hx rfl (hb hby d7_9) rfl ?_
    show Steps p.tables e below (T117.setTop (mkF m 10 #[.val (.ref s1), .val (.ref o_101), .val (.int (4 : Int32)), .val (.int (1 : Int32)), .val (.ref w_UsageKind_CALL)] [(.int (1 : Int32))])) _
    refine XS.iloadN X117.here hx rfl (hb hby d7_10) rfl ?_
    show Steps p.tables e below (T117.setTop (mkF m 11 #[.val (.ref s1), .val (.ref o_101), .val (.int (4 : Int32)), .val (.int (1 : Int32)), .val (.ref w_UsageKind_CALL)] [(.int (4 : Int32)), (.int (1 : Int32))])) _
    refine XS.icmpNo X117.here hx rfl (hb hby d7_11) rfl (tlt (by decide : (1 : Int32) < (4 : Int32))).2.1 ?_
    show Steps p.tables e below (T117.setTop (mkF m 14 #[.val (.ref s1), .val (.ref o_101), .val (.int (4 : Int32)), .val (.int (1 : Int32)), .val (.ref w_UsageKind_CALL)] [])) _
    refine XS.aloadN X117.here hx rfl (hb hby d7_14) rfl rfl ?_
    show Steps p.tables e below (T117.setTop (mkF m 15 #[.val (.ref s1), .val (.ref o_101), .val (.int (4 : Int32)), .val (.int (1 : Int32)), .val (.ref w_UsageKind_CALL)] [(.ref o_101)])) _
    refine XS.iloadN X117.here hx rfl (hb hby d7_15) rfl ?_
    show Steps p.tables e below (T117.setTop (mkF m 16 #[.val (.ref s1), .val (.ref o_101), .val (.int (4 : Int32)), .val (.int (1 : Int32)), .val (.ref w_UsageKind_CALL)] [(.int (1 : Int32)), (.ref o_101)])) _
    refine X117.aaload hx (j := (1 : Int32)) (v := (.ref w_UsageKind_SMS)) (by rw [e117]; exact Arq118.1) (State.isArrayOf_alike hZ.alike Arq118.2.1) rfl Arq118.2.2 hinq118 (Has.at Hsq118 hinq118 rfl) (g := (mkF m 16 #[.val (.ref s1), .val (.ref o_101), .val (.int (4 : Int32)), .val (.int (1 : Int32)), .val (.ref w_UsageKind_CALL)] [(.int (1 : Int32)), (.ref o_101)])) rfl rfl (hb hby d7_16) _ ?_
    show Steps p.tables e below (T117.setTop (mkF m 17 #[.val (.ref s1), .val (.ref o_101), .val (.int (4 : Int32)), .val (.int (1 : Int32)), .val (.ref w_UsageKind_CALL)] [(.ref w_UsageKind_SMS)])) _
    refine XS.astore X117.here hx rfl (hb hby d7_17) rfl rfl (l' := #[.val (.ref s1), .val (.ref o_101), .val (.int (4 : Int32)), .val (.int (1 : Int32)), .val (.ref w_UsageKind_SMS)]) rfl ?_
    show Steps p.tables e below (T117.setTop (mkF m 19 #[.val (.ref s1), .val (.ref o_101), .val (.int (4 : Int32)), .val (.int (1 : Int32)), .val (.ref w_UsageKind_SMS)] [])) _
    refine XS.aload X117.here hx rfl (hb hby d7_19) rfl rfl ?_
    show Steps p.tables e below (T117.setTop (mkF m 21 #[.val (.ref s1), .val (.ref o_101), .val (.int (4 : Int32)), .val (.int (1 : Int32)), .val (.ref w_UsageKind_SMS)] [(.ref w_UsageKind_SMS)])) _
    refine st120 _ ?_
    show Steps p.tables e below (T120.setTop (mkF m 24 #[.val (.ref s1), .val (.ref o_101), .val (.int (4 : Int32)), .val (.int (1 : Int32)), .val (.ref w_UsageKind_SMS)] [(.ref w_UsageKind_SMS_written)])) _
    refine XS.aloadN X120.here hx rfl (hb hby d7_24) rfl rfl ?_
    show Steps p.tables e below (T120.setTop (mkF m 25 #[.val (.ref s1), .val (.ref o_101), .val (.int (4 : Int32)), .val (.int (1 : Int32)), .val (.ref w_UsageKind_SMS)] [(.ref s1), (.ref w_UsageKind_SMS_written)])) _
    refine st126.trans ?_
    show Steps p.tables e below (T126.setTop (mkF m 28 #[.val (.ref s1), .val (.ref o_101), .val (.int (4 : Int32)), .val (.int (1 : Int32)), .val (.ref w_UsageKind_SMS)] [(.int (VM [(115 : Int32), (109 : Int32), (115 : Int32)] [(115 : Int32), (109 : Int32), (115 : Int32)]))])) _
    refine XS.ifNo X126.here hx rfl (hb hby d7_28) rfl ((if0 _ _).trans (feq ((by decide) : ¬ ((VM [(115 : Int32), (109 : Int32), (115 : Int32)] [(115 : Int32), (109 : Int32), (115 : Int32)]) = (0 : Int32)))).1) ?_
    show Steps p.tables e below (T126.setTop (mkF m 31 #[.val (.ref s1), .val (.ref o_101), .val (.int (4 : Int32)), .val (.int (1 : Int32)), .val (.ref w_UsageKind_SMS)] [])) _
    refine XS.aload X126.here hx rfl (hb hby d7_31) rfl rfl ?_
    show Steps p.tables e below (T126.setTop (mkF m 33 #[.val (.ref s1), .val (.ref o_101), .val (.int (4 : Int32)), .val (.int (1 : Int32)), .val (.ref w_UsageKind_SMS)] [(.ref w_UsageKind_SMS)])) _
    exact Jvm.RoadKit.retOut X126 hx Bd.returns rfl (Or.inr (Or.inr (Or.inr (Or.inr ⟨rfl, rfl, rfl⟩)))) (hb hby d7_33) hr
  · show Q_rn1 Z s1 t1 k1 n1 vs1 w_UsageKind_SMS w_UsageKind_CALL w_UsageKind_DATA w_UsageKind__VALUES w_UsageKind_LOCAL_DATA w_UsageKind_SMS_written w_UsageKind_CALL_written w_UsageKind_SMS_written_value w_UsageKind_CALL_written_value k_w_UsageKind__VALUES k_w_UsageKind_SMS_written_value k_w_UsageKind_CALL_written_value zc h0 n0 _ T126.heap _
    rw [e126]
    unfold Q_rn1
    exact ⟨rfl, N126, K127⟩
theorem ef_rn2 (m : MethodId) (x0 : Addr) : entryFrame m #[(.ref x0)] 5 = mkF m 0 #[.val (.ref x0), .unset, .unset, .unset, .unset] [] := by first | (simp [entryFrame, mkF, argsToLocals, Value.category]; done) | rfl
def Q_rn2 (Z : State) (s1 : Addr) (t1 : Addr) (k1 : ClassId) (n1 : Int32) (vs1 : List Value) (w_UsageKind_SMS : Addr) (w_UsageKind_CALL : Addr) (w_UsageKind_DATA : Addr) (w_UsageKind__VALUES : Addr) (w_UsageKind_LOCAL_DATA : Addr) (w_UsageKind_SMS_written : Addr) (w_UsageKind_CALL_written : Addr) (w_UsageKind_DATA_written : Addr) (w_UsageKind_SMS_written_value : Addr) (w_UsageKind_CALL_written_value : Addr) (w_UsageKind_DATA_written_value : Addr) (k_w_UsageKind__VALUES : ClassId) (k_w_UsageKind_SMS_written_value : ClassId) (k_w_UsageKind_CALL_written_value : ClassId) (k_w_UsageKind_DATA_written_value : ClassId) (zc : Int32) (h0 : Heap) (n0 : Nat) (v : Option Value) (h : Heap) (L : List Loc) : Prop := (v = some (.ref w_UsageKind_DATA)) ∧ (Fr n0 L) ∧ (Keep h0 h [])
set_option maxRecDepth 65536 in
set_option maxHeartbeats 40000000 in
theorem rn2 (l : Launch) (Z : State) (a0 : Array Value) (hw : ∀ d ∈ tables_1, d.before a0 Z = true) (ws : List Jvm.Cond) (s1 : Addr) (t1 : Addr) (k1 : ClassId) (n1 : Int32) (vs1 : List Value) (w_UsageKind_SMS : Addr) (w_UsageKind_CALL : Addr) (w_UsageKind_DATA : Addr) (w_UsageKind__VALUES : Addr) (w_UsageKind_LOCAL_DATA : Addr) (w_UsageKind_SMS_written : Addr) (w_UsageKind_CALL_written : Addr) (w_UsageKind_DATA_written : Addr) (w_UsageKind_SMS_written_value : Addr) (w_UsageKind_CALL_written_value : Addr) (w_UsageKind_DATA_written_value : Addr) (k_w_UsageKind__VALUES : ClassId) (k_w_UsageKind_SMS_written_value : ClassId) (k_w_UsageKind_CALL_written_value : ClassId) (k_w_UsageKind_DATA_written_value : ClassId) (zc : Int32) (h0 : Heap) (n0 : Nat) (O0 : Old Z n0 h0) (E1 : Exa Z h0 s1 "java/lang/String") (V1 : Fld Z h0 s1 "java/lang/String" "value" "[B" (.ref t1)) (C1 : Fld Z h0 s1 "java/lang/String" "coder" "B" (.int (0 : Int32))) (A1 : Arv Z h0 t1 k1 .byte n1 vs1 (.int 0)) (S1 : OwnStr [(100 : Int32), (97 : Int32), (116 : Int32), (97 : Int32)] n1 vs1) (E_w_UsageKind_SMS : Exa Z Z.heap w_UsageKind_SMS "com/example/bill_run/billrun/UsageKind") (E_w_UsageKind_CALL : Exa Z Z.heap w_UsageKind_CALL "com/example/bill_run/billrun/UsageKind") (E_w_UsageKind_DATA : Exa Z Z.heap w_UsageKind_DATA "com/example/bill_run/billrun/UsageKind") (S_UsageKind__VALUES : Sta Z Z.heap "com/example/bill_run/billrun/UsageKind" "$VALUES" "[Lcom/example/bill_run/billrun/UsageKind;" (.ref w_UsageKind__VALUES)) (E_w_UsageKind__VALUES : Exa Z Z.heap w_UsageKind__VALUES "[Lcom/example/bill_run/billrun/UsageKind;") (V_w_UsageKind__VALUES : Arv Z Z.heap w_UsageKind__VALUES k_w_UsageKind__VALUES (.object "com/example/bill_run/billrun/UsageKind") (4 : Int32) [(.ref w_UsageKind_CALL), (.ref w_UsageKind_SMS), (.ref w_UsageKind_DATA), (.ref w_UsageKind_LOCAL_DATA)] .null) (F_w_UsageKind_SMS_written : Fld Z Z.heap w_UsageKind_SMS "com/example/bill_run/billrun/UsageKind" "written" "Ljava/lang/String;" (.ref w_UsageKind_SMS_written)) (E_w_UsageKind_SMS_written : Exa Z Z.heap w_UsageKind_SMS_written "java/lang/String") (F_w_UsageKind_CALL_written : Fld Z Z.heap w_UsageKind_CALL "com/example/bill_run/billrun/UsageKind" "written" "Ljava/lang/String;" (.ref w_UsageKind_CALL_written)) (E_w_UsageKind_CALL_written : Exa Z Z.heap w_UsageKind_CALL_written "java/lang/String") (F_w_UsageKind_DATA_written : Fld Z Z.heap w_UsageKind_DATA "com/example/bill_run/billrun/UsageKind" "written" "Ljava/lang/String;" (.ref w_UsageKind_DATA_written)) (E_w_UsageKind_DATA_written : Exa Z Z.heap w_UsageKind_DATA_written "java/lang/String") (F_w_UsageKind_SMS_written_value : Fld Z Z.heap w_UsageKind_SMS_written "java/lang/String" "value" "[B" (.ref w_UsageKind_SMS_written_value)) (F_w_UsageKind_CALL_written_value : Fld Z Z.heap w_UsageKind_CALL_written "java/lang/String" "value" "[B" (.ref w_UsageKind_CALL_written_value)) (F_w_UsageKind_DATA_written_value : Fld Z Z.heap w_UsageKind_DATA_written "java/lang/String" "value" "[B" (.ref w_UsageKind_DATA_written_value)) (F_w_UsageKind_CALL_written_coder : Fld Z Z.heap w_UsageKind_CALL_written "java/lang/String" "coder" "B" (.int (0 : Int32))) (F_w_UsageKind_SMS_written_coder : Fld Z Z.heap w_UsageKind_SMS_written "java/lang/String" "coder" "B" (.int (0 : Int32))) (F_w_UsageKind_DATA_written_coder : Fld Z Z.heap w_UsageKind_DATA_written "java/lang/String" "coder" "B" (.int (0 : Int32))) (V_w_UsageKind_SMS_written_value : Arv Z Z.heap w_UsageKind_SMS_written_value k_w_UsageKind_SMS_written_value .byte (3 : Int32) [(.int (115 : Int32)), (.int (109 : Int32)), (.int (115 : Int32))] (.int (0 : Int32))) (V_w_UsageKind_CALL_written_value : Arv Z Z.heap w_UsageKind_CALL_written_value k_w_UsageKind_CALL_written_value .byte (4 : Int32) [(.int (99 : Int32)), (.int (97 : Int32)), (.int (108 : Int32)), (.int (108 : Int32))] (.int (0 : Int32))) (V_w_UsageKind_DATA_written_value : Arv Z Z.heap w_UsageKind_DATA_written_value k_w_UsageKind_DATA_written_value .byte (4 : Int32) [(.int (100 : Int32)), (.int (97 : Int32)), (.int (116 : Int32)), (.int (97 : Int32))] (.int (0 : Int32))) (SZ : Sta Z Z.heap "java/lang/String" "COMPACT_STRINGS" "Z" (.int zc)) (PZ : ¬ (zc = (0 : Int32))) :
    MetFree l (⟨"com/example/bill_run/billrun/UsageKind", "named", "(Ljava/lang/String;)Lcom/example/bill_run/billrun/UsageKind;"⟩ : MethodName) (head1 (Jvm.Cond.code (⟨"com/example/bill_run/billrun/UsageKind", "named", "(Ljava/lang/String;)Lcom/example/bill_run/billrun/UsageKind;"⟩ : MethodName) prog_46_method_4_code 5 (some (.object "com/example/bill_run/billrun/UsageKind")) :: ws) ({ frames := 2, cells := 1, slots := 4, locals := 28 } : Room)) (fun a U => a = #[(.ref s1)] ∧ Z.Warmed39 U.vm ∧ U.heap = h0) (fun _ _ _ _ _ => True) (fun _ U o U' => ∃ v L, o = .returned v ∧ Q_rn2 Z s1 t1 k1 n1 vs1 w_UsageKind_SMS w_UsageKind_CALL w_UsageKind_DATA w_UsageKind__VALUES w_UsageKind_LOCAL_DATA w_UsageKind_SMS_written w_UsageKind_CALL_written w_UsageKind_DATA_written w_UsageKind_SMS_written_value w_UsageKind_CALL_written_value w_UsageKind_DATA_written_value k_w_UsageKind__VALUES k_w_UsageKind_SMS_written_value k_w_UsageKind_CALL_written_value k_w_UsageKind_DATA_written_value zc h0 n0 v U'.heap L ∧ FrameEnd U o U' L ({ frames := 2, cells := 1, slots := 4, locals := 28 } : Room).cells ({ frames := 2, cells := 1, slots := 4, locals := 28 } : Room).slots) := by
  refine MetFree.of_bodySF (plainFor_of_name pn_0) hisR ?_
  intro p e s m args below meth c s₁ Bd hml0 hP hK
  obtain ⟨rfl, hZ, hh⟩ := hP
  have hx := Bd.exec
  have hby := Bd.bytes
  have hml : c.maxLocals = 5 := hml0
  have hown : s.vm.findClass "com/example/bill_run/billrun/UsageKind" = some m.cls := findClass_of_methodNamed Bd.named
  have hnm := (name_of_methodNamed Bd.named Bd.method).1
  have X0 : Stand p l e ({ frames := 2, cells := 1, slots := 4, locals := 28 } : Room) s m #[(.ref s1)] below meth c s₁ [] 0 0 := Stand.of_body Bd
  have e0 : s₁.heap = h0 := by rw [← hh, Bd.state]; rfl
  have N0 := Fr.nil n0
  have Z0 : n0 ≤ h0.size := old_le O0
  have pre0 : ∀ t, Steps p.tables e below (s₁.setTop (mkF m 0 #[.val (.ref s1), .unset, .unset, .unset, .unset] [])) t → Steps p.tables e below (s₁.setTop (entryFrame m #[(.ref s1)] 5)) t := fun t k => castTop (ef_rn2 m s1) k
  obtain ⟨_, _, ⟨T101, L101, k101, n101⟩, -, X101, ⟨Lc101, hQ101, l101, y101, z101⟩, st101⟩ := Jvm.LawKit.callS X0 hx (y := (⟨"com/example/bill_run/billrun/UsageKind", "values", "()[Lcom/example/bill_run/billrun/UsageKind;"⟩ : MethodName)) hown (mvT hZ (hwk hw 39 rfl)) (mvT hZ (hwk hw 40 rfl)) (mvT hZ (hwk hw 1 rfl)) (mvT hZ (hwk hw 41 rfl)) (by decide) (backOf (W := 0) (rm8 l Z a0 hw [] w_UsageKind_SMS w_UsageKind_CALL w_UsageKind_DATA w_UsageKind__VALUES w_UsageKind_LOCAL_DATA k_w_UsageKind__VALUES h0 n0 O0 S_UsageKind__VALUES E_w_UsageKind__VALUES V_w_UsageKind__VALUES) hZ (hwk hw 41 rfl) (hwk hw 1 rfl) (by decide) (by decide)) (g := (mkF m 0 #[.val (.ref s1), .unset, .unset, .unset, .unset] [])) rfl (by rw [hml]; rfl) (argsL := []) (rest := []) (lenOf pd_0 rfl) rfl (by show 2 * 0 + _ ≤ _; exact Nat.le_of_eq rfl) (hb hby d7_0) (fun _ _ => ⟨rfl, e0, (by decide : 0 + 1 ≤ _), (by decide : 0 + 4 ≤ _)⟩)
  dsimp only [Pt.U, Pt.locs, Pt.cells, Pt.slots] at X101 l101 y101 z101 st101 hQ101
  subst l101 y101 z101
  unfold Q_rm8 at hQ101
  obtain ⟨o_101, rfl, N101q, K101, ge_o_101, f101_0⟩ := hQ101
  have N101 := Fr.app N0 N101q
  have g_o_101 : n0 ≤ o_101 := Nat.le_trans (old_le O0) ge_o_101
  obtain ⟨cl102, Ar102, -, Sz102, Nn102, -, -⟩ := id f101_0
  obtain ⟨clq103, Arq103, kqq103, Szq103, Nnq103, Hsq103, Gsq103⟩ := id f101_0
  have hinq103 : ¬ ((0 : Int32) < 0 ∨ clq103.slots.size ≤ ((0 : Int32)).toNatClampNeg) := inb_of Szq103 ⟨by decide, by decide⟩
  have O105 : Old Z n0 T101.heap := Old.keep O0 K101 all0
  have c104 : Fld Z T101.heap w_UsageKind_CALL "com/example/bill_run/billrun/UsageKind" "written" "Ljava/lang/String;" (.ref w_UsageKind_CALL_written) := Fld.ext (O105).2 F_w_UsageKind_CALL_written
  obtain ⟨T106, X106, e106, st106⟩ := getF X101 hx hZ hown (host := "") (Or.inl (hwk hw 57 rfl)) Via.refl (rfl : T101.heap = T101.heap) c104 (g := (mkF m 21 #[.val (.ref s1), .val (.ref o_101), .val (.int (4 : Int32)), .val (.int (0 : Int32)), .val (.ref w_UsageKind_CALL)] [(.ref w_UsageKind_CALL)])) rfl rfl (hb hby d7_21)
  have hws107 : ∀ d ∈ StrChars.Road.wordsEq, d.before a0 Z = true := fun d hd => hw d ((by decide +kernel : ∀ d ∈ StrChars.Road.wordsEq, d ∈ tables_1) d hd)
  have c108 : Exa Z T101.heap w_UsageKind_CALL_written "java/lang/String" := Exa.ext (O105).2 E_w_UsageKind_CALL_written
  have c109 : Fld Z T101.heap w_UsageKind_CALL_written "java/lang/String" "value" "[B" (.ref w_UsageKind_CALL_written_value) := Fld.ext (O105).2 F_w_UsageKind_CALL_written_value
  have c110 : Fld Z T101.heap w_UsageKind_CALL_written "java/lang/String" "coder" "B" (.int (0 : Int32)) := Fld.ext (O105).2 F_w_UsageKind_CALL_written_coder
  have c111 : Arv Z T101.heap w_UsageKind_CALL_written_value k_w_UsageKind_CALL_written_value .byte (4 : Int32) [(.int (99 : Int32)), (.int (97 : Int32)), (.int (108 : Int32)), (.int (108 : Int32))] (.int (0 : Int32)) := V_w_UsageKind_CALL_written_value.ext O105.2
  have c112 : Exa Z T101.heap s1 "java/lang/String" := (Exa.keep E1 K101)
  have c113 : Fld Z T101.heap s1 "java/lang/String" "value" "[B" (.ref t1) := (Fld.keep V1 K101 nin0)
  have c114 : Fld Z T101.heap s1 "java/lang/String" "coder" "B" (.int (0 : Int32)) := (Fld.keep C1 K101 nin0)
  have c115 : Arv Z T101.heap t1 k1 .byte n1 vs1 (.int 0) := (Arv.keep A1 K101 nin0)
  have c116 : Sta Z T101.heap "java/lang/String" "COMPACT_STRINGS" "Z" (.int zc) := Sta.ext (O105).2 SZ
  obtain ⟨cq117, kq117, q117a, q117b, q117c⟩ := isOf hZ e106 c108
  obtain ⟨_, _, ⟨T117, L117, k117, n117⟩, -, X117, ⟨Lc117, hQ117, l117, y117, z117⟩, st117⟩ := X106.virtualBack hx (y := (⟨"java/lang/String", "equals", "(Ljava/lang/Object;)Z"⟩ : MethodName)) (z := (⟨"java/lang/String", "equals", "(Ljava/lang/Object;)Z"⟩ : MethodName)) hown (mvT hZ (hwk hw 59 rfl)) (mvT hZ (hwk hw 60 rfl)) (notFace_of_selects (args := #[]) (mvT hZ (hwk hw 62 rfl))) (mvT hZ (hwk hw 62 rfl)) (mvT hZ (hwk hw 61 rfl)) (by decide) (StrChars.Road.eqW (W := 0) hZ hws107 (kI := 4) (hwk hw 5 rfl) c108 c109 c110 c111 own_os0.1 own_os0.2.1 own_os0.2.2 c112 c113 c114 c115 S1.1 S1.2.1 S1.2.2 c116 PZ (by decide) (by decide)) q117a q117c (g := (mkF m 25 #[.val (.ref s1), .val (.ref o_101), .val (.int (4 : Int32)), .val (.int (0 : Int32)), .val (.ref w_UsageKind_CALL)] [(.ref s1), (.ref w_UsageKind_CALL_written)])) rfl (by rw [hml]; rfl) (Steps.refl _) (argsL := [(.ref s1)]) (rest := []) (lenOf pd_1 rfl) rfl (by show 2 * 0 + _ ≤ _; exact Nat.le_of_eq rfl) (hb hby d7_25) (fun _ _ => ⟨rfl, e106, (by decide : 1 + 0 ≤ _), (by decide : 4 + 0 ≤ _)⟩)
  dsimp only [Pt.U, Pt.locs, Pt.cells, Pt.slots] at X117 l117 y117 z117 st117 hQ117
  subst l117 y117 z117
  obtain ⟨hv117, hl117, e117⟩ := hQ117
  cases own_vm hv117
  have N117 := Fr.app N101 (own_frnil hl117)
  obtain ⟨clq118, Arq118, kqq118, Szq118, Nnq118, Hsq118, Gsq118⟩ := id f101_0
  have hinq118 : ¬ ((1 : Int32) < 0 ∨ clq118.slots.size ≤ ((1 : Int32)).toNatClampNeg) := inb_of Szq118 ⟨by decide, by decide⟩
  have c119 : Fld Z T101.heap w_UsageKind_SMS "com/example/bill_run/billrun/UsageKind" "written" "Ljava/lang/String;" (.ref w_UsageKind_SMS_written) := Fld.ext (O105).2 F_w_UsageKind_SMS_written
  obtain ⟨T120, X120, e120, st120⟩ := getF X117 hx hZ hown (host := "") (Or.inl (hwk hw 57 rfl)) Via.refl e117 c119 (g := (mkF m 21 #[.val (.ref s1), .val (.ref o_101), .val (.int (4 : Int32)), .val (.int (1 : Int32)), .val (.ref w_UsageKind_SMS)] [(.ref w_UsageKind_SMS)])) rfl rfl (hb hby d7_21)
  have hws121 : ∀ d ∈ StrChars.Road.wordsEq, d.before a0 Z = true := fun d hd => hw d ((by decide +kernel : ∀ d ∈ StrChars.Road.wordsEq, d ∈ tables_1) d hd)
  have c122 : Exa Z T101.heap w_UsageKind_SMS_written "java/lang/String" := Exa.ext (O105).2 E_w_UsageKind_SMS_written
  have c123 : Fld Z T101.heap w_UsageKind_SMS_written "java/lang/String" "value" "[B" (.ref w_UsageKind_SMS_written_value) := Fld.ext (O105).2 F_w_UsageKind_SMS_written_value
  have c124 : Fld Z T101.heap w_UsageKind_SMS_written "java/lang/String" "coder" "B" (.int (0 : Int32)) := Fld.ext (O105).2 F_w_UsageKind_SMS_written_coder
  have c125 : Arv Z T101.heap w_UsageKind_SMS_written_value k_w_UsageKind_SMS_written_value .byte (3 : Int32) [(.int (115 : Int32)), (.int (109 : Int32)), (.int (115 : Int32))] (.int (0 : Int32)) := V_w_UsageKind_SMS_written_value.ext O105.2
  obtain ⟨cq126, kq126, q126a, q126b, q126c⟩ := isOf hZ e120 c122
  obtain ⟨_, _, ⟨T126, L126, k126, n126⟩, -, X126, ⟨Lc126, hQ126, l126, y126, z126⟩, st126⟩ := X120.virtualBack hx (y := (⟨"java/lang/String", "equals", "(Ljava/lang/Object;)Z"⟩ : MethodName)) (z := (⟨"java/lang/String", "equals", "(Ljava/lang/Object;)Z"⟩ : MethodName)) hown (mvT hZ (hwk hw 59 rfl)) (mvT hZ (hwk hw 60 rfl)) (notFace_of_selects (args := #[]) (mvT hZ (hwk hw 62 rfl))) (mvT hZ (hwk hw 62 rfl)) (mvT hZ (hwk hw 61 rfl)) (by decide) (StrChars.Road.eqW (W := 0) hZ hws121 (kI := 4) (hwk hw 5 rfl) c122 c123 c124 c125 own_os1.1 own_os1.2.1 own_os1.2.2 c112 c113 c114 c115 S1.1 S1.2.1 S1.2.2 c116 PZ (by decide) (by decide)) q126a q126c (g := (mkF m 25 #[.val (.ref s1), .val (.ref o_101), .val (.int (4 : Int32)), .val (.int (1 : Int32)), .val (.ref w_UsageKind_SMS)] [(.ref s1), (.ref w_UsageKind_SMS_written)])) rfl (by rw [hml]; rfl) (Steps.refl _) (argsL := [(.ref s1)]) (rest := []) (lenOf pd_1 rfl) rfl (by show 2 * 0 + _ ≤ _; exact Nat.le_of_eq rfl) (hb hby d7_25) (fun _ _ => ⟨rfl, e120, (by decide : 1 + 0 ≤ _), (by decide : 4 + 0 ≤ _)⟩)
  dsimp only [Pt.U, Pt.locs, Pt.cells, Pt.slots] at X126 l126 y126 z126 st126 hQ126
  subst l126 y126 z126
  obtain ⟨hv126, hl126, e126⟩ := hQ126
  cases own_vm hv126
  have N126 := Fr.app N117 (own_frnil hl126)
  obtain ⟨clq127, Arq127, kqq127, Szq127, Nnq127, Hsq127, Gsq127⟩ := id f101_0
  have hinq127 : ¬ ((2 : Int32) < 0 ∨ clq127.slots.size ≤ ((2 : Int32)).toNatClampNeg) := inb_of Szq127 ⟨by decide, by decide⟩
  have c128 : Fld Z T101.heap w_UsageKind_DATA "com/example/bill_run/billrun/UsageKind" "written" "Ljava/lang/String;" (.ref w_UsageKind_DATA_written) := Fld.ext (O105).2 F_w_UsageKind_DATA_written
  obtain ⟨T129, X129, e129, st129⟩ := getF X126 hx hZ hown (host := "") (Or.inl (hwk hw 57 rfl)) Via.refl e126 c128 (g := (mkF m 21 #[.val (.ref s1), .val (.ref o_101), .val (.int (4 : Int32)), .val (.int (2 : Int32)), .val (.ref w_UsageKind_DATA)] [(.ref w_UsageKind_DATA)])) rfl rfl (hb hby d7_21)
  have hws130 : ∀ d ∈ StrChars.Road.wordsEq, d.before a0 Z = true := fun d hd => hw d ((by decide +kernel : ∀ d ∈ StrChars.Road.wordsEq, d ∈ tables_1) d hd)
  have c131 : Exa Z T101.heap w_UsageKind_DATA_written "java/lang/String" := Exa.ext (O105).2 E_w_UsageKind_DATA_written
  have c132 : Fld Z T101.heap w_UsageKind_DATA_written "java/lang/String" "value" "[B" (.ref w_UsageKind_DATA_written_value) := Fld.ext (O105).2 F_w_UsageKind_DATA_written_value
  have c133 : Fld Z T101.heap w_UsageKind_DATA_written "java/lang/String" "coder" "B" (.int (0 : Int32)) := Fld.ext (O105).2 F_w_UsageKind_DATA_written_coder
  have c134 : Arv Z T101.heap w_UsageKind_DATA_written_value k_w_UsageKind_DATA_written_value .byte (4 : Int32) [(.int (100 : Int32)), (.int (97 : Int32)), (.int (116 : Int32)), (.int (97 : Int32))] (.int (0 : Int32)) := V_w_UsageKind_DATA_written_value.ext O105.2
  obtain ⟨cq135, kq135, q135a, q135b, q135c⟩ := isOf hZ e129 c131
  obtain ⟨_, _, ⟨T135, L135, k135, n135⟩, -, X135, ⟨Lc135, hQ135, l135, y135, z135⟩, st135⟩ := X129.virtualBack hx (y := (⟨"java/lang/String", "equals", "(Ljava/lang/Object;)Z"⟩ : MethodName)) (z := (⟨"java/lang/String", "equals", "(Ljava/lang/Object;)Z"⟩ : MethodName)) hown (mvT hZ (hwk hw 59 rfl)) (mvT hZ (hwk hw 60 rfl)) (notFace_of_selects (args := #[]) (mvT hZ (hwk hw 62 rfl))) (mvT hZ (hwk hw 62 rfl)) (mvT hZ (hwk hw 61 rfl)) (by decide) (StrChars.Road.eqW (W := 0) hZ hws130 (kI := 4) (hwk hw 5 rfl) c131 c132 c133 c134 own_os2.1 own_os2.2.1 own_os2.2.2 c112 c113 c114 c115 S1.1 S1.2.1 S1.2.2 c116 PZ (by decide) (by decide)) q135a q135c (g := (mkF m 25 #[.val (.ref s1), .val (.ref o_101), .val (.int (4 : Int32)), .val (.int (2 : Int32)), .val (.ref w_UsageKind_DATA)] [(.ref s1), (.ref w_UsageKind_DATA_written)])) rfl (by rw [hml]; rfl) (Steps.refl _) (argsL := [(.ref s1)]) (rest := []) (lenOf pd_1 rfl) rfl (by show 2 * 0 + _ ≤ _; exact Nat.le_of_eq rfl) (hb hby d7_25) (fun _ _ => ⟨rfl, e129, (by decide : 1 + 0 ≤ _), (by decide : 4 + 0 ≤ _)⟩)
  dsimp only [Pt.U, Pt.locs, Pt.cells, Pt.slots] at X135 l135 y135 z135 st135 hQ135
  subst l135 y135 z135
  obtain ⟨hv135, hl135, e135⟩ := hQ135
  cases own_vm hv135
  have N135 := Fr.app N126 (own_frnil hl135)
  have K136 : Keep h0 T101.heap [] := Keep.trans (Keep.refl h0 []) K101 all0
  obtain ⟨fs, hr, hrun, hended, hW, hsame⟩ := X135.leave (v := some (.ref w_UsageKind_DATA)) (fun h => by rw [Bd.returns] at h; cases h)
  refine ⟨_, _, pre0 _ ?_, hrun, hended, _, _, rfl, ?_, ⟨_, rfl⟩, hW, hsame.mono (by decide) (by decide)⟩
  · show Steps p.tables e below (s₁.setTop (mkF m 0 #[.val (.ref s1), .unset, .unset, .unset, .unset] [])) _
    refine st101 _ ?_
    show Steps p.tables e below (T101.setTop (mkF m 3 #[.val (.ref s1), .unset, .unset, .unset, .unset] [(.ref o_101)])) _
    refine XS.astoreN X101.here hx rfl (hb hby d7_3) rfl rfl (l' := #[.val (.ref s1), .val (.ref o_101), .unset, .unset, .unset]) rfl ?_
    show Steps p.tables e below (T101.setTop (mkF m 4 #[.val (.ref s1), .val (.ref o_101), .unset, .unset, .unset] [])) _
    refine XS.aloadN X101.here hx rfl (hb hby d7_4) rfl rfl ?_
    show Steps p.tables e below (T101.setTop (mkF m 5 #[.val (.ref s1), .val (.ref o_101), .unset, .unset, .unset] [(.ref o_101)])) _
    refine X101.arraylength hx (by rw [(rfl : T101.heap = T101.heap)]; exact Ar102.1) (State.isArrayOf_alike hZ.alike Ar102.2.1) (g := (mkF m 5 #[.val (.ref s1), .val (.ref o_101), .unset, .unset, .unset] [(.ref o_101)])) rfl rfl (hb hby d7_5) _ ?_
    rw [len_of Sz102 Nn102]
    show Steps p.tables e below (T101.setTop (mkF m 6 #[.val (.ref s1), .val (.ref o_101), .unset, .unset, .unset] [(.int (4 : Int32))])) _
    refine XS.istoreN X101.here hx rfl (hb hby d7_6) rfl (l' := #[.val (.ref s1), .val (.ref o_101), .val (.int (4 : Int32)), .unset, .unset]) rfl ?_
    show Steps p.tables e below (T101.setTop (mkF m 7 #[.val (.ref s1), .val (.ref o_101), .val (.int (4 : Int32)), .unset, .unset] [])) _
    refine XS.iconst X101.here hx rfl (hb hby d7_7) ?_
    show Steps p.tables e below (T101.setTop (mkF m 8 #[.val (.ref s1), .val (.ref o_101), .val (.int (4 : Int32)), .unset, .unset] [(.int (0 : Int32))])) _
    refine XS.istoreN X101.here hx rfl (hb hby d7_8) rfl (l' := #[.val (.ref s1), .val (.ref o_101), .val (.int (4 : Int32)), .val (.int (0 : Int32)), .unset]) rfl ?_
    show Steps p.tables e below (T101.setTop (mkF m 9 #[.val (.ref s1), .val (.ref o_101), .val (.int (4 : Int32)), .val (.int (0 : Int32)), .unset] [])) _
    refine XS.iloadN X101.here hx rfl (hb hby d7_9) rfl ?_
    show Steps p.tables e below (T101.setTop (mkF m 10 #[.val (.ref s1), .val (.ref o_101), .val (.int (4 : Int32)), .val (.int (0 : Int32)), .unset] [(.int (0 : Int32))])) _
    refine XS.iloadN X101.here hx rfl (hb hby d7_10) rfl ?_
    show Steps p.tables e below (T101.setTop (mkF m 11 #[.val (.ref s1), .val (.ref o_101), .val (.int (4 : Int32)), .val (.int (0 : Int32)), .unset] [(.int (4 : Int32)), (.int (0 : Int32))])) _
    refine XS.icmpNo X101.here hx rfl (hb hby d7_11) rfl (tlt (by decide : (0 : Int32) < (4 : Int32))).2.1 ?_
    show Steps p.tables e below (T101.setTop (mkF m 14 #[.val (.ref s1), .val (.ref o_101), .val (.int (4 : Int32)), .val (.int (0 : Int32)), .unset] [])) _
    refine XS.aloadN X101.here hx rfl (hb hby d7_14) rfl rfl ?_
    show Steps p.tables e below (T101.setTop (mkF m 15 #[.val (.ref s1), .val (.ref o_101), .val (.int (4 : Int32)), .val (.int (0 : Int32)), .unset] [(.ref o_101)])) _
    refine XS.iloadN X101.here hx rfl (hb hby d7_15) rfl ?_
    show Steps p.tables e below (T101.setTop (mkF m 16 #[.val (.ref s1), .val (.ref o_101), .val (.int (4 : Int32)), .val (.int (0 : Int32)), .unset] [(.int (0 : Int32)), (.ref o_101)])) _
    refine X101.aaload hx (j := (0 : Int32)) (v := (.ref w_UsageKind_CALL)) (by rw [(rfl : T101.heap = T101.heap)]; exact Arq103.1) (State.isArrayOf_alike hZ.alike Arq103.2.1) rfl Arq103.2.2 hinq103 (Has.at Hsq103 hinq103 rfl) (g := (mkF m 16 #[.val (.ref s1), .val (.ref o_101), .val (.int (4 : Int32)), .val (.int (0 : Int32)), .unset] [(.int (0 : Int32)), (.ref o_101)])) rfl rfl (hb hby d7_16) _ ?_
    show Steps p.tables e below (T101.setTop (mkF m 17 #[.val (.ref s1), .val (.ref o_101), .val (.int (4 : Int32)), .val (.int (0 : Int32)), .unset] [(.ref w_UsageKind_CALL)])) _
    refine XS.astore X101.here hx rfl (hb hby d7_17) rfl rfl (l' := #[.val (.ref s1), .val (.ref o_101), .val (.int (4 : Int32)), .val (.int (0 : Int32)), .val (.ref w_UsageKind_CALL)]) rfl ?_
    show Steps p.tables e below (T101.setTop (mkF m 19 #[.val (.ref s1), .val (.ref o_101), .val (.int (4 : Int32)), .val (.int (0 : Int32)), .val (.ref w_UsageKind_CALL)] [])) _
    refine XS.aload X101.here hx rfl (hb hby d7_19) rfl rfl ?_
    show Steps p.tables e below (T101.setTop (mkF m 21 #[.val (.ref s1), .val (.ref o_101), .val (.int (4 : Int32)), .val (.int (0 : Int32)), .val (.ref w_UsageKind_CALL)] [(.ref w_UsageKind_CALL)])) _
    refine st106 _ ?_
    show Steps p.tables e below (T106.setTop (mkF m 24 #[.val (.ref s1), .val (.ref o_101), .val (.int (4 : Int32)), .val (.int (0 : Int32)), .val (.ref w_UsageKind_CALL)] [(.ref w_UsageKind_CALL_written)])) _
    refine XS.aloadN X106.here hx rfl (hb hby d7_24) rfl rfl ?_
    show Steps p.tables e below (T106.setTop (mkF m 25 #[.val (.ref s1), .val (.ref o_101), .val (.int (4 : Int32)), .val (.int (0 : Int32)), .val (.ref w_UsageKind_CALL)] [(.ref s1), (.ref w_UsageKind_CALL_written)])) _
    refine st117.trans ?_
    show Steps p.tables e below (T117.setTop (mkF m 28 #[.val (.ref s1), .val (.ref o_101), .val (.int (4 : Int32)), .val (.int (0 : Int32)), .val (.ref w_UsageKind_CALL)] [(.int (VM [(99 : Int32), (97 : Int32), (108 : Int32), (108 : Int32)] [(100 : Int32), (97 : Int32), (116 : Int32), (97 : Int32)]))])) _
    refine XS.ifYes X117.here hx rfl (pc0 := 28) (pc' := 34) rfl (hb hby d7_28) rfl ((if0 _ _).trans (teq ((by decide) : (VM [(99 : Int32), (97 : Int32), (108 : Int32), (108 : Int32)] [(100 : Int32), (97 : Int32), (116 : Int32), (97 : Int32)]) = (0 : Int32))).1) (by decide) (by decide) ?_
    show Steps p.tables e below (T117.setTop (mkF m 34 #[.val (.ref s1), .val (.ref o_101), .val (.int (4 : Int32)), .val (.int (0 : Int32)), .val (.ref w_UsageKind_CALL)] [])) _
    refine XS.iinc X117.here hx rfl (hb hby d7_34) rfl (l' := #[.val (.ref s1), .val (.ref o_101), .val (.int (4 : Int32)), .val (.int ((0 : Int32) + (1 : Int32))), .val (.ref w_UsageKind_CALL)]) rfl ?_
    show Steps p.tables e below (T117.setTop (mkF m 37 #[.val (.ref s1), .val (.ref o_101), .val (.int (4 : Int32)), .val (.int ((0 : Int32) + (1 : Int32))), .val (.ref w_UsageKind_CALL)] [])) _
    rw [show ((0 : Int32) + (1 : Int32)) = (1 : Int32) from by decide]
    show Steps p.tables e below (T117.setTop (mkF m 37 #[.val (.ref s1), .val (.ref o_101), .val (.int (4 : Int32)), .val (.int (1 : Int32)), .val (.ref w_UsageKind_CALL)] [])) _
    refine XS.goto X117.here hx rfl (pc0 := 37) (pc' := 9) rfl (hb hby d7_37) (by decide) (by decide) ?_
    show Steps p.tables e below (T117.setTop (mkF m 9 #[.val (.ref s1), .val (.ref o_101), .val (.int (4 : Int32)), .val (.int (1 : Int32)), .val (.ref w_UsageKind_CALL)] [])) _
    refine XS.iloadN X117.here hx rfl (hb hby d7_9) rfl ?_
    show Steps p.tables e below (T117.setTop (mkF m 10 #[.val (.ref s1), .val (.ref o_101), .val (.int (4 : Int32)), .val (.int (1 : Int32)), .val (.ref w_UsageKind_CALL)] [(.int (1 : Int32))])) _
    refine XS.iloadN X117.here hx rfl (hb hby d7_10) rfl ?_
    show Steps p.tables e below (T117.setTop (mkF m 11 #[.val (.ref s1), .val (.ref o_101), .val (.int (4 : Int32)), .val (.int (1 : Int32)), .val (.ref w_UsageKind_CALL)] [(.int (4 : Int32)), (.int (1 : Int32))])) _
    refine XS.icmpNo X117.here hx rfl (hb hby d7_11) rfl (tlt (by decide : (1 : Int32) < (4 : Int32))).2.1 ?_
    show Steps p.tables e below (T117.setTop (mkF m 14 #[.val (.ref s1), .val (.ref o_101), .val (.int (4 : Int32)), .val (.int (1 : Int32)), .val (.ref w_UsageKind_CALL)] [])) _
    refine XS.aloadN X117.here hx rfl (hb hby d7_14) rfl rfl ?_
    show Steps p.tables e below (T117.setTop (mkF m 15 #[.val (.ref s1), .val (.ref o_101), .val (.int (4 : Int32)), .val (.int (1 : Int32)), .val (.ref w_UsageKind_CALL)] [(.ref o_101)])) _
    refine XS.iloadN X117.here hx rfl (hb hby d7_15) rfl ?_
    show Steps p.tables e below (T117.setTop (mkF m 16 #[.val (.ref s1), .val (.ref o_101), .val (.int (4 : Int32)), .val (.int (1 : Int32)), .val (.ref w_UsageKind_CALL)] [(.int (1 : Int32)), (.ref o_101)])) _
    refine X117.aaload hx (j := (1 : Int32)) (v := (.ref w_UsageKind_SMS)) (by rw [e117]; exact Arq118.1) (State.isArrayOf_alike hZ.alike Arq118.2.1) rfl Arq118.2.2 hinq118 (Has.at Hsq118 hinq118 rfl) (g := (mkF m 16 #[.val (.ref s1), .val (.ref o_101), .val (.int (4 : Int32)), .val (.int (1 : Int32)), .val (.ref w_UsageKind_CALL)] [(.int (1 : Int32)), (.ref o_101)])) rfl rfl (hb hby d7_16) _ ?_
    show Steps p.tables e below (T117.setTop (mkF m 17 #[.val (.ref s1), .val (.ref o_101), .val (.int (4 : Int32)), .val (.int (1 : Int32)), .val (.ref w_UsageKind_CALL)] [(.ref w_UsageKind_SMS)])) _
    refine XS.astore X117.here hx rfl (hb hby d7_17) rfl rfl (l' := #[.val (.ref s1), .val (.ref o_101), .val (.int (4 : Int32)), .val (.int (1 : Int32)), .val (.ref w_UsageKind_SMS)]) rfl ?_
    show Steps p.tables e below (T117.setTop (mkF m 19 #[.val (.ref s1), .val (.ref o_101), .val (.int (4 : Int32)), .val (.int (1 : Int32)), .val (.ref w_UsageKind_SMS)] [])) _
    refine XS.aload X117.here hx rfl (hb hby d7_19) rfl rfl ?_
    show Steps p.tables e below (T117.setTop (mkF m 21 #[.val (.ref s1), .val (.ref o_101), .val (.int (4 : Int32)), .val (.int (1 : Int32)), .val (.ref w_UsageKind_SMS)] [(.ref w_UsageKind_SMS)])) _
    refine st120 _ ?_
    show Steps p.tables e below (T120.setTop (mkF m 24 #[.val (.ref s1), .val (.ref o_101), .val (.int (4 : Int32)), .val (.int (1 : Int32)), .val (.ref w_UsageKind_SMS)] [(.ref w_UsageKind_SMS_written)])) _
    refine XS.aloadN X120.here hx rfl (hb hby d7_24) rfl rfl ?_
    show Steps p.tables e below (T120.setTop (mkF m 25 #[.val (.ref s1), .val (.ref o_101), .val (.int (4 : Int32)), .val (.int (1 : Int32)), .val (.ref w_UsageKind_SMS)] [(.ref s1), (.ref w_UsageKind_SMS_written)])) _
    refine st126.trans ?_
    show Steps p.tables e below (T126.setTop (mkF m 28 #[.val (.ref s1), .val (.ref o_101), .val (.int (4 : Int32)), .val (.int (1 : Int32)), .val (.ref w_UsageKind_SMS)] [(.int (VM [(115 : Int32), (109 : Int32), (115 : Int32)] [(100 : Int32), (97 : Int32), (116 : Int32), (97 : Int32)]))])) _
    refine XS.ifYes X126.here hx rfl (pc0 := 28) (pc' := 34) rfl (hb hby d7_28) rfl ((if0 _ _).trans (teq ((by decide) : (VM [(115 : Int32), (109 : Int32), (115 : Int32)] [(100 : Int32), (97 : Int32), (116 : Int32), (97 : Int32)]) = (0 : Int32))).1) (by decide) (by decide) ?_
    show Steps p.tables e below (T126.setTop (mkF m 34 #[.val (.ref s1), .val (.ref o_101), .val (.int (4 : Int32)), .val (.int (1 : Int32)), .val (.ref w_UsageKind_SMS)] [])) _
    refine XS.iinc X126.here hx rfl (hb hby d7_34) rfl (l' := #[.val (.ref s1), .val (.ref o_101), .val (.int (4 : Int32)), .val (.int ((1 : Int32) + (1 : Int32))), .val (.ref w_UsageKind_SMS)]) rfl ?_
    show Steps p.tables e below (T126.setTop (mkF m 37 #[.val (.ref s1), .val (.ref o_101), .val (.int (4 : Int32)), .val (.int ((1 : Int32) + (1 : Int32))), .val (.ref w_UsageKind_SMS)] [])) _
    rw [show ((1 : Int32) + (1 : Int32)) = (2 : Int32) from by decide]
    show Steps p.tables e below (T126.setTop (mkF m 37 #[.val (.ref s1), .val (.ref o_101), .val (.int (4 : Int32)), .val (.int (2 : Int32)), .val (.ref w_UsageKind_SMS)] [])) _
    refine XS.goto X126.here hx rfl (pc0 := 37) (pc' := 9) rfl (hb hby d7_37) (by decide) (by decide) ?_
    show Steps p.tables e below (T126.setTop (mkF m 9 #[.val (.ref s1), .val (.ref o_101), .val (.int (4 : Int32)), .val (.int (2 : Int32)), .val (.ref w_UsageKind_SMS)] [])) _
    refine XS.iloadN X126.here hx rfl (hb hby d7_9) rfl ?_
    show Steps p.tables e below (T126.setTop (mkF m 10 #[.val (.ref s1), .val (.ref o_101), .val (.int (4 : Int32)), .val (.int (2 : Int32)), .val (.ref w_UsageKind_SMS)] [(.int (2 : Int32))])) _
    refine XS.iloadN X126.here hx rfl (hb hby d7_10) rfl ?_
    show Steps p.tables e below (T126.setTop (mkF m 11 #[.val (.ref s1), .val (.ref o_101), .val (.int (4 : Int32)), .val (.int (2 : Int32)), .val (.ref w_UsageKind_SMS)] [(.int (4 : Int32)), (.int (2 : Int32))])) _
    refine XS.icmpNo X126.here hx rfl (hb hby d7_11) rfl (tlt (by decide : (2 : Int32) < (4 : Int32))).2.1 ?_
    show Steps p.tables e below (T126.setTop (mkF m 14 #[.val (.ref s1), .val (.ref o_101), .val (.int (4 : Int32)), .val (.int (2 : Int32)), .val (.ref w_UsageKind_SMS)] [])) _
    refine XS.aloadN X126.here hx rfl (hb hby d7_14) rfl rfl ?_
    show Steps p.tables e below (T126.setTop (mkF m 15 #[.val (.ref s1), .val (.ref o_101), .val (.int (4 : Int32)), .val (.int (2 : Int32)), .val (.ref w_UsageKind_SMS)] [(.ref o_101)])) _
    refine XS.iloadN X126.here hx rfl (hb hby d7_15) rfl ?_
    show Steps p.tables e below (T126.setTop (mkF m 16 #[.val (.ref s1), .val (.ref o_101), .val (.int (4 : Int32)), .val (.int (2 : Int32)), .val (.ref w_UsageKind_SMS)] [(.int (2 : Int32)), (.ref o_101)])) _
    refine X126.aaload hx (j := (2 : Int32)) (v := (.ref w_UsageKind_DATA)) (by rw [e126]; exact Arq127.1) (State.isArrayOf_alike hZ.alike Arq127.2.1) rfl Arq127.2.2 hinq127 (Has.at Hsq127 hinq127 rfl) (g := (mkF m 16 #[.val (.ref s1), .val (.ref o_101), .val (.int (4 : Int32)), .val (.int (2 : Int32)), .val (.ref w_UsageKind_SMS)] [(.int (2 : Int32)), (.ref o_101)])) rfl rfl (hb hby d7_16) _ ?_
    show Steps p.tables e below (T126.setTop (mkF m 17 #[.val (.ref s1), .val (.ref o_101), .val (.int (4 : Int32)), .val (.int (2 : Int32)), .val (.ref w_UsageKind_SMS)] [(.ref w_UsageKind_DATA)])) _
    refine XS.astore X126.here hx rfl (hb hby d7_17) rfl rfl (l' := #[.val (.ref s1), .val (.ref o_101), .val (.int (4 : Int32)), .val (.int (2 : Int32)), .val (.ref w_UsageKind_DATA)]) rfl ?_
    show Steps p.tables e below (T126.setTop (mkF m 19 #[.val (.ref s1), .val (.ref o_101), .val (.int (4 : Int32)), .val (.int (2 : Int32)), .val (.ref w_UsageKind_DATA)] [])) _
    refine XS.aload X126.here hx rfl (hb hby d7_19) rfl rfl ?_
    show Steps p.tables e below (T126.setTop (mkF m 21 #[.val (.ref s1), .val (.ref o_101), .val (.int (4 : Int32)), .val (.int (2 : Int32)), .val (.ref w_UsageKind_DATA)] [(.ref w_UsageKind_DATA)])) _
    refine st129 _ ?_
    show Steps p.tables e below (T129.setTop (mkF m 24 #[.val (.ref s1), .val (.ref o_101), .val (.int (4 : Int32)), .val (.int (2 : Int32)), .val (.ref w_UsageKind_DATA)] [(.ref w_UsageKind_DATA_written)])) _
    refine XS.aloadN X129.here hx rfl (hb hby d7_24) rfl rfl ?_
    show Steps p.tables e below (T129.setTop (mkF m 25 #[.val (.ref s1), .val (.ref o_101), .val (.int (4 : Int32)), .val (.int (2 : Int32)), .val (.ref w_UsageKind_DATA)] [(.ref s1), (.ref w_UsageKind_DATA_written)])) _
    refine st135.trans ?_
    show Steps p.tables e below (T135.setTop (mkF m 28 #[.val (.ref s1), .val (.ref o_101), .val (.int (4 : Int32)), .val (.int (2 : Int32)), .val (.ref w_UsageKind_DATA)] [(.int (VM [(100 : Int32), (97 : Int32), (116 : Int32), (97 : Int32)] [(100 : Int32), (97 : Int32), (116 : Int32), (97 : Int32)]))])) _
    refine XS.ifNo X135.here hx rfl (hb hby d7_28) rfl ((if0 _ _).trans (feq ((by decide) : ¬ ((VM [(100 : Int32), (97 : Int32), (116 : Int32), (97 : Int32)] [(100 : Int32), (97 : Int32), (116 : Int32), (97 : Int32)]) = (0 : Int32)))).1) ?_
    show Steps p.tables e below (T135.setTop (mkF m 31 #[.val (.ref s1), .val (.ref o_101), .val (.int (4 : Int32)), .val (.int (2 : Int32)), .val (.ref w_UsageKind_DATA)] [])) _
    refine XS.aload X135.here hx rfl (hb hby d7_31) rfl rfl ?_
    show Steps p.tables e below (T135.setTop (mkF m 33 #[.val (.ref s1), .val (.ref o_101), .val (.int (4 : Int32)), .val (.int (2 : Int32)), .val (.ref w_UsageKind_DATA)] [(.ref w_UsageKind_DATA)])) _
    exact Jvm.RoadKit.retOut X135 hx Bd.returns rfl (Or.inr (Or.inr (Or.inr (Or.inr ⟨rfl, rfl, rfl⟩)))) (hb hby d7_33) hr
  · show Q_rn2 Z s1 t1 k1 n1 vs1 w_UsageKind_SMS w_UsageKind_CALL w_UsageKind_DATA w_UsageKind__VALUES w_UsageKind_LOCAL_DATA w_UsageKind_SMS_written w_UsageKind_CALL_written w_UsageKind_DATA_written w_UsageKind_SMS_written_value w_UsageKind_CALL_written_value w_UsageKind_DATA_written_value k_w_UsageKind__VALUES k_w_UsageKind_SMS_written_value k_w_UsageKind_CALL_written_value k_w_UsageKind_DATA_written_value zc h0 n0 _ T135.heap _
    rw [e135]
    unfold Q_rn2
    exact ⟨rfl, N135, K136⟩
theorem ef_rn3 (m : MethodId) (x0 : Addr) : entryFrame m #[(.ref x0)] 5 = mkF m 0 #[.val (.ref x0), .unset, .unset, .unset, .unset] [] := by first | (simp [entryFrame, mkF, argsToLocals, Value.category]; done) | rfl
def Q_rn3 (Z : State) (s1 : Addr) (t1 : Addr) (k1 : ClassId) (n1 : Int32) (vs1 : List Value) (w_UsageKind_SMS : Addr) (w_UsageKind_CALL : Addr) (w_UsageKind_DATA : Addr) (w_UsageKind__VALUES : Addr) (w_UsageKind_LOCAL_DATA : Addr) (w_UsageKind_SMS_written : Addr) (w_UsageKind_CALL_written : Addr) (w_UsageKind_DATA_written : Addr) (w_UsageKind_LOCAL_DATA_written : Addr) (w_UsageKind_SMS_written_value : Addr) (w_UsageKind_CALL_written_value : Addr) (w_UsageKind_DATA_written_value : Addr) (w_UsageKind_LOCAL_DATA_written_value : Addr) (k_w_UsageKind__VALUES : ClassId) (k_w_UsageKind_SMS_written_value : ClassId) (k_w_UsageKind_CALL_written_value : ClassId) (k_w_UsageKind_DATA_written_value : ClassId) (k_w_UsageKind_LOCAL_DATA_written_value : ClassId) (zc : Int32) (h0 : Heap) (n0 : Nat) (v : Option Value) (h : Heap) (L : List Loc) : Prop := (v = some (.ref w_UsageKind_LOCAL_DATA)) ∧ (Fr n0 L) ∧ (Keep h0 h [])
set_option maxRecDepth 65536 in
set_option maxHeartbeats 40000000 in
theorem rn3 (l : Launch) (Z : State) (a0 : Array Value) (hw : ∀ d ∈ tables_1, d.before a0 Z = true) (ws : List Jvm.Cond) (s1 : Addr) (t1 : Addr) (k1 : ClassId) (n1 : Int32) (vs1 : List Value) (w_UsageKind_SMS : Addr) (w_UsageKind_CALL : Addr) (w_UsageKind_DATA : Addr) (w_UsageKind__VALUES : Addr) (w_UsageKind_LOCAL_DATA : Addr) (w_UsageKind_SMS_written : Addr) (w_UsageKind_CALL_written : Addr) (w_UsageKind_DATA_written : Addr) (w_UsageKind_LOCAL_DATA_written : Addr) (w_UsageKind_SMS_written_value : Addr) (w_UsageKind_CALL_written_value : Addr) (w_UsageKind_DATA_written_value : Addr) (w_UsageKind_LOCAL_DATA_written_value : Addr) (k_w_UsageKind__VALUES : ClassId) (k_w_UsageKind_SMS_written_value : ClassId) (k_w_UsageKind_CALL_written_value : ClassId) (k_w_UsageKind_DATA_written_value : ClassId) (k_w_UsageKind_LOCAL_DATA_written_value : ClassId) (zc : Int32) (h0 : Heap) (n0 : Nat) (O0 : Old Z n0 h0) (E1 : Exa Z h0 s1 "java/lang/String") (V1 : Fld Z h0 s1 "java/lang/String" "value" "[B" (.ref t1)) (C1 : Fld Z h0 s1 "java/lang/String" "coder" "B" (.int (0 : Int32))) (A1 : Arv Z h0 t1 k1 .byte n1 vs1 (.int 0)) (S1 : OwnStr [(108 : Int32), (111 : Int32), (99 : Int32), (97 : Int32), (108 : Int32), (45 : Int32), (100 : Int32), (97 : Int32), (116 : Int32), (97 : Int32)] n1 vs1) (E_w_UsageKind_SMS : Exa Z Z.heap w_UsageKind_SMS "com/example/bill_run/billrun/UsageKind") (E_w_UsageKind_CALL : Exa Z Z.heap w_UsageKind_CALL "com/example/bill_run/billrun/UsageKind") (E_w_UsageKind_DATA : Exa Z Z.heap w_UsageKind_DATA "com/example/bill_run/billrun/UsageKind") (S_UsageKind__VALUES : Sta Z Z.heap "com/example/bill_run/billrun/UsageKind" "$VALUES" "[Lcom/example/bill_run/billrun/UsageKind;" (.ref w_UsageKind__VALUES)) (E_w_UsageKind__VALUES : Exa Z Z.heap w_UsageKind__VALUES "[Lcom/example/bill_run/billrun/UsageKind;") (E_w_UsageKind_LOCAL_DATA : Exa Z Z.heap w_UsageKind_LOCAL_DATA "com/example/bill_run/billrun/UsageKind") (V_w_UsageKind__VALUES : Arv Z Z.heap w_UsageKind__VALUES k_w_UsageKind__VALUES (.object "com/example/bill_run/billrun/UsageKind") (4 : Int32) [(.ref w_UsageKind_CALL), (.ref w_UsageKind_SMS), (.ref w_UsageKind_DATA), (.ref w_UsageKind_LOCAL_DATA)] .null) (F_w_UsageKind_SMS_written : Fld Z Z.heap w_UsageKind_SMS "com/example/bill_run/billrun/UsageKind" "written" "Ljava/lang/String;" (.ref w_UsageKind_SMS_written)) (E_w_UsageKind_SMS_written : Exa Z Z.heap w_UsageKind_SMS_written "java/lang/String") (F_w_UsageKind_CALL_written : Fld Z Z.heap w_UsageKind_CALL "com/example/bill_run/billrun/UsageKind" "written" "Ljava/lang/String;" (.ref w_UsageKind_CALL_written)) (E_w_UsageKind_CALL_written : Exa Z Z.heap w_UsageKind_CALL_written "java/lang/String") (F_w_UsageKind_DATA_written : Fld Z Z.heap w_UsageKind_DATA "com/example/bill_run/billrun/UsageKind" "written" "Ljava/lang/String;" (.ref w_UsageKind_DATA_written)) (E_w_UsageKind_DATA_written : Exa Z Z.heap w_UsageKind_DATA_written "java/lang/String") (F_w_UsageKind_LOCAL_DATA_written : Fld Z Z.heap w_UsageKind_LOCAL_DATA "com/example/bill_run/billrun/UsageKind" "written" "Ljava/lang/String;" (.ref w_UsageKind_LOCAL_DATA_written)) (E_w_UsageKind_LOCAL_DATA_written : Exa Z Z.heap w_UsageKind_LOCAL_DATA_written "java/lang/String") (F_w_UsageKind_SMS_written_value : Fld Z Z.heap w_UsageKind_SMS_written "java/lang/String" "value" "[B" (.ref w_UsageKind_SMS_written_value)) (F_w_UsageKind_CALL_written_value : Fld Z Z.heap w_UsageKind_CALL_written "java/lang/String" "value" "[B" (.ref w_UsageKind_CALL_written_value)) (F_w_UsageKind_DATA_written_value : Fld Z Z.heap w_UsageKind_DATA_written "java/lang/String" "value" "[B" (.ref w_UsageKind_DATA_written_value)) (F_w_UsageKind_LOCAL_DATA_written_value : Fld Z Z.heap w_UsageKind_LOCAL_DATA_written "java/lang/String" "value" "[B" (.ref w_UsageKind_LOCAL_DATA_written_value)) (F_w_UsageKind_CALL_written_coder : Fld Z Z.heap w_UsageKind_CALL_written "java/lang/String" "coder" "B" (.int (0 : Int32))) (F_w_UsageKind_SMS_written_coder : Fld Z Z.heap w_UsageKind_SMS_written "java/lang/String" "coder" "B" (.int (0 : Int32))) (F_w_UsageKind_DATA_written_coder : Fld Z Z.heap w_UsageKind_DATA_written "java/lang/String" "coder" "B" (.int (0 : Int32))) (F_w_UsageKind_LOCAL_DATA_written_coder : Fld Z Z.heap w_UsageKind_LOCAL_DATA_written "java/lang/String" "coder" "B" (.int (0 : Int32))) (V_w_UsageKind_SMS_written_value : Arv Z Z.heap w_UsageKind_SMS_written_value k_w_UsageKind_SMS_written_value .byte (3 : Int32) [(.int (115 : Int32)), (.int (109 : Int32)), (.int (115 : Int32))] (.int (0 : Int32))) (V_w_UsageKind_CALL_written_value : Arv Z Z.heap w_UsageKind_CALL_written_value k_w_UsageKind_CALL_written_value .byte (4 : Int32) [(.int (99 : Int32)), (.int (97 : Int32)), (.int (108 : Int32)), (.int (108 : Int32))] (.int (0 : Int32))) (V_w_UsageKind_DATA_written_value : Arv Z Z.heap w_UsageKind_DATA_written_value k_w_UsageKind_DATA_written_value .byte (4 : Int32) [(.int (100 : Int32)), (.int (97 : Int32)), (.int (116 : Int32)), (.int (97 : Int32))] (.int (0 : Int32))) (V_w_UsageKind_LOCAL_DATA_written_value : Arv Z Z.heap w_UsageKind_LOCAL_DATA_written_value k_w_UsageKind_LOCAL_DATA_written_value .byte (10 : Int32) [(.int (108 : Int32)), (.int (111 : Int32)), (.int (99 : Int32)), (.int (97 : Int32)), (.int (108 : Int32)), (.int (45 : Int32)), (.int (100 : Int32)), (.int (97 : Int32)), (.int (116 : Int32)), (.int (97 : Int32))] (.int (0 : Int32))) (SZ : Sta Z Z.heap "java/lang/String" "COMPACT_STRINGS" "Z" (.int zc)) (PZ : ¬ (zc = (0 : Int32))) :
    MetFree l (⟨"com/example/bill_run/billrun/UsageKind", "named", "(Ljava/lang/String;)Lcom/example/bill_run/billrun/UsageKind;"⟩ : MethodName) (head1 (Jvm.Cond.code (⟨"com/example/bill_run/billrun/UsageKind", "named", "(Ljava/lang/String;)Lcom/example/bill_run/billrun/UsageKind;"⟩ : MethodName) prog_46_method_4_code 5 (some (.object "com/example/bill_run/billrun/UsageKind")) :: ws) ({ frames := 2, cells := 1, slots := 4, locals := 28 } : Room)) (fun a U => a = #[(.ref s1)] ∧ Z.Warmed39 U.vm ∧ U.heap = h0) (fun _ _ _ _ _ => True) (fun _ U o U' => ∃ v L, o = .returned v ∧ Q_rn3 Z s1 t1 k1 n1 vs1 w_UsageKind_SMS w_UsageKind_CALL w_UsageKind_DATA w_UsageKind__VALUES w_UsageKind_LOCAL_DATA w_UsageKind_SMS_written w_UsageKind_CALL_written w_UsageKind_DATA_written w_UsageKind_LOCAL_DATA_written w_UsageKind_SMS_written_value w_UsageKind_CALL_written_value w_UsageKind_DATA_written_value w_UsageKind_LOCAL_DATA_written_value k_w_UsageKind__VALUES k_w_UsageKind_SMS_written_value k_w_UsageKind_CALL_written_value k_w_UsageKind_DATA_written_value k_w_UsageKind_LOCAL_DATA_written_value zc h0 n0 v U'.heap L ∧ FrameEnd U o U' L ({ frames := 2, cells := 1, slots := 4, locals := 28 } : Room).cells ({ frames := 2, cells := 1, slots := 4, locals := 28 } : Room).slots) := by
  refine MetFree.of_bodySF (plainFor_of_name pn_0) hisR ?_
  intro p e s m args below meth c s₁ Bd hml0 hP hK
  obtain ⟨rfl, hZ, hh⟩ := hP
  have hx := Bd.exec
  have hby := Bd.bytes
  have hml : c.maxLocals = 5 := hml0
  have hown : s.vm.findClass "com/example/bill_run/billrun/UsageKind" = some m.cls := findClass_of_methodNamed Bd.named
  have hnm := (name_of_methodNamed Bd.named Bd.method).1
  have X0 : Stand p l e ({ frames := 2, cells := 1, slots := 4, locals := 28 } : Room) s m #[(.ref s1)] below meth c s₁ [] 0 0 := Stand.of_body Bd
  have e0 : s₁.heap = h0 := by rw [← hh, Bd.state]; rfl
  have N0 := Fr.nil n0
  have Z0 : n0 ≤ h0.size := old_le O0
  have pre0 : ∀ t, Steps p.tables e below (s₁.setTop (mkF m 0 #[.val (.ref s1), .unset, .unset, .unset, .unset] [])) t → Steps p.tables e below (s₁.setTop (entryFrame m #[(.ref s1)] 5)) t := fun t k => castTop (ef_rn3 m s1) k
  obtain ⟨_, _, ⟨T101, L101, k101, n101⟩, -, X101, ⟨Lc101, hQ101, l101, y101, z101⟩, st101⟩ := Jvm.LawKit.callS X0 hx (y := (⟨"com/example/bill_run/billrun/UsageKind", "values", "()[Lcom/example/bill_run/billrun/UsageKind;"⟩ : MethodName)) hown (mvT hZ (hwk hw 39 rfl)) (mvT hZ (hwk hw 40 rfl)) (mvT hZ (hwk hw 1 rfl)) (mvT hZ (hwk hw 41 rfl)) (by decide) (backOf (W := 0) (rm8 l Z a0 hw [] w_UsageKind_SMS w_UsageKind_CALL w_UsageKind_DATA w_UsageKind__VALUES w_UsageKind_LOCAL_DATA k_w_UsageKind__VALUES h0 n0 O0 S_UsageKind__VALUES E_w_UsageKind__VALUES V_w_UsageKind__VALUES) hZ (hwk hw 41 rfl) (hwk hw 1 rfl) (by decide) (by decide)) (g := (mkF m 0 #[.val (.ref s1), .unset, .unset, .unset, .unset] [])) rfl (by rw [hml]; rfl) (argsL := []) (rest := []) (lenOf pd_0 rfl) rfl (by show 2 * 0 + _ ≤ _; exact Nat.le_of_eq rfl) (hb hby d7_0) (fun _ _ => ⟨rfl, e0, (by decide : 0 + 1 ≤ _), (by decide : 0 + 4 ≤ _)⟩)
  dsimp only [Pt.U, Pt.locs, Pt.cells, Pt.slots] at X101 l101 y101 z101 st101 hQ101
  subst l101 y101 z101
  unfold Q_rm8 at hQ101
  obtain ⟨o_101, rfl, N101q, K101, ge_o_101, f101_0⟩ := hQ101
  have N101 := Fr.app N0 N101q
  have g_o_101 : n0 ≤ o_101 := Nat.le_trans (old_le O0) ge_o_101
  obtain ⟨cl102, Ar102, -, Sz102, Nn102, -, -⟩ := id f101_0
  obtain ⟨clq103, Arq103, kqq103, Szq103, Nnq103, Hsq103, Gsq103⟩ := id f101_0
  have hinq103 : ¬ ((0 : Int32) < 0 ∨ clq103.slots.size ≤ ((0 : Int32)).toNatClampNeg) := inb_of Szq103 ⟨by decide, by decide⟩
  have O105 : Old Z n0 T101.heap := Old.keep O0 K101 all0
  have c104 : Fld Z T101.heap w_UsageKind_CALL "com/example/bill_run/billrun/UsageKind" "written" "Ljava/lang/String;" (.ref w_UsageKind_CALL_written) := Fld.ext (O105).2 F_w_UsageKind_CALL_written
  obtain ⟨T106, X106, e106, st106⟩ := getF X101 hx hZ hown (host := "") (Or.inl (hwk hw 57 rfl)) Via.refl (rfl : T101.heap = T101.heap) c104 (g := (mkF m 21 #[.val (.ref s1), .val (.ref o_101), .val (.int (4 : Int32)), .val (.int (0 : Int32)), .val (.ref w_UsageKind_CALL)] [(.ref w_UsageKind_CALL)])) rfl rfl (hb hby d7_21)
  have hws107 : ∀ d ∈ StrChars.Road.wordsEq, d.before a0 Z = true := fun d hd => hw d ((by decide +kernel : ∀ d ∈ StrChars.Road.wordsEq, d ∈ tables_1) d hd)
  have c108 : Exa Z T101.heap w_UsageKind_CALL_written "java/lang/String" := Exa.ext (O105).2 E_w_UsageKind_CALL_written
  have c109 : Fld Z T101.heap w_UsageKind_CALL_written "java/lang/String" "value" "[B" (.ref w_UsageKind_CALL_written_value) := Fld.ext (O105).2 F_w_UsageKind_CALL_written_value
  have c110 : Fld Z T101.heap w_UsageKind_CALL_written "java/lang/String" "coder" "B" (.int (0 : Int32)) := Fld.ext (O105).2 F_w_UsageKind_CALL_written_coder
  have c111 : Arv Z T101.heap w_UsageKind_CALL_written_value k_w_UsageKind_CALL_written_value .byte (4 : Int32) [(.int (99 : Int32)), (.int (97 : Int32)), (.int (108 : Int32)), (.int (108 : Int32))] (.int (0 : Int32)) := V_w_UsageKind_CALL_written_value.ext O105.2
  have c112 : Exa Z T101.heap s1 "java/lang/String" := (Exa.keep E1 K101)
  have c113 : Fld Z T101.heap s1 "java/lang/String" "value" "[B" (.ref t1) := (Fld.keep V1 K101 nin0)
  have c114 : Fld Z T101.heap s1 "java/lang/String" "coder" "B" (.int (0 : Int32)) := (Fld.keep C1 K101 nin0)
  have c115 : Arv Z T101.heap t1 k1 .byte n1 vs1 (.int 0) := (Arv.keep A1 K101 nin0)
  have c116 : Sta Z T101.heap "java/lang/String" "COMPACT_STRINGS" "Z" (.int zc) := Sta.ext (O105).2 SZ
  obtain ⟨cq117, kq117, q117a, q117b, q117c⟩ := isOf hZ e106 c108
  obtain ⟨_, _, ⟨T117, L117, k117, n117⟩, -, X117, ⟨Lc117, hQ117, l117, y117, z117⟩, st117⟩ := X106.virtualBack hx (y := (⟨"java/lang/String", "equals", "(Ljava/lang/Object;)Z"⟩ : MethodName)) (z := (⟨"java/lang/String", "equals", "(Ljava/lang/Object;)Z"⟩ : MethodName)) hown (mvT hZ (hwk hw 59 rfl)) (mvT hZ (hwk hw 60 rfl)) (notFace_of_selects (args := #[]) (mvT hZ (hwk hw 62 rfl))) (mvT hZ (hwk hw 62 rfl)) (mvT hZ (hwk hw 61 rfl)) (by decide) (StrChars.Road.eqW (W := 0) hZ hws107 (kI := 4) (hwk hw 5 rfl) c108 c109 c110 c111 own_os0.1 own_os0.2.1 own_os0.2.2 c112 c113 c114 c115 S1.1 S1.2.1 S1.2.2 c116 PZ (by decide) (by decide)) q117a q117c (g := (mkF m 25 #[.val (.ref s1), .val (.ref o_101), .val (.int (4 : Int32)), .val (.int (0 : Int32)), .val (.ref w_UsageKind_CALL)] [(.ref s1), (.ref w_UsageKind_CALL_written)])) rfl (by rw [hml]; rfl) (Steps.refl _) (argsL := [(.ref s1)]) (rest := []) (lenOf pd_1 rfl) rfl (by show 2 * 0 + _ ≤ _; exact Nat.le_of_eq rfl) (hb hby d7_25) (fun _ _ => ⟨rfl, e106, (by decide : 1 + 0 ≤ _), (by decide : 4 + 0 ≤ _)⟩)
  dsimp only [Pt.U, Pt.locs, Pt.cells, Pt.slots] at X117 l117 y117 z117 st117 hQ117
  subst l117 y117 z117
  obtain ⟨hv117, hl117, e117⟩ := hQ117
  cases own_vm hv117
  have N117 := Fr.app N101 (own_frnil hl117)
  obtain ⟨clq118, Arq118, kqq118, Szq118, Nnq118, Hsq118, Gsq118⟩ := id f101_0
  have hinq118 : ¬ ((1 : Int32) < 0 ∨ clq118.slots.size ≤ ((1 : Int32)).toNatClampNeg) := inb_of Szq118 ⟨by decide, by decide⟩
  have c119 : Fld Z T101.heap w_UsageKind_SMS "com/example/bill_run/billrun/UsageKind" "written" "Ljava/lang/String;" (.ref w_UsageKind_SMS_written) := Fld.ext (O105).2 F_w_UsageKind_SMS_written
  obtain ⟨T120, X120, e120, st120⟩ := getF X117 hx hZ hown (host := "") (Or.inl (hwk hw 57 rfl)) Via.refl e117 c119 (g := (mkF m 21 #[.val (.ref s1), .val (.ref o_101), .val (.int (4 : Int32)), .val (.int (1 : Int32)), .val (.ref w_UsageKind_SMS)] [(.ref w_UsageKind_SMS)])) rfl rfl (hb hby d7_21)
  have hws121 : ∀ d ∈ StrChars.Road.wordsEq, d.before a0 Z = true := fun d hd => hw d ((by decide +kernel : ∀ d ∈ StrChars.Road.wordsEq, d ∈ tables_1) d hd)
  have c122 : Exa Z T101.heap w_UsageKind_SMS_written "java/lang/String" := Exa.ext (O105).2 E_w_UsageKind_SMS_written
  have c123 : Fld Z T101.heap w_UsageKind_SMS_written "java/lang/String" "value" "[B" (.ref w_UsageKind_SMS_written_value) := Fld.ext (O105).2 F_w_UsageKind_SMS_written_value
  have c124 : Fld Z T101.heap w_UsageKind_SMS_written "java/lang/String" "coder" "B" (.int (0 : Int32)) := Fld.ext (O105).2 F_w_UsageKind_SMS_written_coder
  have c125 : Arv Z T101.heap w_UsageKind_SMS_written_value k_w_UsageKind_SMS_written_value .byte (3 : Int32) [(.int (115 : Int32)), (.int (109 : Int32)), (.int (115 : Int32))] (.int (0 : Int32)) := V_w_UsageKind_SMS_written_value.ext O105.2
  obtain ⟨cq126, kq126, q126a, q126b, q126c⟩ := isOf hZ e120 c122
  obtain ⟨_, _, ⟨T126, L126, k126, n126⟩, -, X126, ⟨Lc126, hQ126, l126, y126, z126⟩, st126⟩ := X120.virtualBack hx (y := (⟨"java/lang/String", "equals", "(Ljava/lang/Object;)Z"⟩ : MethodName)) (z := (⟨"java/lang/String", "equals", "(Ljava/lang/Object;)Z"⟩ : MethodName)) hown (mvT hZ (hwk hw 59 rfl)) (mvT hZ (hwk hw 60 rfl)) (notFace_of_selects (args := #[]) (mvT hZ (hwk hw 62 rfl))) (mvT hZ (hwk hw 62 rfl)) (mvT hZ (hwk hw 61 rfl)) (by decide) (StrChars.Road.eqW (W := 0) hZ hws121 (kI := 4) (hwk hw 5 rfl) c122 c123 c124 c125 own_os1.1 own_os1.2.1 own_os1.2.2 c112 c113 c114 c115 S1.1 S1.2.1 S1.2.2 c116 PZ (by decide) (by decide)) q126a q126c (g := (mkF m 25 #[.val (.ref s1), .val (.ref o_101), .val (.int (4 : Int32)), .val (.int (1 : Int32)), .val (.ref w_UsageKind_SMS)] [(.ref s1), (.ref w_UsageKind_SMS_written)])) rfl (by rw [hml]; rfl) (Steps.refl _) (argsL := [(.ref s1)]) (rest := []) (lenOf pd_1 rfl) rfl (by show 2 * 0 + _ ≤ _; exact Nat.le_of_eq rfl) (hb hby d7_25) (fun _ _ => ⟨rfl, e120, (by decide : 1 + 0 ≤ _), (by decide : 4 + 0 ≤ _)⟩)
  dsimp only [Pt.U, Pt.locs, Pt.cells, Pt.slots] at X126 l126 y126 z126 st126 hQ126
  subst l126 y126 z126
  obtain ⟨hv126, hl126, e126⟩ := hQ126
  cases own_vm hv126
  have N126 := Fr.app N117 (own_frnil hl126)
  obtain ⟨clq127, Arq127, kqq127, Szq127, Nnq127, Hsq127, Gsq127⟩ := id f101_0
  have hinq127 : ¬ ((2 : Int32) < 0 ∨ clq127.slots.size ≤ ((2 : Int32)).toNatClampNeg) := inb_of Szq127 ⟨by decide, by decide⟩
  have c128 : Fld Z T101.heap w_UsageKind_DATA "com/example/bill_run/billrun/UsageKind" "written" "Ljava/lang/String;" (.ref w_UsageKind_DATA_written) := Fld.ext (O105).2 F_w_UsageKind_DATA_written
  obtain ⟨T129, X129, e129, st129⟩ := getF X126 hx hZ hown (host := "") (Or.inl (hwk hw 57 rfl)) Via.refl e126 c128 (g := (mkF m 21 #[.val (.ref s1), .val (.ref o_101), .val (.int (4 : Int32)), .val (.int (2 : Int32)), .val (.ref w_UsageKind_DATA)] [(.ref w_UsageKind_DATA)])) rfl rfl (hb hby d7_21)
  have hws130 : ∀ d ∈ StrChars.Road.wordsEq, d.before a0 Z = true := fun d hd => hw d ((by decide +kernel : ∀ d ∈ StrChars.Road.wordsEq, d ∈ tables_1) d hd)
  have c131 : Exa Z T101.heap w_UsageKind_DATA_written "java/lang/String" := Exa.ext (O105).2 E_w_UsageKind_DATA_written
  have c132 : Fld Z T101.heap w_UsageKind_DATA_written "java/lang/String" "value" "[B" (.ref w_UsageKind_DATA_written_value) := Fld.ext (O105).2 F_w_UsageKind_DATA_written_value
  have c133 : Fld Z T101.heap w_UsageKind_DATA_written "java/lang/String" "coder" "B" (.int (0 : Int32)) := Fld.ext (O105).2 F_w_UsageKind_DATA_written_coder
  have c134 : Arv Z T101.heap w_UsageKind_DATA_written_value k_w_UsageKind_DATA_written_value .byte (4 : Int32) [(.int (100 : Int32)), (.int (97 : Int32)), (.int (116 : Int32)), (.int (97 : Int32))] (.int (0 : Int32)) := V_w_UsageKind_DATA_written_value.ext O105.2
  obtain ⟨cq135, kq135, q135a, q135b, q135c⟩ := isOf hZ e129 c131
  obtain ⟨_, _, ⟨T135, L135, k135, n135⟩, -, X135, ⟨Lc135, hQ135, l135, y135, z135⟩, st135⟩ := X129.virtualBack hx (y := (⟨"java/lang/String", "equals", "(Ljava/lang/Object;)Z"⟩ : MethodName)) (z := (⟨"java/lang/String", "equals", "(Ljava/lang/Object;)Z"⟩ : MethodName)) hown (mvT hZ (hwk hw 59 rfl)) (mvT hZ (hwk hw 60 rfl)) (notFace_of_selects (args := #[]) (mvT hZ (hwk hw 62 rfl))) (mvT hZ (hwk hw 62 rfl)) (mvT hZ (hwk hw 61 rfl)) (by decide) (StrChars.Road.eqW (W := 0) hZ hws130 (kI := 4) (hwk hw 5 rfl) c131 c132 c133 c134 own_os2.1 own_os2.2.1 own_os2.2.2 c112 c113 c114 c115 S1.1 S1.2.1 S1.2.2 c116 PZ (by decide) (by decide)) q135a q135c (g := (mkF m 25 #[.val (.ref s1), .val (.ref o_101), .val (.int (4 : Int32)), .val (.int (2 : Int32)), .val (.ref w_UsageKind_DATA)] [(.ref s1), (.ref w_UsageKind_DATA_written)])) rfl (by rw [hml]; rfl) (Steps.refl _) (argsL := [(.ref s1)]) (rest := []) (lenOf pd_1 rfl) rfl (by show 2 * 0 + _ ≤ _; exact Nat.le_of_eq rfl) (hb hby d7_25) (fun _ _ => ⟨rfl, e129, (by decide : 1 + 0 ≤ _), (by decide : 4 + 0 ≤ _)⟩)
  dsimp only [Pt.U, Pt.locs, Pt.cells, Pt.slots] at X135 l135 y135 z135 st135 hQ135
  subst l135 y135 z135
  obtain ⟨hv135, hl135, e135⟩ := hQ135
  cases own_vm hv135
  have N135 := Fr.app N126 (own_frnil hl135)
  obtain ⟨clq136, Arq136, kqq136, Szq136, Nnq136, Hsq136, Gsq136⟩ := id f101_0
  have hinq136 : ¬ ((3 : Int32) < 0 ∨ clq136.slots.size ≤ ((3 : Int32)).toNatClampNeg) := inb_of Szq136 ⟨by decide, by decide⟩
  have c137 : Fld Z T101.heap w_UsageKind_LOCAL_DATA "com/example/bill_run/billrun/UsageKind" "written" "Ljava/lang/String;" (.ref w_UsageKind_LOCAL_DATA_written) := Fld.ext (O105).2 F_w_UsageKind_LOCAL_DATA_written
  obtain ⟨T138, X138, e138, st138⟩ := getF X135 hx hZ hown (host := "") (Or.inl (hwk hw 57 rfl)) Via.refl e135 c137 (g := (mkF m 21 #[.val (.ref s1), .val (.ref o_101), .val (.int (4 : Int32)), .val (.int (3 : Int32)), .val (.ref w_UsageKind_LOCAL_DATA)] [(.ref w_UsageKind_LOCAL_DATA)])) rfl rfl (hb hby d7_21)
  have hws139 : ∀ d ∈ StrChars.Road.wordsEq, d.before a0 Z = true := fun d hd => hw d ((by decide +kernel : ∀ d ∈ StrChars.Road.wordsEq, d ∈ tables_1) d hd)
  have c140 : Exa Z T101.heap w_UsageKind_LOCAL_DATA_written "java/lang/String" := Exa.ext (O105).2 E_w_UsageKind_LOCAL_DATA_written
  have c141 : Fld Z T101.heap w_UsageKind_LOCAL_DATA_written "java/lang/String" "value" "[B" (.ref w_UsageKind_LOCAL_DATA_written_value) := Fld.ext (O105).2 F_w_UsageKind_LOCAL_DATA_written_value
  have c142 : Fld Z T101.heap w_UsageKind_LOCAL_DATA_written "java/lang/String" "coder" "B" (.int (0 : Int32)) := Fld.ext (O105).2 F_w_UsageKind_LOCAL_DATA_written_coder
  have c143 : Arv Z T101.heap w_UsageKind_LOCAL_DATA_written_value k_w_UsageKind_LOCAL_DATA_written_value .byte (10 : Int32) [(.int (108 : Int32)), (.int (111 : Int32)), (.int (99 : Int32)), (.int (97 : Int32)), (.int (108 : Int32)), (.int (45 : Int32)), (.int (100 : Int32)), (.int (97 : Int32)), (.int (116 : Int32)), (.int (97 : Int32))] (.int (0 : Int32)) := V_w_UsageKind_LOCAL_DATA_written_value.ext O105.2
  obtain ⟨cq144, kq144, q144a, q144b, q144c⟩ := isOf hZ e138 c140
  obtain ⟨_, _, ⟨T144, L144, k144, n144⟩, -, X144, ⟨Lc144, hQ144, l144, y144, z144⟩, st144⟩ := X138.virtualBack hx (y := (⟨"java/lang/String", "equals", "(Ljava/lang/Object;)Z"⟩ : MethodName)) (z := (⟨"java/lang/String", "equals", "(Ljava/lang/Object;)Z"⟩ : MethodName)) hown (mvT hZ (hwk hw 59 rfl)) (mvT hZ (hwk hw 60 rfl)) (notFace_of_selects (args := #[]) (mvT hZ (hwk hw 62 rfl))) (mvT hZ (hwk hw 62 rfl)) (mvT hZ (hwk hw 61 rfl)) (by decide) (StrChars.Road.eqW (W := 0) hZ hws139 (kI := 4) (hwk hw 5 rfl) c140 c141 c142 c143 own_os3.1 own_os3.2.1 own_os3.2.2 c112 c113 c114 c115 S1.1 S1.2.1 S1.2.2 c116 PZ (by decide) (by decide)) q144a q144c (g := (mkF m 25 #[.val (.ref s1), .val (.ref o_101), .val (.int (4 : Int32)), .val (.int (3 : Int32)), .val (.ref w_UsageKind_LOCAL_DATA)] [(.ref s1), (.ref w_UsageKind_LOCAL_DATA_written)])) rfl (by rw [hml]; rfl) (Steps.refl _) (argsL := [(.ref s1)]) (rest := []) (lenOf pd_1 rfl) rfl (by show 2 * 0 + _ ≤ _; exact Nat.le_of_eq rfl) (hb hby d7_25) (fun _ _ => ⟨rfl, e138, (by decide : 1 + 0 ≤ _), (by decide : 4 + 0 ≤ _)⟩)
  dsimp only [Pt.U, Pt.locs, Pt.cells, Pt.slots] at X144 l144 y144 z144 st144 hQ144
  subst l144 y144 z144
  obtain ⟨hv144, hl144, e144⟩ := hQ144
  cases own_vm hv144
  have N144 := Fr.app N135 (own_frnil hl144)
  have K145 : Keep h0 T101.heap [] := Keep.trans (Keep.refl h0 []) K101 all0
  obtain ⟨fs, hr, hrun, hended, hW, hsame⟩ := X144.leave (v := some (.ref w_UsageKind_LOCAL_DATA)) (fun h => by rw [Bd.returns] at h; cases h)
  refine ⟨_, _, pre0 _ ?_, hrun, hended, _, _, rfl, ?_, ⟨_, rfl⟩, hW, hsame.mono (by decide) (by decide)⟩
  · show Steps p.tables e below (s₁.setTop (mkF m 0 #[.val (.ref s1), .unset, .unset, .unset, .unset] [])) _
    refine st101 _ ?_
    show Steps p.tables e below (T101.setTop (mkF m 3 #[.val (.ref s1), .unset, .unset, .unset, .unset] [(.ref o_101)])) _
    refine XS.astoreN X101.here hx rfl (hb hby d7_3) rfl rfl (l' := #[.val (.ref s1), .val (.ref o_101), .unset, .unset, .unset]) rfl ?_
    show Steps p.tables e below (T101.setTop (mkF m 4 #[.val (.ref s1), .val (.ref o_101), .unset, .unset, .unset] [])) _
    refine XS.aloadN X101.here hx rfl (hb hby d7_4) rfl rfl ?_
    show Steps p.tables e below (T101.setTop (mkF m 5 #[.val (.ref s1), .val (.ref o_101), .unset, .unset, .unset] [(.ref o_101)])) _
    refine X101.arraylength hx (by rw [(rfl : T101.heap = T101.heap)]; exact Ar102.1) (State.isArrayOf_alike hZ.alike Ar102.2.1) (g := (mkF m 5 #[.val (.ref s1), .val (.ref o_101), .unset, .unset, .unset] [(.ref o_101)])) rfl rfl (hb hby d7_5) _ ?_
    rw [len_of Sz102 Nn102]
    show Steps p.tables e below (T101.setTop (mkF m 6 #[.val (.ref s1), .val (.ref o_101), .unset, .unset, .unset] [(.int (4 : Int32))])) _
    refine XS.istoreN X101.here hx rfl (hb hby d7_6) rfl (l' := #[.val (.ref s1), .val (.ref o_101), .val (.int (4 : Int32)), .unset, .unset]) rfl ?_
    show Steps p.tables e below (T101.setTop (mkF m 7 #[.val (.ref s1), .val (.ref o_101), .val (.int (4 : Int32)), .unset, .unset] [])) _
    refine XS.iconst X101.here hx rfl (hb hby d7_7) ?_
    show Steps p.tables e below (T101.setTop (mkF m 8 #[.val (.ref s1), .val (.ref o_101), .val (.int (4 : Int32)), .unset, .unset] [(.int (0 : Int32))])) _
    refine XS.istoreN X101.here hx rfl (hb hby d7_8) rfl (l' := #[.val (.ref s1), .val (.ref o_101), .val (.int (4 : Int32)), .val (.int (0 : Int32)), .unset]) rfl ?_
    show Steps p.tables e below (T101.setTop (mkF m 9 #[.val (.ref s1), .val (.ref o_101), .val (.int (4 : Int32)), .val (.int (0 : Int32)), .unset] [])) _
    refine XS.iloadN X101.here hx rfl (hb hby d7_9) rfl ?_
    show Steps p.tables e below (T101.setTop (mkF m 10 #[.val (.ref s1), .val (.ref o_101), .val (.int (4 : Int32)), .val (.int (0 : Int32)), .unset] [(.int (0 : Int32))])) _
    refine XS.iloadN X101.here hx rfl (hb hby d7_10) rfl ?_
    show Steps p.tables e below (T101.setTop (mkF m 11 #[.val (.ref s1), .val (.ref o_101), .val (.int (4 : Int32)), .val (.int (0 : Int32)), .unset] [(.int (4 : Int32)), (.int (0 : Int32))])) _
    refine XS.icmpNo X101.here hx rfl (hb hby d7_11) rfl (tlt (by decide : (0 : Int32) < (4 : Int32))).2.1 ?_
    show Steps p.tables e below (T101.setTop (mkF m 14 #[.val (.ref s1), .val (.ref o_101), .val (.int (4 : Int32)), .val (.int (0 : Int32)), .unset] [])) _
    refine XS.aloadN X101.here hx rfl (hb hby d7_14) rfl rfl ?_
    show Steps p.tables e below (T101.setTop (mkF m 15 #[.val (.ref s1), .val (.ref o_101), .val (.int (4 : Int32)), .val (.int (0 : Int32)), .unset] [(.ref o_101)])) _
    refine XS.iloadN X101.here hx rfl (hb hby d7_15) rfl ?_
    show Steps p.tables e below (T101.setTop (mkF m 16 #[.val (.ref s1), .val (.ref o_101), .val (.int (4 : Int32)), .val (.int (0 : Int32)), .unset] [(.int (0 : Int32)), (.ref o_101)])) _
    refine X101.aaload hx (j := (0 : Int32)) (v := (.ref w_UsageKind_CALL)) (by rw [(rfl : T101.heap = T101.heap)]; exact Arq103.1) (State.isArrayOf_alike hZ.alike Arq103.2.1) rfl Arq103.2.2 hinq103 (Has.at Hsq103 hinq103 rfl) (g := (mkF m 16 #[.val (.ref s1), .val (.ref o_101), .val (.int (4 : Int32)), .val (.int (0 : Int32)), .unset] [(.int (0 : Int32)), (.ref o_101)])) rfl rfl (hb hby d7_16) _ ?_
    show Steps p.tables e below (T101.setTop (mkF m 17 #[.val (.ref s1), .val (.ref o_101), .val (.int (4 : Int32)), .val (.int (0 : Int32)), .unset] [(.ref w_UsageKind_CALL)])) _
    refine XS.astore X101.here hx rfl (hb hby d7_17) rfl rfl (l' := #[.val (.ref s1), .val (.ref o_101), .val (.int (4 : Int32)), .val (.int (0 : Int32)), .val (.ref w_UsageKind_CALL)]) rfl ?_
    show Steps p.tables e below (T101.setTop (mkF m 19 #[.val (.ref s1), .val (.ref o_101), .val (.int (4 : Int32)), .val (.int (0 : Int32)), .val (.ref w_UsageKind_CALL)] [])) _
    refine XS.aload X101.here hx rfl (hb hby d7_19) rfl rfl ?_
    show Steps p.tables e below (T101.setTop (mkF m 21 #[.val (.ref s1), .val (.ref o_101), .val (.int (4 : Int32)), .val (.int (0 : Int32)), .val (.ref w_UsageKind_CALL)] [(.ref w_UsageKind_CALL)])) _
    refine st106 _ ?_
    show Steps p.tables e below (T106.setTop (mkF m 24 #[.val (.ref s1), .val (.ref o_101), .val (.int (4 : Int32)), .val (.int (0 : Int32)), .val (.ref w_UsageKind_CALL)] [(.ref w_UsageKind_CALL_written)])) _
    refine XS.aloadN X106.here hx rfl (hb hby d7_24) rfl rfl ?_
    show Steps p.tables e below (T106.setTop (mkF m 25 #[.val (.ref s1), .val (.ref o_101), .val (.int (4 : Int32)), .val (.int (0 : Int32)), .val (.ref w_UsageKind_CALL)] [(.ref s1), (.ref w_UsageKind_CALL_written)])) _
    refine st117.trans ?_
    show Steps p.tables e below (T117.setTop (mkF m 28 #[.val (.ref s1), .val (.ref o_101), .val (.int (4 : Int32)), .val (.int (0 : Int32)), .val (.ref w_UsageKind_CALL)] [(.int (VM [(99 : Int32), (97 : Int32), (108 : Int32), (108 : Int32)] [(108 : Int32), (111 : Int32), (99 : Int32), (97 : Int32), (108 : Int32), (45 : Int32), (100 : Int32), (97 : Int32), (116 : Int32), (97 : Int32)]))])) _
    refine XS.ifYes X117.here hx rfl (pc0 := 28) (pc' := 34) rfl (hb hby d7_28) rfl ((if0 _ _).trans (teq ((by decide) : (VM [(99 : Int32), (97 : Int32), (108 : Int32), (108 : Int32)] [(108 : Int32), (111 : Int32), (99 : Int32), (97 : Int32), (108 : Int32), (45 : Int32), (100 : Int32), (97 : Int32), (116 : Int32), (97 : Int32)]) = (0 : Int32))).1) (by decide) (by decide) ?_
    show Steps p.tables e below (T117.setTop (mkF m 34 #[.val (.ref s1), .val (.ref o_101), .val (.int (4 : Int32)), .val (.int (0 : Int32)), .val (.ref w_UsageKind_CALL)] [])) _
    refine XS.iinc X117.here hx rfl (hb hby d7_34) rfl (l' := #[.val (.ref s1), .val (.ref o_101), .val (.int (4 : Int32)), .val (.int ((0 : Int32) + (1 : Int32))), .val (.ref w_UsageKind_CALL)]) rfl ?_
    show Steps p.tables e below (T117.setTop (mkF m 37 #[.val (.ref s1), .val (.ref o_101), .val (.int (4 : Int32)), .val (.int ((0 : Int32) + (1 : Int32))), .val (.ref w_UsageKind_CALL)] [])) _
    rw [show ((0 : Int32) + (1 : Int32)) = (1 : Int32) from by decide]
    show Steps p.tables e below (T117.setTop (mkF m 37 #[.val (.ref s1), .val (.ref o_101), .val (.int (4 : Int32)), .val (.int (1 : Int32)), .val (.ref w_UsageKind_CALL)] [])) _
    refine XS.goto X117.here hx rfl (pc0 := 37) (pc' := 9) rfl (hb hby d7_37) (by decide) (by decide) ?_
    show Steps p.tables e below (T117.setTop (mkF m 9 #[.val (.ref s1), .val (.ref o_101), .val (.int (4 : Int32)), .val (.int (1 : Int32)), .val (.ref w_UsageKind_CALL)] [])) _
    refine XS.iloadN X117.here hx rfl (hb hby d7_9) rfl ?_
    show Steps p.tables e below (T117.setTop (mkF m 10 #[.val (.ref s1), .val (.ref o_101), .val (.int (4 : Int32)), .val (.int (1 : Int32)), .val (.ref w_UsageKind_CALL)] [(.int (1 : Int32))])) _
    refine XS.iloadN X117.here hx rfl (hb hby d7_10) rfl ?_
    show Steps p.tables e below (T117.setTop (mkF m 11 #[.val (.ref s1), .val (.ref o_101), .val (.int (4 : Int32)), .val (.int (1 : Int32)), .val (.ref w_UsageKind_CALL)] [(.int (4 : Int32)), (.int (1 : Int32))])) _
    refine XS.icmpNo X117.here hx rfl (hb hby d7_11) rfl (tlt (by decide : (1 : Int32) < (4 : Int32))).2.1 ?_
    show Steps p.tables e below (T117.setTop (mkF m 14 #[.val (.ref s1), .val (.ref o_101), .val (.int (4 : Int32)), .val (.int (1 : Int32)), .val (.ref w_UsageKind_CALL)] [])) _
    refine XS.aloadN X117.here hx rfl (hb hby d7_14) rfl rfl ?_
    show Steps p.tables e below (T117.setTop (mkF m 15 #[.val (.ref s1), .val (.ref o_101), .val (.int (4 : Int32)), .val (.int (1 : Int32)), .val (.ref w_UsageKind_CALL)] [(.ref o_101)])) _
    refine XS.iloadN X117.here hx rfl (hb hby d7_15) rfl ?_
    show Steps p.tables e below (T117.setTop (mkF m 16 #[.val (.ref s1), .val (.ref o_101), .val (.int (4 : Int32)), .val (.int (1 : Int32)), .val (.ref w_UsageKind_CALL)] [(.int (1 : Int32)), (.ref o_101)])) _
    refine X117.aaload hx (j := (1 : Int32)) (v := (.ref w_UsageKind_SMS)) (by rw [e117]; exact Arq118.1) (State.isArrayOf_alike hZ.alike Arq118.2.1) rfl Arq118.2.2 hinq118 (Has.at Hsq118 hinq118 rfl) (g := (mkF m 16 #[.val (.ref s1), .val (.ref o_101), .val (.int (4 : Int32)), .val (.int (1 : Int32)), .val (.ref w_UsageKind_CALL)] [(.int (1 : Int32)), (.ref o_101)])) rfl rfl (hb hby d7_16) _ ?_
    show Steps p.tables e below (T117.setTop (mkF m 17 #[.val (.ref s1), .val (.ref o_101), .val (.int (4 : Int32)), .val (.int (1 : Int32)), .val (.ref w_UsageKind_CALL)] [(.ref w_UsageKind_SMS)])) _
    refine XS.astore X117.here hx rfl (hb hby d7_17) rfl rfl (l' := #[.val (.ref s1), .val (.ref o_101), .val (.int (4 : Int32)), .val (.int (1 : Int32)), .val (.ref w_UsageKind_SMS)]) rfl ?_
    show Steps p.tables e below (T117.setTop (mkF m 19 #[.val (.ref s1), .val (.ref o_101), .val (.int (4 : Int32)), .val (.int (1 : Int32)), .val (.ref w_UsageKind_SMS)] [])) _
    refine XS.aload X117.here hx rfl (hb hby d7_19) rfl rfl ?_
    show Steps p.tables e below (T117.setTop (mkF m 21 #[.val (.ref s1), .val (.ref o_101), .val (.int (4 : Int32)), .val (.int (1 : Int32)), .val (.ref w_UsageKind_SMS)] [(.ref w_UsageKind_SMS)])) _
    refine st120 _ ?_
    show Steps p.tables e below (T120.setTop (mkF m 24 #[.val (.ref s1), .val (.ref o_101), .val (.int (4 : Int32)), .val (.int (1 : Int32)), .val (.ref w_UsageKind_SMS)] [(.ref w_UsageKind_SMS_written)])) _
    refine XS.aloadN X120.here hx rfl (hb hby d7_24) rfl rfl ?_
    show Steps p.tables e below (T120.setTop (mkF m 25 #[.val (.ref s1), .val (.ref o_101), .val (.int (4 : Int32)), .val (.int (1 : Int32)), .val (.ref w_UsageKind_SMS)] [(.ref s1), (.ref w_UsageKind_SMS_written)])) _
    refine st126.trans ?_
    show Steps p.tables e below (T126.setTop (mkF m 28 #[.val (.ref s1), .val (.ref o_101), .val (.int (4 : Int32)), .val (.int (1 : Int32)), .val (.ref w_UsageKind_SMS)] [(.int (VM [(115 : Int32), (109 : Int32), (115 : Int32)] [(108 : Int32), (111 : Int32), (99 : Int32), (97 : Int32), (108 : Int32), (45 : Int32), (100 : Int32), (97 : Int32), (116 : Int32), (97 : Int32)]))])) _
    refine XS.ifYes X126.here hx rfl (pc0 := 28) (pc' := 34) rfl (hb hby d7_28) rfl ((if0 _ _).trans (teq ((by decide) : (VM [(115 : Int32), (109 : Int32), (115 : Int32)] [(108 : Int32), (111 : Int32), (99 : Int32), (97 : Int32), (108 : Int32), (45 : Int32), (100 : Int32), (97 : Int32), (116 : Int32), (97 : Int32)]) = (0 : Int32))).1) (by decide) (by decide) ?_
    show Steps p.tables e below (T126.setTop (mkF m 34 #[.val (.ref s1), .val (.ref o_101), .val (.int (4 : Int32)), .val (.int (1 : Int32)), .val (.ref w_UsageKind_SMS)] [])) _
    refine XS.iinc X126.here hx rfl (hb hby d7_34) rfl (l' := #[.val (.ref s1), .val (.ref o_101), .val (.int (4 : Int32)), .val (.int ((1 : Int32) + (1 : Int32))), .val (.ref w_UsageKind_SMS)]) rfl ?_
    show Steps p.tables e below (T126.setTop (mkF m 37 #[.val (.ref s1), .val (.ref o_101), .val (.int (4 : Int32)), .val (.int ((1 : Int32) + (1 : Int32))), .val (.ref w_UsageKind_SMS)] [])) _
    rw [show ((1 : Int32) + (1 : Int32)) = (2 : Int32) from by decide]
    show Steps p.tables e below (T126.setTop (mkF m 37 #[.val (.ref s1), .val (.ref o_101), .val (.int (4 : Int32)), .val (.int (2 : Int32)), .val (.ref w_UsageKind_SMS)] [])) _
    refine XS.goto X126.here hx rfl (pc0 := 37) (pc' := 9) rfl (hb hby d7_37) (by decide) (by decide) ?_
    show Steps p.tables e below (T126.setTop (mkF m 9 #[.val (.ref s1), .val (.ref o_101), .val (.int (4 : Int32)), .val (.int (2 : Int32)), .val (.ref w_UsageKind_SMS)] [])) _
    refine XS.iloadN X126.here hx rfl (hb hby d7_9) rfl ?_
    show Steps p.tables e below (T126.setTop (mkF m 10 #[.val (.ref s1), .val (.ref o_101), .val (.int (4 : Int32)), .val (.int (2 : Int32)), .val (.ref w_UsageKind_SMS)] [(.int (2 : Int32))])) _
    refine XS.iloadN X126.here hx rfl (hb hby d7_10) rfl ?_
    show Steps p.tables e below (T126.setTop (mkF m 11 #[.val (.ref s1), .val (.ref o_101), .val (.int (4 : Int32)), .val (.int (2 : Int32)), .val (.ref w_UsageKind_SMS)] [(.int (4 : Int32)), (.int (2 : Int32))])) _
    refine XS.icmpNo X126.here hx rfl (hb hby d7_11) rfl (tlt (by decide : (2 : Int32) < (4 : Int32))).2.1 ?_
    show Steps p.tables e below (T126.setTop (mkF m 14 #[.val (.ref s1), .val (.ref o_101), .val (.int (4 : Int32)), .val (.int (2 : Int32)), .val (.ref w_UsageKind_SMS)] [])) _
    refine XS.aloadN X126.here hx rfl (hb hby d7_14) rfl rfl ?_
    show Steps p.tables e below (T126.setTop (mkF m 15 #[.val (.ref s1), .val (.ref o_101), .val (.int (4 : Int32)), .val (.int (2 : Int32)), .val (.ref w_UsageKind_SMS)] [(.ref o_101)])) _
    refine XS.iloadN X126.here hx rfl (hb hby d7_15) rfl ?_
    show Steps p.tables e below (T126.setTop (mkF m 16 #[.val (.ref s1), .val (.ref o_101), .val (.int (4 : Int32)), .val (.int (2 : Int32)), .val (.ref w_UsageKind_SMS)] [(.int (2 : Int32)), (.ref o_101)])) _
    refine X126.aaload hx (j := (2 : Int32)) (v := (.ref w_UsageKind_DATA)) (by rw [e126]; exact Arq127.1) (State.isArrayOf_alike hZ.alike Arq127.2.1) rfl Arq127.2.2 hinq127 (Has.at Hsq127 hinq127 rfl) (g := (mkF m 16 #[.val (.ref s1), .val (.ref o_101), .val (.int (4 : Int32)), .val (.int (2 : Int32)), .val (.ref w_UsageKind_SMS)] [(.int (2 : Int32)), (.ref o_101)])) rfl rfl (hb hby d7_16) _ ?_
    show Steps p.tables e below (T126.setTop (mkF m 17 #[.val (.ref s1), .val (.ref o_101), .val (.int (4 : Int32)), .val (.int (2 : Int32)), .val (.ref w_UsageKind_SMS)] [(.ref w_UsageKind_DATA)])) _
    refine XS.astore X126.here hx rfl (hb hby d7_17) rfl rfl (l' := #[.val (.ref s1), .val (.ref o_101), .val (.int (4 : Int32)), .val (.int (2 : Int32)), .val (.ref w_UsageKind_DATA)]) rfl ?_
    show Steps p.tables e below (T126.setTop (mkF m 19 #[.val (.ref s1), .val (.ref o_101), .val (.int (4 : Int32)), .val (.int (2 : Int32)), .val (.ref w_UsageKind_DATA)] [])) _
    refine XS.aload X126.here hx rfl (hb hby d7_19) rfl rfl ?_
    show Steps p.tables e below (T126.setTop (mkF m 21 #[.val (.ref s1), .val (.ref o_101), .val (.int (4 : Int32)), .val (.int (2 : Int32)), .val (.ref w_UsageKind_DATA)] [(.ref w_UsageKind_DATA)])) _
    refine st129 _ ?_
    show Steps p.tables e below (T129.setTop (mkF m 24 #[.val (.ref s1), .val (.ref o_101), .val (.int (4 : Int32)), .val (.int (2 : Int32)), .val (.ref w_UsageKind_DATA)] [(.ref w_UsageKind_DATA_written)])) _
    refine XS.aloadN X129.here hx rfl (hb hby d7_24) rfl rfl ?_
    show Steps p.tables e below (T129.setTop (mkF m 25 #[.val (.ref s1), .val (.ref o_101), .val (.int (4 : Int32)), .val (.int (2 : Int32)), .val (.ref w_UsageKind_DATA)] [(.ref s1), (.ref w_UsageKind_DATA_written)])) _
    refine st135.trans ?_
    show Steps p.tables e below (T135.setTop (mkF m 28 #[.val (.ref s1), .val (.ref o_101), .val (.int (4 : Int32)), .val (.int (2 : Int32)), .val (.ref w_UsageKind_DATA)] [(.int (VM [(100 : Int32), (97 : Int32), (116 : Int32), (97 : Int32)] [(108 : Int32), (111 : Int32), (99 : Int32), (97 : Int32), (108 : Int32), (45 : Int32), (100 : Int32), (97 : Int32), (116 : Int32), (97 : Int32)]))])) _
    refine XS.ifYes X135.here hx rfl (pc0 := 28) (pc' := 34) rfl (hb hby d7_28) rfl ((if0 _ _).trans (teq ((by decide) : (VM [(100 : Int32), (97 : Int32), (116 : Int32), (97 : Int32)] [(108 : Int32), (111 : Int32), (99 : Int32), (97 : Int32), (108 : Int32), (45 : Int32), (100 : Int32), (97 : Int32), (116 : Int32), (97 : Int32)]) = (0 : Int32))).1) (by decide) (by decide) ?_
    show Steps p.tables e below (T135.setTop (mkF m 34 #[.val (.ref s1), .val (.ref o_101), .val (.int (4 : Int32)), .val (.int (2 : Int32)), .val (.ref w_UsageKind_DATA)] [])) _
    refine XS.iinc X135.here hx rfl (hb hby d7_34) rfl (l' := #[.val (.ref s1), .val (.ref o_101), .val (.int (4 : Int32)), .val (.int ((2 : Int32) + (1 : Int32))), .val (.ref w_UsageKind_DATA)]) rfl ?_
    show Steps p.tables e below (T135.setTop (mkF m 37 #[.val (.ref s1), .val (.ref o_101), .val (.int (4 : Int32)), .val (.int ((2 : Int32) + (1 : Int32))), .val (.ref w_UsageKind_DATA)] [])) _
    rw [show ((2 : Int32) + (1 : Int32)) = (3 : Int32) from by decide]
    show Steps p.tables e below (T135.setTop (mkF m 37 #[.val (.ref s1), .val (.ref o_101), .val (.int (4 : Int32)), .val (.int (3 : Int32)), .val (.ref w_UsageKind_DATA)] [])) _
    refine XS.goto X135.here hx rfl (pc0 := 37) (pc' := 9) rfl (hb hby d7_37) (by decide) (by decide) ?_
    show Steps p.tables e below (T135.setTop (mkF m 9 #[.val (.ref s1), .val (.ref o_101), .val (.int (4 : Int32)), .val (.int (3 : Int32)), .val (.ref w_UsageKind_DATA)] [])) _
    refine XS.iloadN X135.here hx rfl (hb hby d7_9) rfl ?_
    show Steps p.tables e below (T135.setTop (mkF m 10 #[.val (.ref s1), .val (.ref o_101), .val (.int (4 : Int32)), .val (.int (3 : Int32)), .val (.ref w_UsageKind_DATA)] [(.int (3 : Int32))])) _
    refine XS.iloadN X135.here hx rfl (hb hby d7_10) rfl ?_
    show Steps p.tables e below (T135.setTop (mkF m 11 #[.val (.ref s1), .val (.ref o_101), .val (.int (4 : Int32)), .val (.int (3 : Int32)), .val (.ref w_UsageKind_DATA)] [(.int (4 : Int32)), (.int (3 : Int32))])) _
    refine XS.icmpNo X135.here hx rfl (hb hby d7_11) rfl (tlt (by decide : (3 : Int32) < (4 : Int32))).2.1 ?_
    show Steps p.tables e below (T135.setTop (mkF m 14 #[.val (.ref s1), .val (.ref o_101), .val (.int (4 : Int32)), .val (.int (3 : Int32)), .val (.ref w_UsageKind_DATA)] [])) _
    refine XS.aloadN X135.here hx rfl (hb hby d7_14) rfl rfl ?_
    show Steps p.tables e below (T135.setTop (mkF m 15 #[.val (.ref s1), .val (.ref o_101), .val (.int (4 : Int32)), .val (.int (3 : Int32)), .val (.ref w_UsageKind_DATA)] [(.ref o_101)])) _
    refine XS.iloadN X135.here hx rfl (hb hby d7_15) rfl ?_
    show Steps p.tables e below (T135.setTop (mkF m 16 #[.val (.ref s1), .val (.ref o_101), .val (.int (4 : Int32)), .val (.int (3 : Int32)), .val (.ref w_UsageKind_DATA)] [(.int (3 : Int32)), (.ref o_101)])) _
    refine X135.aaload hx (j := (3 : Int32)) (v := (.ref w_UsageKind_LOCAL_DATA)) (by rw [e135]; exact Arq136.1) (State.isArrayOf_alike hZ.alike Arq136.2.1) rfl Arq136.2.2 hinq136 (Has.at Hsq136 hinq136 rfl) (g := (mkF m 16 #[.val (.ref s1), .val (.ref o_101), .val (.int (4 : Int32)), .val (.int (3 : Int32)), .val (.ref w_UsageKind_DATA)] [(.int (3 : Int32)), (.ref o_101)])) rfl rfl (hb hby d7_16) _ ?_
    show Steps p.tables e below (T135.setTop (mkF m 17 #[.val (.ref s1), .val (.ref o_101), .val (.int (4 : Int32)), .val (.int (3 : Int32)), .val (.ref w_UsageKind_DATA)] [(.ref w_UsageKind_LOCAL_DATA)])) _
    refine XS.astore X135.here hx rfl (hb hby d7_17) rfl rfl (l' := #[.val (.ref s1), .val (.ref o_101), .val (.int (4 : Int32)), .val (.int (3 : Int32)), .val (.ref w_UsageKind_LOCAL_DATA)]) rfl ?_
    show Steps p.tables e below (T135.setTop (mkF m 19 #[.val (.ref s1), .val (.ref o_101), .val (.int (4 : Int32)), .val (.int (3 : Int32)), .val (.ref w_UsageKind_LOCAL_DATA)] [])) _
    refine XS.aload X135.here hx rfl (hb hby d7_19) rfl rfl ?_
    show Steps p.tables e below (T135.setTop (mkF m 21 #[.val (.ref s1), .val (.ref o_101), .val (.int (4 : Int32)), .val (.int (3 : Int32)), .val (.ref w_UsageKind_LOCAL_DATA)] [(.ref w_UsageKind_LOCAL_DATA)])) _
    refine st138 _ ?_
    show Steps p.tables e below (T138.setTop (mkF m 24 #[.val (.ref s1), .val (.ref o_101), .val (.int (4 : Int32)), .val (.int (3 : Int32)), .val (.ref w_UsageKind_LOCAL_DATA)] [(.ref w_UsageKind_LOCAL_DATA_written)])) _
    refine XS.aloadN X138.here hx rfl (hb hby d7_24) rfl rfl ?_
    show Steps p.tables e below (T138.setTop (mkF m 25 #[.val (.ref s1), .val (.ref o_101), .val (.int (4 : Int32)), .val (.int (3 : Int32)), .val (.ref w_UsageKind_LOCAL_DATA)] [(.ref s1), (.ref w_UsageKind_LOCAL_DATA_written)])) _
    refine st144.trans ?_
    show Steps p.tables e below (T144.setTop (mkF m 28 #[.val (.ref s1), .val (.ref o_101), .val (.int (4 : Int32)), .val (.int (3 : Int32)), .val (.ref w_UsageKind_LOCAL_DATA)] [(.int (VM [(108 : Int32), (111 : Int32), (99 : Int32), (97 : Int32), (108 : Int32), (45 : Int32), (100 : Int32), (97 : Int32), (116 : Int32), (97 : Int32)] [(108 : Int32), (111 : Int32), (99 : Int32), (97 : Int32), (108 : Int32), (45 : Int32), (100 : Int32), (97 : Int32), (116 : Int32), (97 : Int32)]))])) _
    refine XS.ifNo X144.here hx rfl (hb hby d7_28) rfl ((if0 _ _).trans (feq ((by decide) : ¬ ((VM [(108 : Int32), (111 : Int32), (99 : Int32), (97 : Int32), (108 : Int32), (45 : Int32), (100 : Int32), (97 : Int32), (116 : Int32), (97 : Int32)] [(108 : Int32), (111 : Int32), (99 : Int32), (97 : Int32), (108 : Int32), (45 : Int32), (100 : Int32), (97 : Int32), (116 : Int32), (97 : Int32)]) = (0 : Int32)))).1) ?_
    show Steps p.tables e below (T144.setTop (mkF m 31 #[.val (.ref s1), .val (.ref o_101), .val (.int (4 : Int32)), .val (.int (3 : Int32)), .val (.ref w_UsageKind_LOCAL_DATA)] [])) _
    refine XS.aload X144.here hx rfl (hb hby d7_31) rfl rfl ?_
    show Steps p.tables e below (T144.setTop (mkF m 33 #[.val (.ref s1), .val (.ref o_101), .val (.int (4 : Int32)), .val (.int (3 : Int32)), .val (.ref w_UsageKind_LOCAL_DATA)] [(.ref w_UsageKind_LOCAL_DATA)])) _
    exact Jvm.RoadKit.retOut X144 hx Bd.returns rfl (Or.inr (Or.inr (Or.inr (Or.inr ⟨rfl, rfl, rfl⟩)))) (hb hby d7_33) hr
  · show Q_rn3 Z s1 t1 k1 n1 vs1 w_UsageKind_SMS w_UsageKind_CALL w_UsageKind_DATA w_UsageKind__VALUES w_UsageKind_LOCAL_DATA w_UsageKind_SMS_written w_UsageKind_CALL_written w_UsageKind_DATA_written w_UsageKind_LOCAL_DATA_written w_UsageKind_SMS_written_value w_UsageKind_CALL_written_value w_UsageKind_DATA_written_value w_UsageKind_LOCAL_DATA_written_value k_w_UsageKind__VALUES k_w_UsageKind_SMS_written_value k_w_UsageKind_CALL_written_value k_w_UsageKind_DATA_written_value k_w_UsageKind_LOCAL_DATA_written_value zc h0 n0 _ T144.heap _
    rw [e144]
    unfold Q_rn3
    exact ⟨rfl, N144, K145⟩
theorem ef_rm0 (m : MethodId) (x0 : Int32) (x1 : Int32) : entryFrame m #[(.int x0), (.int x1)] maxLocals = mkF m 0 #[.val (.int x0), .val (.int x1), .unset, .unset, .unset, .unset, .unset, .unset, .unset] [] := by first | (simp [entryFrame, mkF, argsToLocals, Value.category, maxLocals]; done) | rfl
def Q_rm0 (Z : State) (p0 : Int32) (p1 : Int32) (w_UsageKind_SMS : Addr) (w_UsageKind_CALL : Addr) (w_UsageKind_DATA : Addr) (w_UsageKind__VALUES : Addr) (w_UsageKind_LOCAL_DATA : Addr) (w_UsageKind_SMS_written : Addr) (w_UsageKind_CALL_written : Addr) (w_UsageKind_DATA_written : Addr) (w_UsageKind_LOCAL_DATA_written : Addr) (w_UsageKind_SMS_written_value : Addr) (w_UsageKind_CALL_written_value : Addr) (w_UsageKind_DATA_written_value : Addr) (w_UsageKind_LOCAL_DATA_written_value : Addr) (k_w_UsageKind__VALUES : ClassId) (k_w_UsageKind_SMS_written_value : ClassId) (k_w_UsageKind_CALL_written_value : ClassId) (k_w_UsageKind_DATA_written_value : ClassId) (k_w_UsageKind_LOCAL_DATA_written_value : ClassId) (zc : Int32) (h0 : Heap) (n0 : Nat) (v : Option Value) (h : Heap) (L : List Loc) : Prop := (v = some (.int (1 : Int32))) ∧ (Fr n0 L) ∧ (Keep h0 h [])
theorem pn_1 : plainName "com/example/bill_run/billrun/UsageKindNamedPinLaw" = true := by first | (simp [plainName, overriddenIn]; done) | decide +kernel
theorem pd_2 : parseMethodDescriptor "(Ljava/lang/String;)Lcom/example/bill_run/billrun/UsageKind;" = some ⟨[(.object "java/lang/String")], some (.object "com/example/bill_run/billrun/UsageKind")⟩ := by decide +kernel
theorem pd_3 : parseMethodDescriptor "()Ljava/lang/String;" = some ⟨[], some (.object "java/lang/String")⟩ := by decide +kernel
theorem pd_4 : parseMethodDescriptor "([C)V" = some ⟨[(.array .char)], none⟩ := by decide +kernel
set_option maxRecDepth 65536 in
set_option maxHeartbeats 40000000 in
theorem rm0 (l : Launch) (Z : State) (a0 : Array Value) (hw : ∀ d ∈ tables_1, d.before a0 Z = true) (ws : List Jvm.Cond) (p0 : Int32) (p1 : Int32) (w_UsageKind_SMS : Addr) (w_UsageKind_CALL : Addr) (w_UsageKind_DATA : Addr) (w_UsageKind__VALUES : Addr) (w_UsageKind_LOCAL_DATA : Addr) (w_UsageKind_SMS_written : Addr) (w_UsageKind_CALL_written : Addr) (w_UsageKind_DATA_written : Addr) (w_UsageKind_LOCAL_DATA_written : Addr) (w_UsageKind_SMS_written_value : Addr) (w_UsageKind_CALL_written_value : Addr) (w_UsageKind_DATA_written_value : Addr) (w_UsageKind_LOCAL_DATA_written_value : Addr) (k_w_UsageKind__VALUES : ClassId) (k_w_UsageKind_SMS_written_value : ClassId) (k_w_UsageKind_CALL_written_value : ClassId) (k_w_UsageKind_DATA_written_value : ClassId) (k_w_UsageKind_LOCAL_DATA_written_value : ClassId) (zc : Int32) (h0 : Heap) (n0 : Nat) (O0 : Old Z n0 h0) (S_UsageKind_SMS : Sta Z Z.heap "com/example/bill_run/billrun/UsageKind" "SMS" "Lcom/example/bill_run/billrun/UsageKind;" (.ref w_UsageKind_SMS)) (E_w_UsageKind_SMS : Exa Z Z.heap w_UsageKind_SMS "com/example/bill_run/billrun/UsageKind") (S_UsageKind_CALL : Sta Z Z.heap "com/example/bill_run/billrun/UsageKind" "CALL" "Lcom/example/bill_run/billrun/UsageKind;" (.ref w_UsageKind_CALL)) (E_w_UsageKind_CALL : Exa Z Z.heap w_UsageKind_CALL "com/example/bill_run/billrun/UsageKind") (S_UsageKind_DATA : Sta Z Z.heap "com/example/bill_run/billrun/UsageKind" "DATA" "Lcom/example/bill_run/billrun/UsageKind;" (.ref w_UsageKind_DATA)) (E_w_UsageKind_DATA : Exa Z Z.heap w_UsageKind_DATA "com/example/bill_run/billrun/UsageKind") (S_UsageKind__VALUES : Sta Z Z.heap "com/example/bill_run/billrun/UsageKind" "$VALUES" "[Lcom/example/bill_run/billrun/UsageKind;" (.ref w_UsageKind__VALUES)) (E_w_UsageKind__VALUES : Exa Z Z.heap w_UsageKind__VALUES "[Lcom/example/bill_run/billrun/UsageKind;") (S_UsageKind_LOCAL_DATA : Sta Z Z.heap "com/example/bill_run/billrun/UsageKind" "LOCAL_DATA" "Lcom/example/bill_run/billrun/UsageKind;" (.ref w_UsageKind_LOCAL_DATA)) (E_w_UsageKind_LOCAL_DATA : Exa Z Z.heap w_UsageKind_LOCAL_DATA "com/example/bill_run/billrun/UsageKind") (F_w_UsageKind_SMS_written : Fld Z Z.heap w_UsageKind_SMS "com/example/bill_run/billrun/UsageKind" "written" "Ljava/lang/String;" (.ref w_UsageKind_SMS_written)) (E_w_UsageKind_SMS_written : Exa Z Z.heap w_UsageKind_SMS_written "java/lang/String") (F_w_UsageKind_CALL_written : Fld Z Z.heap w_UsageKind_CALL "com/example/bill_run/billrun/UsageKind" "written" "Ljava/lang/String;" (.ref w_UsageKind_CALL_written)) (E_w_UsageKind_CALL_written : Exa Z Z.heap w_UsageKind_CALL_written "java/lang/String") (F_w_UsageKind_DATA_written : Fld Z Z.heap w_UsageKind_DATA "com/example/bill_run/billrun/UsageKind" "written" "Ljava/lang/String;" (.ref w_UsageKind_DATA_written)) (E_w_UsageKind_DATA_written : Exa Z Z.heap w_UsageKind_DATA_written "java/lang/String") (F_w_UsageKind_LOCAL_DATA_written : Fld Z Z.heap w_UsageKind_LOCAL_DATA "com/example/bill_run/billrun/UsageKind" "written" "Ljava/lang/String;" (.ref w_UsageKind_LOCAL_DATA_written)) (E_w_UsageKind_LOCAL_DATA_written : Exa Z Z.heap w_UsageKind_LOCAL_DATA_written "java/lang/String") (F_w_UsageKind_SMS_written_value : Fld Z Z.heap w_UsageKind_SMS_written "java/lang/String" "value" "[B" (.ref w_UsageKind_SMS_written_value)) (F_w_UsageKind_CALL_written_value : Fld Z Z.heap w_UsageKind_CALL_written "java/lang/String" "value" "[B" (.ref w_UsageKind_CALL_written_value)) (F_w_UsageKind_DATA_written_value : Fld Z Z.heap w_UsageKind_DATA_written "java/lang/String" "value" "[B" (.ref w_UsageKind_DATA_written_value)) (F_w_UsageKind_LOCAL_DATA_written_value : Fld Z Z.heap w_UsageKind_LOCAL_DATA_written "java/lang/String" "value" "[B" (.ref w_UsageKind_LOCAL_DATA_written_value)) (F_w_UsageKind_CALL_written_coder : Fld Z Z.heap w_UsageKind_CALL_written "java/lang/String" "coder" "B" (.int (0 : Int32))) (F_w_UsageKind_SMS_written_coder : Fld Z Z.heap w_UsageKind_SMS_written "java/lang/String" "coder" "B" (.int (0 : Int32))) (F_w_UsageKind_DATA_written_coder : Fld Z Z.heap w_UsageKind_DATA_written "java/lang/String" "coder" "B" (.int (0 : Int32))) (ne146 : w_UsageKind_CALL_written ≠ w_UsageKind_LOCAL_DATA_written) (F_w_UsageKind_LOCAL_DATA_written_coder : Fld Z Z.heap w_UsageKind_LOCAL_DATA_written "java/lang/String" "coder" "B" (.int (0 : Int32))) (ne149 : w_UsageKind_LOCAL_DATA_written ≠ w_UsageKind_SMS_written) (ne150 : w_UsageKind_DATA_written ≠ w_UsageKind_LOCAL_DATA_written) (ne151 : w_UsageKind_CALL_written ≠ w_UsageKind_SMS_written) (ne152 : w_UsageKind_CALL_written ≠ w_UsageKind_DATA_written) (ne153 : w_UsageKind_DATA_written ≠ w_UsageKind_SMS_written) (V_w_UsageKind__VALUES : Arv Z Z.heap w_UsageKind__VALUES k_w_UsageKind__VALUES (.object "com/example/bill_run/billrun/UsageKind") (4 : Int32) [(.ref w_UsageKind_CALL), (.ref w_UsageKind_SMS), (.ref w_UsageKind_DATA), (.ref w_UsageKind_LOCAL_DATA)] .null) (V_w_UsageKind_SMS_written_value : Arv Z Z.heap w_UsageKind_SMS_written_value k_w_UsageKind_SMS_written_value .byte (3 : Int32) [(.int (115 : Int32)), (.int (109 : Int32)), (.int (115 : Int32))] (.int (0 : Int32))) (V_w_UsageKind_CALL_written_value : Arv Z Z.heap w_UsageKind_CALL_written_value k_w_UsageKind_CALL_written_value .byte (4 : Int32) [(.int (99 : Int32)), (.int (97 : Int32)), (.int (108 : Int32)), (.int (108 : Int32))] (.int (0 : Int32))) (V_w_UsageKind_DATA_written_value : Arv Z Z.heap w_UsageKind_DATA_written_value k_w_UsageKind_DATA_written_value .byte (4 : Int32) [(.int (100 : Int32)), (.int (97 : Int32)), (.int (116 : Int32)), (.int (97 : Int32))] (.int (0 : Int32))) (V_w_UsageKind_LOCAL_DATA_written_value : Arv Z Z.heap w_UsageKind_LOCAL_DATA_written_value k_w_UsageKind_LOCAL_DATA_written_value .byte (10 : Int32) [(.int (108 : Int32)), (.int (111 : Int32)), (.int (99 : Int32)), (.int (97 : Int32)), (.int (108 : Int32)), (.int (45 : Int32)), (.int (100 : Int32)), (.int (97 : Int32)), (.int (116 : Int32)), (.int (97 : Int32))] (.int (0 : Int32))) (SZ : Sta Z Z.heap "java/lang/String" "COMPACT_STRINGS" "Z" (.int zc)) (PZ : ¬ (zc = (0 : Int32))) :
    MetFree l x (head1 (Jvm.Cond.code x code maxLocals ret :: ws) room_1) (fun a U => a = #[(.int p0), (.int p1)] ∧ Z.Warmed39 U.vm ∧ U.heap = h0 ∧ CHv Z consts_1 U.vm h0 ∧ ∀ x ∈ ([] : List Addr), Safe Z consts_1 U.vm h0 x) (fun _ _ _ _ _ => True) (fun _ U o U' => ∃ v L, o = .returned v ∧ Q_rm0 Z p0 p1 w_UsageKind_SMS w_UsageKind_CALL w_UsageKind_DATA w_UsageKind__VALUES w_UsageKind_LOCAL_DATA w_UsageKind_SMS_written w_UsageKind_CALL_written w_UsageKind_DATA_written w_UsageKind_LOCAL_DATA_written w_UsageKind_SMS_written_value w_UsageKind_CALL_written_value w_UsageKind_DATA_written_value w_UsageKind_LOCAL_DATA_written_value k_w_UsageKind__VALUES k_w_UsageKind_SMS_written_value k_w_UsageKind_CALL_written_value k_w_UsageKind_DATA_written_value k_w_UsageKind_LOCAL_DATA_written_value zc h0 n0 v U'.heap L ∧ CHr Z consts_1 U.vm U.heap U'.vm U'.heap ∧ ReturnedEndW U o U' L room_1.cells room_1.slots) := by
  refine MetFree.of_bodySF (plainFor_of_name pn_1) hisR ?_
  intro p e s m args below meth c s₁ Bd hml0 hP hK
  obtain ⟨rfl, hZ, hh, hH0, hSf⟩ := hP
  have hx := Bd.exec
  have hby := Bd.bytes
  have hml : c.maxLocals = 9 := hml0
  have hEL : EW Z a0 consts_1 := own_EW hw
  have CR0 : CHr Z consts_1 s.vm h0 s.vm h0 := CHr.refl hH0
  have hown : s.vm.findClass "com/example/bill_run/billrun/UsageKindNamedPinLaw" = some m.cls := findClass_of_methodNamed Bd.named
  have hnm := (name_of_methodNamed Bd.named Bd.method).1
  have hS0 : s.Since s.vm h0.size := (State.WarmedH.refl s).since _
  have hstr : ∀ a ∈ Bundle.stringAtoms, a.before a0 Z = true := own_str hw
  have X0 : Stand p l e room_1 (s.setVm s.vm) m #[(.int p0), (.int p1)] below meth c s₁ [] 0 0 := Stand.of_body Bd
  have e0 : s₁.heap = h0 := by rw [← hh, Bd.state]; rfl
  have N0 := Fr.nil n0
  have Z0 : n0 ≤ h0.size := old_le O0
  have pre0 : ∀ t, Steps p.tables e below (s₁.setTop (mkF m 0 #[.val (.int p0), .val (.int p1), .unset, .unset, .unset, .unset, .unset, .unset, .unset] [])) t → Steps p.tables e below (s₁.setTop (entryFrame m #[(.int p0), (.int p1)] maxLocals)) t := fun t k => castTop (ef_rm0 m p0 p1) k
  have S102 : ∀ t, Steps p.tables e below (s₁.setTop (mkF m 9 #[.val (.int p0), .val (.int p1), .val (.int (p0 &&& (3 : Int32))), .val (.int (p1 &&& (3 : Int32))), .unset, .unset, .unset, .unset, .unset] [(.int (p0 &&& (3 : Int32)))])) t → Steps p.tables e below (s₁.setTop (entryFrame m #[(.int p0), (.int p1)] maxLocals)) t := fun t k => by
    refine pre0 t ?_
    show Steps p.tables e below (s₁.setTop (mkF m 0 #[.val (.int p0), .val (.int p1), .unset, .unset, .unset, .unset, .unset, .unset, .unset] [])) _
    refine XS.iloadN X0.here hx rfl (hb hby at_0) rfl ?_
    show Steps p.tables e below (s₁.setTop (mkF m 1 #[.val (.int p0), .val (.int p1), .unset, .unset, .unset, .unset, .unset, .unset, .unset] [(.int p0)])) _
    refine XS.iconst X0.here hx rfl (hb hby at_1) ?_
    show Steps p.tables e below (s₁.setTop (mkF m 2 #[.val (.int p0), .val (.int p1), .unset, .unset, .unset, .unset, .unset, .unset, .unset] [(.int (3 : Int32)), (.int p0)])) _
    refine XS.iand X0.here hx rfl (hb hby at_2) rfl ?_
    show Steps p.tables e below (s₁.setTop (mkF m 3 #[.val (.int p0), .val (.int p1), .unset, .unset, .unset, .unset, .unset, .unset, .unset] [(.int (p0 &&& (3 : Int32)))])) _
    refine XS.istoreN X0.here hx rfl (hb hby at_3) rfl (l' := #[.val (.int p0), .val (.int p1), .val (.int (p0 &&& (3 : Int32))), .unset, .unset, .unset, .unset, .unset, .unset]) rfl ?_
    show Steps p.tables e below (s₁.setTop (mkF m 4 #[.val (.int p0), .val (.int p1), .val (.int (p0 &&& (3 : Int32))), .unset, .unset, .unset, .unset, .unset, .unset] [])) _
    refine XS.iloadN X0.here hx rfl (hb hby at_4) rfl ?_
    show Steps p.tables e below (s₁.setTop (mkF m 5 #[.val (.int p0), .val (.int p1), .val (.int (p0 &&& (3 : Int32))), .unset, .unset, .unset, .unset, .unset, .unset] [(.int p1)])) _
    refine XS.iconst X0.here hx rfl (hb hby at_5) ?_
    show Steps p.tables e below (s₁.setTop (mkF m 6 #[.val (.int p0), .val (.int p1), .val (.int (p0 &&& (3 : Int32))), .unset, .unset, .unset, .unset, .unset, .unset] [(.int (3 : Int32)), (.int p1)])) _
    refine XS.iand X0.here hx rfl (hb hby at_6) rfl ?_
    show Steps p.tables e below (s₁.setTop (mkF m 7 #[.val (.int p0), .val (.int p1), .val (.int (p0 &&& (3 : Int32))), .unset, .unset, .unset, .unset, .unset, .unset] [(.int (p1 &&& (3 : Int32)))])) _
    refine XS.istoreN X0.here hx rfl (hb hby at_7) rfl (l' := #[.val (.int p0), .val (.int p1), .val (.int (p0 &&& (3 : Int32))), .val (.int (p1 &&& (3 : Int32))), .unset, .unset, .unset, .unset, .unset]) rfl ?_
    show Steps p.tables e below (s₁.setTop (mkF m 8 #[.val (.int p0), .val (.int p1), .val (.int (p0 &&& (3 : Int32))), .val (.int (p1 &&& (3 : Int32))), .unset, .unset, .unset, .unset, .unset] [])) _
    refine XS.iloadN X0.here hx rfl (hb hby at_8) rfl ?_
    exact k
  by_cases hc101 : (p0 &&& (3 : Int32)) = (0 : Int32)
  · have c103 : Sta Z h0 "com/example/bill_run/billrun/UsageKind" "CALL" "Lcom/example/bill_run/billrun/UsageKind;" (.ref w_UsageKind_CALL) := Sta.ext (O0).2 S_UsageKind_CALL
    obtain ⟨T104, X104, e104, st104⟩ := getS2 X0 hx hZ hown (host := "") (Or.inl (hwk hw 0 rfl)) Via.refl e0 c103 (g := (mkF m 12 #[.val (.int p0), .val (.int p1), .val (.int (p0 &&& (3 : Int32))), .val (.int (p1 &&& (3 : Int32))), .unset, .unset, .unset, .unset, .unset] [])) rfl (hb hby at_12)
    obtain ⟨a105, T105, h105, k105, b105, kc105, X105, e105, E105, hS105, hk105, hZ105, hown105, Ex105, Fc105, Fv105, Av105, la105, lb105, CX105, Lt105, Sn105, st105⟩ := ldcCH X104 hx hZ hown (hwk hw 3 rfl) hstr e104 hS0 (Nat.le_refl _) hEL (by decide) CR0.1 (vs := [(.int (99 : Int32)), (.int (97 : Int32)), (.int (108 : Int32)), (.int (108 : Int32))]) (z := (4 : Int32)) ⟨by decide, by decide⟩ (by decide) rfl (g := (mkF m 17 #[.val (.int p0), .val (.int p1), .val (.int (p0 &&& (3 : Int32))), .val (.int (p1 &&& (3 : Int32))), .val (.ref w_UsageKind_CALL), .unset, .unset, .unset, .unset] [])) rfl (hb hby at_17) (n := 16) (by decide) (by decide) (by decide) (by decide)
    have O106 : Old Z n0 h105 := Old.ext O0 E105
    obtain ⟨T107, h107, k107, X107, e107, E107, A107, st107⟩ := newP X105 hx hZ105 (hwk hw 11 rfl) e105 (g := (mkF m 22 #[.val (.int p0), .val (.int p1), .val (.int (p0 &&& (3 : Int32))), .val (.int (p1 &&& (3 : Int32))), .val (.ref w_UsageKind_CALL), .val (.ref a105), .unset, .unset, .unset] [(.int (4 : Int32))])) rfl (hb hby at_22) rfl (by decide) (cap := 4) (by decide) (by decide) (by decide) (by decide)
    obtain ⟨b107, g107⟩ : ∃ z, z = h105.size := ⟨_, rfl⟩
    rw [← g107] at A107 st107
    have g_b107 : n0 ≤ b107 := Nat.le_trans (old_le O106) (Nat.le_of_eq g107.symm)
    have V107 : Arv Z h107 b107 k107 .char (4 : Int32) [(.int (0 : Int32)), (.int (0 : Int32)), (.int (0 : Int32)), (.int (0 : Int32))] (.int (0 : Int32)) := (Arv.new A107 (by decide)).pad (pad_rep [] (.int (0 : Int32)) 4)
    obtain ⟨clq108, Arq108, kqq108, Szq108, Nnq108, Hsq108, Gsq108⟩ := id V107
    have hinq108 : ¬ ((0 : Int32) < 0 ∨ clq108.slots.size ≤ ((0 : Int32)).toNatClampNeg) := inb_of Szq108 ⟨by decide, by decide⟩
    obtain ⟨T109, h109, X109, e109, W109, st109⟩ := stC X107 hx hZ105 e107 Arq108 (j := (0 : Int32)) hinq108 (g := (mkF m 28 #[.val (.int p0), .val (.int p1), .val (.int (p0 &&& (3 : Int32))), .val (.int (p1 &&& (3 : Int32))), .val (.ref w_UsageKind_CALL), .val (.ref a105), .unset, .unset, .unset] [(.int (99 : Int32)), (.int (0 : Int32)), (.ref b107), (.ref b107)])) rfl rfl (hb hby at_28)
    have V109 : Arv Z h109 b107 k107 .char (4 : Int32) [(.int (nar .char (99 : Int32))), (.int (0 : Int32)), (.int (0 : Int32)), (.int (0 : Int32))] (.int (0 : Int32)) := Arv.set Arq108 kqq108 Szq108 Nnq108 Hsq108 Gsq108 (fits_nar_char _) W109 0 rfl (Nat.le_of_ble_eq_true rfl)
    have N109 := Fr.snoc X109 N0 g_b107
    obtain ⟨clq110, Arq110, kqq110, Szq110, Nnq110, Hsq110, Gsq110⟩ := id V109
    have hinq110 : ¬ ((1 : Int32) < 0 ∨ clq110.slots.size ≤ ((1 : Int32)).toNatClampNeg) := inb_of Szq110 ⟨by decide, by decide⟩
    obtain ⟨T111, h111, X111, e111, W111, st111⟩ := stC X109 hx hZ105 e109 Arq110 (j := (1 : Int32)) hinq110 (g := (mkF m 33 #[.val (.int p0), .val (.int p1), .val (.int (p0 &&& (3 : Int32))), .val (.int (p1 &&& (3 : Int32))), .val (.ref w_UsageKind_CALL), .val (.ref a105), .unset, .unset, .unset] [(.int (97 : Int32)), (.int (1 : Int32)), (.ref b107), (.ref b107)])) rfl rfl (hb hby at_33)
    have V111 : Arv Z h111 b107 k107 .char (4 : Int32) [(.int (nar .char (99 : Int32))), (.int (nar .char (97 : Int32))), (.int (0 : Int32)), (.int (0 : Int32))] (.int (0 : Int32)) := Arv.set Arq110 kqq110 Szq110 Nnq110 Hsq110 Gsq110 (fits_nar_char _) W111 1 rfl (Nat.le_of_ble_eq_true rfl)
    have N111 := Fr.snoc X111 N109 g_b107
    obtain ⟨clq112, Arq112, kqq112, Szq112, Nnq112, Hsq112, Gsq112⟩ := id V111
    have hinq112 : ¬ ((2 : Int32) < 0 ∨ clq112.slots.size ≤ ((2 : Int32)).toNatClampNeg) := inb_of Szq112 ⟨by decide, by decide⟩
    obtain ⟨T113, h113, X113, e113, W113, st113⟩ := stC X111 hx hZ105 e111 Arq112 (j := (2 : Int32)) hinq112 (g := (mkF m 38 #[.val (.int p0), .val (.int p1), .val (.int (p0 &&& (3 : Int32))), .val (.int (p1 &&& (3 : Int32))), .val (.ref w_UsageKind_CALL), .val (.ref a105), .unset, .unset, .unset] [(.int (108 : Int32)), (.int (2 : Int32)), (.ref b107), (.ref b107)])) rfl rfl (hb hby at_38)
    have V113 : Arv Z h113 b107 k107 .char (4 : Int32) [(.int (nar .char (99 : Int32))), (.int (nar .char (97 : Int32))), (.int (nar .char (108 : Int32))), (.int (0 : Int32))] (.int (0 : Int32)) := Arv.set Arq112 kqq112 Szq112 Nnq112 Hsq112 Gsq112 (fits_nar_char _) W113 2 rfl (Nat.le_of_ble_eq_true rfl)
    have N113 := Fr.snoc X113 N111 g_b107
    obtain ⟨clq114, Arq114, kqq114, Szq114, Nnq114, Hsq114, Gsq114⟩ := id V113
    have hinq114 : ¬ ((3 : Int32) < 0 ∨ clq114.slots.size ≤ ((3 : Int32)).toNatClampNeg) := inb_of Szq114 ⟨by decide, by decide⟩
    obtain ⟨T115, h115, X115, e115, W115, st115⟩ := stC X113 hx hZ105 e113 Arq114 (j := (3 : Int32)) hinq114 (g := (mkF m 43 #[.val (.int p0), .val (.int p1), .val (.int (p0 &&& (3 : Int32))), .val (.int (p1 &&& (3 : Int32))), .val (.ref w_UsageKind_CALL), .val (.ref a105), .unset, .unset, .unset] [(.int (108 : Int32)), (.int (3 : Int32)), (.ref b107), (.ref b107)])) rfl rfl (hb hby at_43)
    have V115 : Arv Z h115 b107 k107 .char (4 : Int32) [(.int (nar .char (99 : Int32))), (.int (nar .char (97 : Int32))), (.int (nar .char (108 : Int32))), (.int (nar .char (108 : Int32)))] (.int (0 : Int32)) := Arv.set Arq114 kqq114 Szq114 Nnq114 Hsq114 Gsq114 (fits_nar_char _) W115 3 rfl (Nat.le_of_ble_eq_true rfl)
    have N115 := Fr.snoc X115 N113 g_b107
    have S117 : ∀ t, Steps p.tables e below (T115.setTop (mkF m 198 #[.val (.int p0), .val (.int p1), .val (.int (p0 &&& (3 : Int32))), .val (.int (p1 &&& (3 : Int32))), .val (.ref w_UsageKind_CALL), .val (.ref a105), .val (.ref b107), .unset, .unset] [(.int (p1 &&& (3 : Int32)))])) t → Steps p.tables e below (s₁.setTop (entryFrame m #[(.int p0), (.int p1)] maxLocals)) t := fun t k => by
      refine S102 t ?_
      show Steps p.tables e below (s₁.setTop (mkF m 9 #[.val (.int p0), .val (.int p1), .val (.int (p0 &&& (3 : Int32))), .val (.int (p1 &&& (3 : Int32))), .unset, .unset, .unset, .unset, .unset] [(.int (p0 &&& (3 : Int32)))])) _
      refine XS.ifNo X0.here hx rfl (hb hby at_9) rfl ((if0 _ _).trans (teq hc101).2) ?_
      show Steps p.tables e below (s₁.setTop (mkF m 12 #[.val (.int p0), .val (.int p1), .val (.int (p0 &&& (3 : Int32))), .val (.int (p1 &&& (3 : Int32))), .unset, .unset, .unset, .unset, .unset] [])) _
      refine st104 _ ?_
      show Steps p.tables e below (T104.setTop (mkF m 15 #[.val (.int p0), .val (.int p1), .val (.int (p0 &&& (3 : Int32))), .val (.int (p1 &&& (3 : Int32))), .unset, .unset, .unset, .unset, .unset] [(.ref w_UsageKind_CALL)])) _
      refine XS.astore X104.here hx rfl (hb hby at_15) rfl rfl (l' := #[.val (.int p0), .val (.int p1), .val (.int (p0 &&& (3 : Int32))), .val (.int (p1 &&& (3 : Int32))), .val (.ref w_UsageKind_CALL), .unset, .unset, .unset, .unset]) rfl ?_
      show Steps p.tables e below (T104.setTop (mkF m 17 #[.val (.int p0), .val (.int p1), .val (.int (p0 &&& (3 : Int32))), .val (.int (p1 &&& (3 : Int32))), .val (.ref w_UsageKind_CALL), .unset, .unset, .unset, .unset] [])) _
      refine st105 _ ?_
      show Steps p.tables e below (T105.setTop (mkF m 19 #[.val (.int p0), .val (.int p1), .val (.int (p0 &&& (3 : Int32))), .val (.int (p1 &&& (3 : Int32))), .val (.ref w_UsageKind_CALL), .unset, .unset, .unset, .unset] [(.ref a105)])) _
      refine XS.astore X105.here hx rfl (hb hby at_19) rfl rfl (l' := #[.val (.int p0), .val (.int p1), .val (.int (p0 &&& (3 : Int32))), .val (.int (p1 &&& (3 : Int32))), .val (.ref w_UsageKind_CALL), .val (.ref a105), .unset, .unset, .unset]) rfl ?_
      show Steps p.tables e below (T105.setTop (mkF m 21 #[.val (.int p0), .val (.int p1), .val (.int (p0 &&& (3 : Int32))), .val (.int (p1 &&& (3 : Int32))), .val (.ref w_UsageKind_CALL), .val (.ref a105), .unset, .unset, .unset] [])) _
      refine XS.iconst X105.here hx rfl (hb hby at_21) ?_
      show Steps p.tables e below (T105.setTop (mkF m 22 #[.val (.int p0), .val (.int p1), .val (.int (p0 &&& (3 : Int32))), .val (.int (p1 &&& (3 : Int32))), .val (.ref w_UsageKind_CALL), .val (.ref a105), .unset, .unset, .unset] [(.int (4 : Int32))])) _
      refine st107 _ ?_
      show Steps p.tables e below (T107.setTop (mkF m 24 #[.val (.int p0), .val (.int p1), .val (.int (p0 &&& (3 : Int32))), .val (.int (p1 &&& (3 : Int32))), .val (.ref w_UsageKind_CALL), .val (.ref a105), .unset, .unset, .unset] [(.ref b107)])) _
      refine XS.dup X107.here hx rfl (hb hby at_24) rfl rfl ?_
      show Steps p.tables e below (T107.setTop (mkF m 25 #[.val (.int p0), .val (.int p1), .val (.int (p0 &&& (3 : Int32))), .val (.int (p1 &&& (3 : Int32))), .val (.ref w_UsageKind_CALL), .val (.ref a105), .unset, .unset, .unset] [(.ref b107), (.ref b107)])) _
      refine XS.iconst X107.here hx rfl (hb hby at_25) ?_
      show Steps p.tables e below (T107.setTop (mkF m 26 #[.val (.int p0), .val (.int p1), .val (.int (p0 &&& (3 : Int32))), .val (.int (p1 &&& (3 : Int32))), .val (.ref w_UsageKind_CALL), .val (.ref a105), .unset, .unset, .unset] [(.int (0 : Int32)), (.ref b107), (.ref b107)])) _
      refine XS.bipush X107.here hx rfl (hb hby at_26) ?_
      show Steps p.tables e below (T107.setTop (mkF m 28 #[.val (.int p0), .val (.int p1), .val (.int (p0 &&& (3 : Int32))), .val (.int (p1 &&& (3 : Int32))), .val (.ref w_UsageKind_CALL), .val (.ref a105), .unset, .unset, .unset] [(.int (99 : Int32)), (.int (0 : Int32)), (.ref b107), (.ref b107)])) _
      refine st109 _ ?_
      show Steps p.tables e below (T109.setTop (mkF m 29 #[.val (.int p0), .val (.int p1), .val (.int (p0 &&& (3 : Int32))), .val (.int (p1 &&& (3 : Int32))), .val (.ref w_UsageKind_CALL), .val (.ref a105), .unset, .unset, .unset] [(.ref b107)])) _
      refine XS.dup X109.here hx rfl (hb hby at_29) rfl rfl ?_
      show Steps p.tables e below (T109.setTop (mkF m 30 #[.val (.int p0), .val (.int p1), .val (.int (p0 &&& (3 : Int32))), .val (.int (p1 &&& (3 : Int32))), .val (.ref w_UsageKind_CALL), .val (.ref a105), .unset, .unset, .unset] [(.ref b107), (.ref b107)])) _
      refine XS.iconst X109.here hx rfl (hb hby at_30) ?_
      show Steps p.tables e below (T109.setTop (mkF m 31 #[.val (.int p0), .val (.int p1), .val (.int (p0 &&& (3 : Int32))), .val (.int (p1 &&& (3 : Int32))), .val (.ref w_UsageKind_CALL), .val (.ref a105), .unset, .unset, .unset] [(.int (1 : Int32)), (.ref b107), (.ref b107)])) _
      refine XS.bipush X109.here hx rfl (hb hby at_31) ?_
      show Steps p.tables e below (T109.setTop (mkF m 33 #[.val (.int p0), .val (.int p1), .val (.int (p0 &&& (3 : Int32))), .val (.int (p1 &&& (3 : Int32))), .val (.ref w_UsageKind_CALL), .val (.ref a105), .unset, .unset, .unset] [(.int (97 : Int32)), (.int (1 : Int32)), (.ref b107), (.ref b107)])) _
      refine st111 _ ?_
      show Steps p.tables e below (T111.setTop (mkF m 34 #[.val (.int p0), .val (.int p1), .val (.int (p0 &&& (3 : Int32))), .val (.int (p1 &&& (3 : Int32))), .val (.ref w_UsageKind_CALL), .val (.ref a105), .unset, .unset, .unset] [(.ref b107)])) _
      refine XS.dup X111.here hx rfl (hb hby at_34) rfl rfl ?_
      show Steps p.tables e below (T111.setTop (mkF m 35 #[.val (.int p0), .val (.int p1), .val (.int (p0 &&& (3 : Int32))), .val (.int (p1 &&& (3 : Int32))), .val (.ref w_UsageKind_CALL), .val (.ref a105), .unset, .unset, .unset] [(.ref b107), (.ref b107)])) _
      refine XS.iconst X111.here hx rfl (hb hby at_35) ?_
      show Steps p.tables e below (T111.setTop (mkF m 36 #[.val (.int p0), .val (.int p1), .val (.int (p0 &&& (3 : Int32))), .val (.int (p1 &&& (3 : Int32))), .val (.ref w_UsageKind_CALL), .val (.ref a105), .unset, .unset, .unset] [(.int (2 : Int32)), (.ref b107), (.ref b107)])) _
      refine XS.bipush X111.here hx rfl (hb hby at_36) ?_
      show Steps p.tables e below (T111.setTop (mkF m 38 #[.val (.int p0), .val (.int p1), .val (.int (p0 &&& (3 : Int32))), .val (.int (p1 &&& (3 : Int32))), .val (.ref w_UsageKind_CALL), .val (.ref a105), .unset, .unset, .unset] [(.int (108 : Int32)), (.int (2 : Int32)), (.ref b107), (.ref b107)])) _
      refine st113 _ ?_
      show Steps p.tables e below (T113.setTop (mkF m 39 #[.val (.int p0), .val (.int p1), .val (.int (p0 &&& (3 : Int32))), .val (.int (p1 &&& (3 : Int32))), .val (.ref w_UsageKind_CALL), .val (.ref a105), .unset, .unset, .unset] [(.ref b107)])) _
      refine XS.dup X113.here hx rfl (hb hby at_39) rfl rfl ?_
      show Steps p.tables e below (T113.setTop (mkF m 40 #[.val (.int p0), .val (.int p1), .val (.int (p0 &&& (3 : Int32))), .val (.int (p1 &&& (3 : Int32))), .val (.ref w_UsageKind_CALL), .val (.ref a105), .unset, .unset, .unset] [(.ref b107), (.ref b107)])) _
      refine XS.iconst X113.here hx rfl (hb hby at_40) ?_
      show Steps p.tables e below (T113.setTop (mkF m 41 #[.val (.int p0), .val (.int p1), .val (.int (p0 &&& (3 : Int32))), .val (.int (p1 &&& (3 : Int32))), .val (.ref w_UsageKind_CALL), .val (.ref a105), .unset, .unset, .unset] [(.int (3 : Int32)), (.ref b107), (.ref b107)])) _
      refine XS.bipush X113.here hx rfl (hb hby at_41) ?_
      show Steps p.tables e below (T113.setTop (mkF m 43 #[.val (.int p0), .val (.int p1), .val (.int (p0 &&& (3 : Int32))), .val (.int (p1 &&& (3 : Int32))), .val (.ref w_UsageKind_CALL), .val (.ref a105), .unset, .unset, .unset] [(.int (108 : Int32)), (.int (3 : Int32)), (.ref b107), (.ref b107)])) _
      refine st115 _ ?_
      show Steps p.tables e below (T115.setTop (mkF m 44 #[.val (.int p0), .val (.int p1), .val (.int (p0 &&& (3 : Int32))), .val (.int (p1 &&& (3 : Int32))), .val (.ref w_UsageKind_CALL), .val (.ref a105), .unset, .unset, .unset] [(.ref b107)])) _
      refine XS.astore X115.here hx rfl (hb hby at_44) rfl rfl (l' := #[.val (.int p0), .val (.int p1), .val (.int (p0 &&& (3 : Int32))), .val (.int (p1 &&& (3 : Int32))), .val (.ref w_UsageKind_CALL), .val (.ref a105), .val (.ref b107), .unset, .unset]) rfl ?_
      show Steps p.tables e below (T115.setTop (mkF m 46 #[.val (.int p0), .val (.int p1), .val (.int (p0 &&& (3 : Int32))), .val (.int (p1 &&& (3 : Int32))), .val (.ref w_UsageKind_CALL), .val (.ref a105), .val (.ref b107), .unset, .unset] [])) _
      refine XS.goto X115.here hx rfl (pc0 := 46) (pc' := 197) rfl (hb hby at_46) (by decide) (by decide) ?_
      show Steps p.tables e below (T115.setTop (mkF m 197 #[.val (.int p0), .val (.int p1), .val (.int (p0 &&& (3 : Int32))), .val (.int (p1 &&& (3 : Int32))), .val (.ref w_UsageKind_CALL), .val (.ref a105), .val (.ref b107), .unset, .unset] [])) _
      refine XS.iloadN X115.here hx rfl (hb hby at_197) rfl ?_
      exact k
    by_cases hc116 : (p1 &&& (3 : Int32)) = (0 : Int32)
    · have c118 : Exa Z h115 a105 "java/lang/String" := (Exa.wr W115 (Exa.wr W113 (Exa.wr W111 (Exa.wr W109 (Exa.ext E107 Ex105)))))
      have c119 : Fld Z h115 a105 "java/lang/String" "value" "[B" (.ref b105) := (Fld.other W115 (Fld.other W113 (Fld.other W111 (Fld.other W109 (Fld.ext E107 Fv105) (Or.inl (Exa.neArv c118 V115 (hwk hw 5 rfl)))) (Or.inl (Exa.neArv c118 V115 (hwk hw 5 rfl)))) (Or.inl (Exa.neArv c118 V115 (hwk hw 5 rfl)))) (Or.inl (Exa.neArv c118 V115 (hwk hw 5 rfl))))
      have c120 : Fld Z h115 a105 "java/lang/String" "coder" "B" (.int (0 : Int32)) := (Fld.other W115 (Fld.other W113 (Fld.other W111 (Fld.other W109 (Fld.ext E107 Fc105) (Or.inl (Exa.neArv c118 V115 (hwk hw 5 rfl)))) (Or.inl (Exa.neArv c118 V115 (hwk hw 5 rfl)))) (Or.inl (Exa.neArv c118 V115 (hwk hw 5 rfl)))) (Or.inl (Exa.neArv c118 V115 (hwk hw 5 rfl))))
      have c121 : Arv Z h115 b105 kc105 .byte (4 : Int32) [(.int (99 : Int32)), (.int (97 : Int32)), (.int (108 : Int32)), (.int (108 : Int32))] (.int 0) := (Arv.other (Arv.other (Arv.other (Arv.other (Av105.ext E107) W109 (Nat.ne_of_lt (Nat.lt_of_lt_of_le (Av105).lt (Nat.le_of_eq g107.symm)))) W111 (Nat.ne_of_lt (Nat.lt_of_lt_of_le (Av105).lt (Nat.le_of_eq g107.symm)))) W113 (Nat.ne_of_lt (Nat.lt_of_lt_of_le (Av105).lt (Nat.le_of_eq g107.symm)))) W115 (Nat.ne_of_lt (Nat.lt_of_lt_of_le (Av105).lt (Nat.le_of_eq g107.symm))))
      have O122 : Old Z n0 h107 := Old.ext O106 E107
      have O123 : Old Z n0 h109 := Old.wr O122 W109 g_b107
      have O124 : Old Z n0 h111 := Old.wr O123 W111 g_b107
      have O125 : Old Z n0 h113 := Old.wr O124 W113 g_b107
      have O126 : Old Z n0 h115 := Old.wr O125 W115 g_b107
      obtain ⟨_, _, ⟨T127, L127, k127, n127⟩, -, X127, ⟨Lc127, hQ127, l127, y127, z127⟩, st127⟩ := Jvm.LawKit.callS X115 hx (y := (⟨"com/example/bill_run/billrun/UsageKind", "named", "(Ljava/lang/String;)Lcom/example/bill_run/billrun/UsageKind;"⟩ : MethodName)) hown105 (mvT hZ105 (hwk hw 36 rfl)) (mvT hZ105 (hwk hw 37 rfl)) (mvT hZ105 (hwk hw 1 rfl)) (mvT hZ105 (hwk hw 38 rfl)) (by decide) (backOf (W := 0) (rn0 l Z a0 hw [] a105 b105 kc105 (4 : Int32) ([(.int (99 : Int32)), (.int (97 : Int32)), (.int (108 : Int32)), (.int (108 : Int32))]) w_UsageKind_SMS w_UsageKind_CALL w_UsageKind_DATA w_UsageKind__VALUES w_UsageKind_LOCAL_DATA w_UsageKind_CALL_written w_UsageKind_CALL_written_value k_w_UsageKind__VALUES k_w_UsageKind_CALL_written_value zc h115 n0 O126 c118 c119 c120 c121 own_os0 E_w_UsageKind_CALL S_UsageKind__VALUES E_w_UsageKind__VALUES V_w_UsageKind__VALUES F_w_UsageKind_CALL_written E_w_UsageKind_CALL_written F_w_UsageKind_CALL_written_value F_w_UsageKind_CALL_written_coder V_w_UsageKind_CALL_written_value SZ PZ) hZ105 (hwk hw 38 rfl) (hwk hw 1 rfl) (by decide) (by decide)) (g := (mkF m 236 #[.val (.int p0), .val (.int p1), .val (.int (p0 &&& (3 : Int32))), .val (.int (p1 &&& (3 : Int32))), .val (.ref w_UsageKind_CALL), .val (.ref a105), .val (.ref b107), .val (.ref a105), .unset] [(.ref a105)])) rfl (by rw [hml]; rfl) (argsL := [(.ref a105)]) (rest := []) (lenOf pd_2 rfl) rfl (by show 2 * 0 + _ ≤ _; exact Nat.le_of_eq rfl) (hb hby at_236) (fun _ _ => ⟨rfl, e115, (by decide : 3 + 1 ≤ _), (by decide : 24 + 4 ≤ _)⟩)
      dsimp only [Pt.U, Pt.locs, Pt.cells, Pt.slots] at X127 l127 y127 z127 st127 hQ127
      subst l127 y127 z127
      unfold Q_rn0 at hQ127
      obtain ⟨rfl, N127q, K127⟩ := hQ127
      have N127 := Fr.app N115 N127q
      have O129 : Old Z n0 T127.heap := Old.keep O126 K127 all0
      have c128 : Fld Z T127.heap w_UsageKind_CALL "com/example/bill_run/billrun/UsageKind" "written" "Ljava/lang/String;" (.ref w_UsageKind_CALL_written) := Fld.ext (O129).2 F_w_UsageKind_CALL_written
      have c131 : Exa Z T127.heap w_UsageKind_CALL "com/example/bill_run/billrun/UsageKind" := Exa.ext (O129).2 E_w_UsageKind_CALL
      obtain ⟨cq130, kq130, q130a, q130b, q130c⟩ := isOf hZ105 (rfl : T127.heap = T127.heap) c131
      obtain ⟨_, _, ⟨T130, L130, k130, n130⟩, -, X130, ⟨Lc130, hQ130, l130, y130, z130⟩, st130⟩ := X127.virtualBack hx (y := (⟨"com/example/bill_run/billrun/UsageKind", "toString", "()Ljava/lang/String;"⟩ : MethodName)) (z := (⟨"com/example/bill_run/billrun/UsageKind", "toString", "()Ljava/lang/String;"⟩ : MethodName)) hown105 (mvT hZ105 (hwk hw 69 rfl)) (mvT hZ105 (hwk hw 70 rfl)) (notFace_of_selects (args := #[]) (mvT hZ105 (hwk hw 72 rfl))) (mvT hZ105 (hwk hw 72 rfl)) (mvT hZ105 (hwk hw 71 rfl)) (by decide) (backOf (W := 0) (rm11 l Z a0 hw [] w_UsageKind_CALL w_UsageKind_CALL_written T127.heap n0 O129 c128) hZ105 (hwk hw 73 rfl) (hwk hw 1 rfl) (by decide) (by decide)) q130a q130c (g := (mkF m 250 #[.val (.int p0), .val (.int p1), .val (.int (p0 &&& (3 : Int32))), .val (.int (p1 &&& (3 : Int32))), .val (.ref w_UsageKind_CALL), .val (.ref a105), .val (.ref b107), .val (.ref a105), .val (.ref w_UsageKind_CALL)] [(.ref w_UsageKind_CALL)])) rfl (by rw [hml]; rfl) (Steps.refl _) (argsL := []) (rest := []) (lenOf pd_3 rfl) rfl (by show 2 * 0 + _ ≤ _; exact Nat.le_of_eq rfl) (hb hby at_250) (fun _ _ => ⟨rfl, (rfl : T127.heap = T127.heap), (by decide : 4 + 0 ≤ _), (by decide : 28 + 0 ≤ _)⟩)
      dsimp only [Pt.U, Pt.locs, Pt.cells, Pt.slots] at X130 l130 y130 z130 st130 hQ130
      subst l130 y130 z130
      unfold Q_rm11 at hQ130
      obtain ⟨rfl, N130q, e130⟩ := hQ130
      have N130 := Fr.app N127 N130q
      have hws132 : ∀ d ∈ StrChars.Road.wordsEq, d.before a0 Z = true := fun d hd => hw d ((by decide +kernel : ∀ d ∈ StrChars.Road.wordsEq, d ∈ tables_1) d hd)
      have c133 : Exa Z T127.heap w_UsageKind_CALL_written "java/lang/String" := Exa.ext (O129).2 E_w_UsageKind_CALL_written
      have c134 : Fld Z T127.heap w_UsageKind_CALL_written "java/lang/String" "value" "[B" (.ref w_UsageKind_CALL_written_value) := Fld.ext (O129).2 F_w_UsageKind_CALL_written_value
      have c135 : Fld Z T127.heap w_UsageKind_CALL_written "java/lang/String" "coder" "B" (.int (0 : Int32)) := Fld.ext (O129).2 F_w_UsageKind_CALL_written_coder
      have c136 : Arv Z T127.heap w_UsageKind_CALL_written_value k_w_UsageKind_CALL_written_value .byte (4 : Int32) [(.int (99 : Int32)), (.int (97 : Int32)), (.int (108 : Int32)), (.int (108 : Int32))] (.int (0 : Int32)) := V_w_UsageKind_CALL_written_value.ext O129.2
      have c137 : Exa Z T127.heap a105 "java/lang/String" := (Exa.keep c118 K127)
      have c138 : Fld Z T127.heap a105 "java/lang/String" "value" "[B" (.ref b105) := (Fld.keep c119 K127 nin0)
      have c139 : Fld Z T127.heap a105 "java/lang/String" "coder" "B" (.int (0 : Int32)) := (Fld.keep c120 K127 nin0)
      have c140 : Arv Z T127.heap b105 kc105 .byte (4 : Int32) [(.int (99 : Int32)), (.int (97 : Int32)), (.int (108 : Int32)), (.int (108 : Int32))] (.int 0) := (Arv.keep c121 K127 nin0)
      have c141 : Sta Z T127.heap "java/lang/String" "COMPACT_STRINGS" "Z" (.int zc) := Sta.ext (O129).2 SZ
      obtain ⟨cq142, kq142, q142a, q142b, q142c⟩ := isOf hZ105 e130 c133
      obtain ⟨_, _, ⟨T142, L142, k142, n142⟩, -, X142, ⟨Lc142, hQ142, l142, y142, z142⟩, st142⟩ := X130.virtualBack hx (y := (⟨"java/lang/String", "equals", "(Ljava/lang/Object;)Z"⟩ : MethodName)) (z := (⟨"java/lang/String", "equals", "(Ljava/lang/Object;)Z"⟩ : MethodName)) hown105 (mvT hZ105 (hwk hw 74 rfl)) (mvT hZ105 (hwk hw 60 rfl)) (notFace_of_selects (args := #[]) (mvT hZ105 (hwk hw 62 rfl))) (mvT hZ105 (hwk hw 62 rfl)) (mvT hZ105 (hwk hw 61 rfl)) (by decide) (StrChars.Road.eqW (W := 0) hZ105 hws132 (kI := 4) (hwk hw 5 rfl) c133 c134 c135 c136 own_os0.1 own_os0.2.1 own_os0.2.2 c137 c138 c139 c140 own_os0.1 own_os0.2.1 own_os0.2.2 c141 PZ (by decide) (by decide)) q142a q142c (g := (mkF m 255 #[.val (.int p0), .val (.int p1), .val (.int (p0 &&& (3 : Int32))), .val (.int (p1 &&& (3 : Int32))), .val (.ref w_UsageKind_CALL), .val (.ref a105), .val (.ref b107), .val (.ref a105), .val (.ref w_UsageKind_CALL)] [(.ref a105), (.ref w_UsageKind_CALL_written)])) rfl (by rw [hml]; rfl) (Steps.refl _) (argsL := [(.ref a105)]) (rest := []) (lenOf pd_1 rfl) rfl (by show 2 * 0 + _ ≤ _; exact Nat.le_of_eq rfl) (hb hby at_255) (fun _ _ => ⟨rfl, e130, (by decide : 4 + 0 ≤ _), (by decide : 28 + 0 ≤ _)⟩)
      dsimp only [Pt.U, Pt.locs, Pt.cells, Pt.slots] at X142 l142 y142 z142 st142 hQ142
      subst l142 y142 z142
      obtain ⟨hv142, hl142, e142⟩ := hQ142
      cases own_vm hv142
      have N142 := Fr.app N130 (own_frnil hl142)
      have K143 : Keep h0 h105 [] := Keep.ext (Keep.refl h0 []) E105
      have K144 : Keep h0 h107 [] := Keep.ext K143 E107
      have K145 : Keep h0 h109 [] := Keep.wr K144 W109 (Or.inr (Nat.le_trans (Nat.le_trans (Nat.le_refl _) E105.1) (Nat.le_of_eq g107.symm)))
      have K146 : Keep h0 h111 [] := Keep.wr K145 W111 (Or.inr (Nat.le_trans (Nat.le_trans (Nat.le_refl _) E105.1) (Nat.le_of_eq g107.symm)))
      have K147 : Keep h0 h113 [] := Keep.wr K146 W113 (Or.inr (Nat.le_trans (Nat.le_trans (Nat.le_refl _) E105.1) (Nat.le_of_eq g107.symm)))
      have K148 : Keep h0 h115 [] := Keep.wr K147 W115 (Or.inr (Nat.le_trans (Nat.le_trans (Nat.le_refl _) E105.1) (Nat.le_of_eq g107.symm)))
      have K149 : Keep h0 T127.heap [] := Keep.trans K148 K127 all0
      have CR150 : CHr Z consts_1 s.vm h0 T105.vm h105 := CHr.trans CR0 CX105
      have CR151 : CHr Z consts_1 s.vm h0 T105.vm h107 := CHr.trans CR150 (CHr.ext E107 CR150.1)
      have Sf152 : Safe Z consts_1 T105.vm h105 b107 := Safe.new (Nat.le_of_eq g107.symm)
      have Sf153 : Safe Z consts_1 T105.vm h107 b107 := (Safe.ext E107 CR150.1 Sf152)
      have CR154 : CHr Z consts_1 s.vm h0 T105.vm h109 := CHr.trans CR151 (CHr.wr W109 Sf153 CR151.1)
      have Sf155 : Safe Z consts_1 T105.vm h109 b107 := (Safe.wr W109 Sf153 CR151.1 Sf153)
      have CR156 : CHr Z consts_1 s.vm h0 T105.vm h111 := CHr.trans CR154 (CHr.wr W111 Sf155 CR154.1)
      have Sf157 : Safe Z consts_1 T105.vm h111 b107 := (Safe.wr W111 Sf155 CR154.1 Sf155)
      have CR158 : CHr Z consts_1 s.vm h0 T105.vm h113 := CHr.trans CR156 (CHr.wr W113 Sf157 CR156.1)
      have Sf159 : Safe Z consts_1 T105.vm h113 b107 := (Safe.wr W113 Sf157 CR156.1 Sf157)
      have CR160 : CHr Z consts_1 s.vm h0 T105.vm h115 := CHr.trans CR158 (CHr.wr W115 Sf159 CR158.1)
      have CR161 : CHr Z consts_1 s.vm h0 T105.vm T127.heap := CHr.trans CR160 (CHr.keep K127 all0 CR160.1)
      obtain ⟨fs, hr, hrun, hended, hRE⟩ := X142.leaveW hS105 (show _ ≤ T142.heap.size from by rw [e142]; exact (Nat.le_trans hk105 (Nat.le_trans (Nat.le_trans (Nat.le_trans (Nat.le_trans (Nat.le_trans (Nat.le_trans (Nat.le_refl _) E107.1) (Nat.le_of_eq W109.size.symm)) (Nat.le_of_eq W111.size.symm)) (Nat.le_of_eq W113.size.symm)) (Nat.le_of_eq W115.size.symm)) K127.1))) (v := some (.int (1 : Int32))) (fun h => by rw [Bd.returns] at h; cases h)
      have CRl : CHr Z consts_1 s.vm s.heap (T142.setFrames fs).vm (T142.setFrames fs).heap := by
        have q := CHr.trans CR161 (CHv.at X142 hZ105 hEL CR161.1)
        rw [← hh, ← e142] at q
        exact q
      refine ⟨_, _, S117 _ ?_, hrun, hended, _, _, rfl, ?_, CRl, hRE.1, hRE.2.1, hRE.2.2.1, hRE.2.2.2.mono (by decide) (by decide)⟩
      · show Steps p.tables e below (T115.setTop (mkF m 198 #[.val (.int p0), .val (.int p1), .val (.int (p0 &&& (3 : Int32))), .val (.int (p1 &&& (3 : Int32))), .val (.ref w_UsageKind_CALL), .val (.ref a105), .val (.ref b107), .unset, .unset] [(.int (p1 &&& (3 : Int32)))])) _
        refine XS.ifNo X115.here hx rfl (hb hby at_198) rfl ((if0 _ _).trans (teq hc116).2) ?_
        show Steps p.tables e below (T115.setTop (mkF m 201 #[.val (.int p0), .val (.int p1), .val (.int (p0 &&& (3 : Int32))), .val (.int (p1 &&& (3 : Int32))), .val (.ref w_UsageKind_CALL), .val (.ref a105), .val (.ref b107), .unset, .unset] [])) _
        refine XS.aload X115.here hx rfl (hb hby at_201) rfl rfl ?_
        show Steps p.tables e below (T115.setTop (mkF m 203 #[.val (.int p0), .val (.int p1), .val (.int (p0 &&& (3 : Int32))), .val (.int (p1 &&& (3 : Int32))), .val (.ref w_UsageKind_CALL), .val (.ref a105), .val (.ref b107), .unset, .unset] [(.ref a105)])) _
        refine XS.astore X115.here hx rfl (hb hby at_203) rfl rfl (l' := #[.val (.int p0), .val (.int p1), .val (.int (p0 &&& (3 : Int32))), .val (.int (p1 &&& (3 : Int32))), .val (.ref w_UsageKind_CALL), .val (.ref a105), .val (.ref b107), .val (.ref a105), .unset]) rfl ?_
        show Steps p.tables e below (T115.setTop (mkF m 205 #[.val (.int p0), .val (.int p1), .val (.int (p0 &&& (3 : Int32))), .val (.int (p1 &&& (3 : Int32))), .val (.ref w_UsageKind_CALL), .val (.ref a105), .val (.ref b107), .val (.ref a105), .unset] [])) _
        refine XS.goto X115.here hx rfl (pc0 := 205) (pc' := 234) rfl (hb hby at_205) (by decide) (by decide) ?_
        show Steps p.tables e below (T115.setTop (mkF m 234 #[.val (.int p0), .val (.int p1), .val (.int (p0 &&& (3 : Int32))), .val (.int (p1 &&& (3 : Int32))), .val (.ref w_UsageKind_CALL), .val (.ref a105), .val (.ref b107), .val (.ref a105), .unset] [])) _
        refine XS.aload X115.here hx rfl (hb hby at_234) rfl rfl ?_
        show Steps p.tables e below (T115.setTop (mkF m 236 #[.val (.int p0), .val (.int p1), .val (.int (p0 &&& (3 : Int32))), .val (.int (p1 &&& (3 : Int32))), .val (.ref w_UsageKind_CALL), .val (.ref a105), .val (.ref b107), .val (.ref a105), .unset] [(.ref a105)])) _
        refine st127 _ ?_
        show Steps p.tables e below (T127.setTop (mkF m 239 #[.val (.int p0), .val (.int p1), .val (.int (p0 &&& (3 : Int32))), .val (.int (p1 &&& (3 : Int32))), .val (.ref w_UsageKind_CALL), .val (.ref a105), .val (.ref b107), .val (.ref a105), .unset] [(.ref w_UsageKind_CALL)])) _
        refine XS.astore X127.here hx rfl (hb hby at_239) rfl rfl (l' := #[.val (.int p0), .val (.int p1), .val (.int (p0 &&& (3 : Int32))), .val (.int (p1 &&& (3 : Int32))), .val (.ref w_UsageKind_CALL), .val (.ref a105), .val (.ref b107), .val (.ref a105), .val (.ref w_UsageKind_CALL)]) rfl ?_
        show Steps p.tables e below (T127.setTop (mkF m 241 #[.val (.int p0), .val (.int p1), .val (.int (p0 &&& (3 : Int32))), .val (.int (p1 &&& (3 : Int32))), .val (.ref w_UsageKind_CALL), .val (.ref a105), .val (.ref b107), .val (.ref a105), .val (.ref w_UsageKind_CALL)] [])) _
        refine XS.aload X127.here hx rfl (hb hby at_241) rfl rfl ?_
        show Steps p.tables e below (T127.setTop (mkF m 243 #[.val (.int p0), .val (.int p1), .val (.int (p0 &&& (3 : Int32))), .val (.int (p1 &&& (3 : Int32))), .val (.ref w_UsageKind_CALL), .val (.ref a105), .val (.ref b107), .val (.ref a105), .val (.ref w_UsageKind_CALL)] [(.ref w_UsageKind_CALL)])) _
        refine XS.aload X127.here hx rfl (hb hby at_243) rfl rfl ?_
        show Steps p.tables e below (T127.setTop (mkF m 245 #[.val (.int p0), .val (.int p1), .val (.int (p0 &&& (3 : Int32))), .val (.int (p1 &&& (3 : Int32))), .val (.ref w_UsageKind_CALL), .val (.ref a105), .val (.ref b107), .val (.ref a105), .val (.ref w_UsageKind_CALL)] [(.ref w_UsageKind_CALL), (.ref w_UsageKind_CALL)])) _
        refine Jvm.RoadKit.acmp (g := (mkF m 245 #[.val (.int p0), .val (.int p1), .val (.int (p0 &&& (3 : Int32))), .val (.int (p1 &&& (3 : Int32))), .val (.ref w_UsageKind_CALL), .val (.ref a105), .val (.ref b107), .val (.ref a105), .val (.ref w_UsageKind_CALL)] [(.ref w_UsageKind_CALL), (.ref w_UsageKind_CALL)])) X127 hx rfl rfl rfl (pc0 := 245) (pc' := 248) (same := true) rfl (hb hby at_245) rfl (decide_eq_true rfl) (by decide) (by decide) ?_
        show Steps p.tables e below (T127.setTop (mkF m 248 #[.val (.int p0), .val (.int p1), .val (.int (p0 &&& (3 : Int32))), .val (.int (p1 &&& (3 : Int32))), .val (.ref w_UsageKind_CALL), .val (.ref a105), .val (.ref b107), .val (.ref a105), .val (.ref w_UsageKind_CALL)] [])) _
        refine XS.aload X127.here hx rfl (hb hby at_248) rfl rfl ?_
        show Steps p.tables e below (T127.setTop (mkF m 250 #[.val (.int p0), .val (.int p1), .val (.int (p0 &&& (3 : Int32))), .val (.int (p1 &&& (3 : Int32))), .val (.ref w_UsageKind_CALL), .val (.ref a105), .val (.ref b107), .val (.ref a105), .val (.ref w_UsageKind_CALL)] [(.ref w_UsageKind_CALL)])) _
        refine st130.trans ?_
        show Steps p.tables e below (T130.setTop (mkF m 253 #[.val (.int p0), .val (.int p1), .val (.int (p0 &&& (3 : Int32))), .val (.int (p1 &&& (3 : Int32))), .val (.ref w_UsageKind_CALL), .val (.ref a105), .val (.ref b107), .val (.ref a105), .val (.ref w_UsageKind_CALL)] [(.ref w_UsageKind_CALL_written)])) _
        refine XS.aload X130.here hx rfl (hb hby at_253) rfl rfl ?_
        show Steps p.tables e below (T130.setTop (mkF m 255 #[.val (.int p0), .val (.int p1), .val (.int (p0 &&& (3 : Int32))), .val (.int (p1 &&& (3 : Int32))), .val (.ref w_UsageKind_CALL), .val (.ref a105), .val (.ref b107), .val (.ref a105), .val (.ref w_UsageKind_CALL)] [(.ref a105), (.ref w_UsageKind_CALL_written)])) _
        refine st142.trans ?_
        show Steps p.tables e below (T142.setTop (mkF m 258 #[.val (.int p0), .val (.int p1), .val (.int (p0 &&& (3 : Int32))), .val (.int (p1 &&& (3 : Int32))), .val (.ref w_UsageKind_CALL), .val (.ref a105), .val (.ref b107), .val (.ref a105), .val (.ref w_UsageKind_CALL)] [(.int (VM [(99 : Int32), (97 : Int32), (108 : Int32), (108 : Int32)] [(99 : Int32), (97 : Int32), (108 : Int32), (108 : Int32)]))])) _
        refine XS.ifNo X142.here hx rfl (hb hby at_258) rfl ((if0 _ _).trans (feq (own_vm0 _ : ¬ ((VM [(99 : Int32), (97 : Int32), (108 : Int32), (108 : Int32)] [(99 : Int32), (97 : Int32), (108 : Int32), (108 : Int32)]) = (0 : Int32)))).1) ?_
        show Steps p.tables e below (T142.setTop (mkF m 261 #[.val (.int p0), .val (.int p1), .val (.int (p0 &&& (3 : Int32))), .val (.int (p1 &&& (3 : Int32))), .val (.ref w_UsageKind_CALL), .val (.ref a105), .val (.ref b107), .val (.ref a105), .val (.ref w_UsageKind_CALL)] [])) _
        refine XS.iconst X142.here hx rfl (hb hby at_261) ?_
        show Steps p.tables e below (T142.setTop (mkF m 262 #[.val (.int p0), .val (.int p1), .val (.int (p0 &&& (3 : Int32))), .val (.int (p1 &&& (3 : Int32))), .val (.ref w_UsageKind_CALL), .val (.ref a105), .val (.ref b107), .val (.ref a105), .val (.ref w_UsageKind_CALL)] [(.int (1 : Int32))])) _
        refine XS.goto X142.here hx rfl (pc0 := 262) (pc' := 266) rfl (hb hby at_262) (by decide) (by decide) ?_
        show Steps p.tables e below (T142.setTop (mkF m 266 #[.val (.int p0), .val (.int p1), .val (.int (p0 &&& (3 : Int32))), .val (.int (p1 &&& (3 : Int32))), .val (.ref w_UsageKind_CALL), .val (.ref a105), .val (.ref b107), .val (.ref a105), .val (.ref w_UsageKind_CALL)] [(.int (1 : Int32))])) _
        exact Jvm.RoadKit.retOut X142 hx Bd.returns rfl (Or.inl ⟨rfl, by simp, _, rfl⟩) (hb hby at_266) hr
      · show Q_rm0 Z p0 p1 w_UsageKind_SMS w_UsageKind_CALL w_UsageKind_DATA w_UsageKind__VALUES w_UsageKind_LOCAL_DATA w_UsageKind_SMS_written w_UsageKind_CALL_written w_UsageKind_DATA_written w_UsageKind_LOCAL_DATA_written w_UsageKind_SMS_written_value w_UsageKind_CALL_written_value w_UsageKind_DATA_written_value w_UsageKind_LOCAL_DATA_written_value k_w_UsageKind__VALUES k_w_UsageKind_SMS_written_value k_w_UsageKind_CALL_written_value k_w_UsageKind_DATA_written_value k_w_UsageKind_LOCAL_DATA_written_value zc h0 n0 _ T142.heap _
        rw [e142]
        unfold Q_rm0
        exact ⟨rfl, N142, K149⟩
    · have S163 : ∀ t, Steps p.tables e below (T115.setTop (mkF m 210 #[.val (.int p0), .val (.int p1), .val (.int (p0 &&& (3 : Int32))), .val (.int (p1 &&& (3 : Int32))), .val (.ref w_UsageKind_CALL), .val (.ref a105), .val (.ref b107), .unset, .unset] [(.int (2 : Int32)), (.int (p1 &&& (3 : Int32)))])) t → Steps p.tables e below (s₁.setTop (entryFrame m #[(.int p0), (.int p1)] maxLocals)) t := fun t k => by
        refine S117 t ?_
        show Steps p.tables e below (T115.setTop (mkF m 198 #[.val (.int p0), .val (.int p1), .val (.int (p0 &&& (3 : Int32))), .val (.int (p1 &&& (3 : Int32))), .val (.ref w_UsageKind_CALL), .val (.ref a105), .val (.ref b107), .unset, .unset] [(.int (p1 &&& (3 : Int32)))])) _
        refine XS.ifYes X115.here hx rfl (pc0 := 198) (pc' := 208) rfl (hb hby at_198) rfl ((if0 _ _).trans (feq hc116).2) (by decide) (by decide) ?_
        show Steps p.tables e below (T115.setTop (mkF m 208 #[.val (.int p0), .val (.int p1), .val (.int (p0 &&& (3 : Int32))), .val (.int (p1 &&& (3 : Int32))), .val (.ref w_UsageKind_CALL), .val (.ref a105), .val (.ref b107), .unset, .unset] [])) _
        refine XS.iloadN X115.here hx rfl (hb hby at_208) rfl ?_
        show Steps p.tables e below (T115.setTop (mkF m 209 #[.val (.int p0), .val (.int p1), .val (.int (p0 &&& (3 : Int32))), .val (.int (p1 &&& (3 : Int32))), .val (.ref w_UsageKind_CALL), .val (.ref a105), .val (.ref b107), .unset, .unset] [(.int (p1 &&& (3 : Int32)))])) _
        refine XS.iconst X115.here hx rfl (hb hby at_209) ?_
        exact k
      by_cases hc162 : (p1 &&& (3 : Int32)) = (2 : Int32)
      · have O165 : Old Z n0 h107 := Old.ext O106 E107
        have O166 : Old Z n0 h109 := Old.wr O165 W109 g_b107
        have O167 : Old Z n0 h111 := Old.wr O166 W111 g_b107
        have O168 : Old Z n0 h113 := Old.wr O167 W113 g_b107
        have O169 : Old Z n0 h115 := Old.wr O168 W115 g_b107
        have c164 : Fld Z h115 w_UsageKind_CALL "com/example/bill_run/billrun/UsageKind" "written" "Ljava/lang/String;" (.ref w_UsageKind_CALL_written) := Fld.ext (O169).2 F_w_UsageKind_CALL_written
        have c171 : Exa Z h115 w_UsageKind_CALL "com/example/bill_run/billrun/UsageKind" := Exa.ext (O169).2 E_w_UsageKind_CALL
        obtain ⟨cq170, kq170, q170a, q170b, q170c⟩ := isOf hZ105 e115 c171
        obtain ⟨_, _, ⟨T170, L170, k170, n170⟩, -, X170, ⟨Lc170, hQ170, l170, y170, z170⟩, st170⟩ := X115.virtualBack hx (y := (⟨"com/example/bill_run/billrun/UsageKind", "toString", "()Ljava/lang/String;"⟩ : MethodName)) (z := (⟨"com/example/bill_run/billrun/UsageKind", "toString", "()Ljava/lang/String;"⟩ : MethodName)) hown105 (mvT hZ105 (hwk hw 69 rfl)) (mvT hZ105 (hwk hw 70 rfl)) (notFace_of_selects (args := #[]) (mvT hZ105 (hwk hw 72 rfl))) (mvT hZ105 (hwk hw 72 rfl)) (mvT hZ105 (hwk hw 71 rfl)) (by decide) (backOf (W := 0) (rm11 l Z a0 hw [] w_UsageKind_CALL w_UsageKind_CALL_written h115 n0 O169 c164) hZ105 (hwk hw 73 rfl) (hwk hw 1 rfl) (by decide) (by decide)) q170a q170c (g := (mkF m 215 #[.val (.int p0), .val (.int p1), .val (.int (p0 &&& (3 : Int32))), .val (.int (p1 &&& (3 : Int32))), .val (.ref w_UsageKind_CALL), .val (.ref a105), .val (.ref b107), .unset, .unset] [(.ref w_UsageKind_CALL)])) rfl (by rw [hml]; rfl) (Steps.refl _) (argsL := []) (rest := []) (lenOf pd_3 rfl) rfl (by show 2 * 0 + _ ≤ _; exact Nat.le_of_eq rfl) (hb hby at_215) (fun _ _ => ⟨rfl, e115, (by decide : 3 + 0 ≤ _), (by decide : 24 + 0 ≤ _)⟩)
        dsimp only [Pt.U, Pt.locs, Pt.cells, Pt.slots] at X170 l170 y170 z170 st170 hQ170
        subst l170 y170 z170
        unfold Q_rm11 at hQ170
        obtain ⟨rfl, N170q, e170⟩ := hQ170
        have N170 := Fr.app N115 N170q
        have c172 : Exa Z h115 w_UsageKind_CALL_written "java/lang/String" := Exa.ext (O169).2 E_w_UsageKind_CALL_written
        have c173 : Fld Z h115 w_UsageKind_CALL_written "java/lang/String" "value" "[B" (.ref w_UsageKind_CALL_written_value) := Fld.ext (O169).2 F_w_UsageKind_CALL_written_value
        have c174 : Fld Z h115 w_UsageKind_CALL_written "java/lang/String" "coder" "B" (.int (0 : Int32)) := Fld.ext (O169).2 F_w_UsageKind_CALL_written_coder
        have c175 : Arv Z h115 w_UsageKind_CALL_written_value k_w_UsageKind_CALL_written_value .byte (4 : Int32) [(.int (99 : Int32)), (.int (97 : Int32)), (.int (108 : Int32)), (.int (108 : Int32))] (.int (0 : Int32)) := V_w_UsageKind_CALL_written_value.ext O169.2
        obtain ⟨_, _, ⟨T176, L176, k176, n176⟩, -, X176, ⟨Lc176, hQ176, l176, y176, z176⟩, st176⟩ := Jvm.LawKit.callS X170 hx (y := (⟨"com/example/bill_run/billrun/UsageKind", "named", "(Ljava/lang/String;)Lcom/example/bill_run/billrun/UsageKind;"⟩ : MethodName)) hown105 (mvT hZ105 (hwk hw 36 rfl)) (mvT hZ105 (hwk hw 37 rfl)) (mvT hZ105 (hwk hw 1 rfl)) (mvT hZ105 (hwk hw 38 rfl)) (by decide) (backOf (W := 0) (rn0 l Z a0 hw [] w_UsageKind_CALL_written w_UsageKind_CALL_written_value k_w_UsageKind_CALL_written_value (4 : Int32) ([(.int (99 : Int32)), (.int (97 : Int32)), (.int (108 : Int32)), (.int (108 : Int32))]) w_UsageKind_SMS w_UsageKind_CALL w_UsageKind_DATA w_UsageKind__VALUES w_UsageKind_LOCAL_DATA w_UsageKind_CALL_written w_UsageKind_CALL_written_value k_w_UsageKind__VALUES k_w_UsageKind_CALL_written_value zc h115 n0 O169 c172 c173 c174 c175 own_os0 E_w_UsageKind_CALL S_UsageKind__VALUES E_w_UsageKind__VALUES V_w_UsageKind__VALUES F_w_UsageKind_CALL_written E_w_UsageKind_CALL_written F_w_UsageKind_CALL_written_value F_w_UsageKind_CALL_written_coder V_w_UsageKind_CALL_written_value SZ PZ) hZ105 (hwk hw 38 rfl) (hwk hw 1 rfl) (by decide) (by decide)) (g := (mkF m 236 #[.val (.int p0), .val (.int p1), .val (.int (p0 &&& (3 : Int32))), .val (.int (p1 &&& (3 : Int32))), .val (.ref w_UsageKind_CALL), .val (.ref a105), .val (.ref b107), .val (.ref w_UsageKind_CALL_written), .unset] [(.ref w_UsageKind_CALL_written)])) rfl (by rw [hml]; rfl) (argsL := [(.ref w_UsageKind_CALL_written)]) (rest := []) (lenOf pd_2 rfl) rfl (by show 2 * 0 + _ ≤ _; exact Nat.le_of_eq rfl) (hb hby at_236) (fun _ _ => ⟨rfl, e170, (by decide : 3 + 1 ≤ _), (by decide : 24 + 4 ≤ _)⟩)
        dsimp only [Pt.U, Pt.locs, Pt.cells, Pt.slots] at X176 l176 y176 z176 st176 hQ176
        subst l176 y176 z176
        unfold Q_rn0 at hQ176
        obtain ⟨rfl, N176q, K176⟩ := hQ176
        have N176 := Fr.app N170 N176q
        have O178 : Old Z n0 T176.heap := Old.keep O169 K176 all0
        have c177 : Fld Z T176.heap w_UsageKind_CALL "com/example/bill_run/billrun/UsageKind" "written" "Ljava/lang/String;" (.ref w_UsageKind_CALL_written) := Fld.ext (O178).2 F_w_UsageKind_CALL_written
        have c180 : Exa Z T176.heap w_UsageKind_CALL "com/example/bill_run/billrun/UsageKind" := Exa.ext (O178).2 E_w_UsageKind_CALL
        obtain ⟨cq179, kq179, q179a, q179b, q179c⟩ := isOf hZ105 (rfl : T176.heap = T176.heap) c180
        obtain ⟨_, _, ⟨T179, L179, k179, n179⟩, -, X179, ⟨Lc179, hQ179, l179, y179, z179⟩, st179⟩ := X176.virtualBack hx (y := (⟨"com/example/bill_run/billrun/UsageKind", "toString", "()Ljava/lang/String;"⟩ : MethodName)) (z := (⟨"com/example/bill_run/billrun/UsageKind", "toString", "()Ljava/lang/String;"⟩ : MethodName)) hown105 (mvT hZ105 (hwk hw 69 rfl)) (mvT hZ105 (hwk hw 70 rfl)) (notFace_of_selects (args := #[]) (mvT hZ105 (hwk hw 72 rfl))) (mvT hZ105 (hwk hw 72 rfl)) (mvT hZ105 (hwk hw 71 rfl)) (by decide) (backOf (W := 0) (rm11 l Z a0 hw [] w_UsageKind_CALL w_UsageKind_CALL_written T176.heap n0 O178 c177) hZ105 (hwk hw 73 rfl) (hwk hw 1 rfl) (by decide) (by decide)) q179a q179c (g := (mkF m 250 #[.val (.int p0), .val (.int p1), .val (.int (p0 &&& (3 : Int32))), .val (.int (p1 &&& (3 : Int32))), .val (.ref w_UsageKind_CALL), .val (.ref a105), .val (.ref b107), .val (.ref w_UsageKind_CALL_written), .val (.ref w_UsageKind_CALL)] [(.ref w_UsageKind_CALL)])) rfl (by rw [hml]; rfl) (Steps.refl _) (argsL := []) (rest := []) (lenOf pd_3 rfl) rfl (by show 2 * 0 + _ ≤ _; exact Nat.le_of_eq rfl) (hb hby at_250) (fun _ _ => ⟨rfl, (rfl : T176.heap = T176.heap), (by decide : 4 + 0 ≤ _), (by decide : 28 + 0 ≤ _)⟩)
        dsimp only [Pt.U, Pt.locs, Pt.cells, Pt.slots] at X179 l179 y179 z179 st179 hQ179
        subst l179 y179 z179
        unfold Q_rm11 at hQ179
        obtain ⟨rfl, N179q, e179⟩ := hQ179
        have N179 := Fr.app N176 N179q
        have hws181 : ∀ d ∈ StrChars.Road.wordsEq, d.before a0 Z = true := fun d hd => hw d ((by decide +kernel : ∀ d ∈ StrChars.Road.wordsEq, d ∈ tables_1) d hd)
        have c182 : Exa Z T176.heap w_UsageKind_CALL_written "java/lang/String" := Exa.ext (O178).2 E_w_UsageKind_CALL_written
        have c183 : Fld Z T176.heap w_UsageKind_CALL_written "java/lang/String" "value" "[B" (.ref w_UsageKind_CALL_written_value) := Fld.ext (O178).2 F_w_UsageKind_CALL_written_value
        have c184 : Fld Z T176.heap w_UsageKind_CALL_written "java/lang/String" "coder" "B" (.int (0 : Int32)) := Fld.ext (O178).2 F_w_UsageKind_CALL_written_coder
        have c185 : Arv Z T176.heap w_UsageKind_CALL_written_value k_w_UsageKind_CALL_written_value .byte (4 : Int32) [(.int (99 : Int32)), (.int (97 : Int32)), (.int (108 : Int32)), (.int (108 : Int32))] (.int (0 : Int32)) := V_w_UsageKind_CALL_written_value.ext O178.2
        have c186 : Exa Z T176.heap a105 "java/lang/String" := (Exa.keep (Exa.wr W115 (Exa.wr W113 (Exa.wr W111 (Exa.wr W109 (Exa.ext E107 Ex105))))) K176)
        have c187 : Fld Z T176.heap a105 "java/lang/String" "value" "[B" (.ref b105) := (Fld.keep (Fld.other W115 (Fld.other W113 (Fld.other W111 (Fld.other W109 (Fld.ext E107 Fv105) (Or.inl (Nat.ne_of_lt (Nat.lt_of_lt_of_le (Ex105).lt (Nat.le_of_eq g107.symm))))) (Or.inl (Nat.ne_of_lt (Nat.lt_of_lt_of_le (Ex105).lt (Nat.le_of_eq g107.symm))))) (Or.inl (Nat.ne_of_lt (Nat.lt_of_lt_of_le (Ex105).lt (Nat.le_of_eq g107.symm))))) (Or.inl (Nat.ne_of_lt (Nat.lt_of_lt_of_le (Ex105).lt (Nat.le_of_eq g107.symm))))) K176 nin0)
        have c188 : Fld Z T176.heap a105 "java/lang/String" "coder" "B" (.int (0 : Int32)) := (Fld.keep (Fld.other W115 (Fld.other W113 (Fld.other W111 (Fld.other W109 (Fld.ext E107 Fc105) (Or.inl (Nat.ne_of_lt (Nat.lt_of_lt_of_le (Ex105).lt (Nat.le_of_eq g107.symm))))) (Or.inl (Nat.ne_of_lt (Nat.lt_of_lt_of_le (Ex105).lt (Nat.le_of_eq g107.symm))))) (Or.inl (Nat.ne_of_lt (Nat.lt_of_lt_of_le (Ex105).lt (Nat.le_of_eq g107.symm))))) (Or.inl (Nat.ne_of_lt (Nat.lt_of_lt_of_le (Ex105).lt (Nat.le_of_eq g107.symm))))) K176 nin0)
        have c189 : Arv Z T176.heap b105 kc105 .byte (4 : Int32) [(.int (99 : Int32)), (.int (97 : Int32)), (.int (108 : Int32)), (.int (108 : Int32))] (.int 0) := (Arv.keep (Arv.other (Arv.other (Arv.other (Arv.other (Av105.ext E107) W109 (Nat.ne_of_lt (Nat.lt_of_lt_of_le (Av105).lt (Nat.le_of_eq g107.symm)))) W111 (Nat.ne_of_lt (Nat.lt_of_lt_of_le (Av105).lt (Nat.le_of_eq g107.symm)))) W113 (Nat.ne_of_lt (Nat.lt_of_lt_of_le (Av105).lt (Nat.le_of_eq g107.symm)))) W115 (Nat.ne_of_lt (Nat.lt_of_lt_of_le (Av105).lt (Nat.le_of_eq g107.symm)))) K176 nin0)
        have c190 : Sta Z T176.heap "java/lang/String" "COMPACT_STRINGS" "Z" (.int zc) := Sta.ext (O178).2 SZ
        obtain ⟨cq191, kq191, q191a, q191b, q191c⟩ := isOf hZ105 e179 c182
        obtain ⟨_, _, ⟨T191, L191, k191, n191⟩, -, X191, ⟨Lc191, hQ191, l191, y191, z191⟩, st191⟩ := X179.virtualBack hx (y := (⟨"java/lang/String", "equals", "(Ljava/lang/Object;)Z"⟩ : MethodName)) (z := (⟨"java/lang/String", "equals", "(Ljava/lang/Object;)Z"⟩ : MethodName)) hown105 (mvT hZ105 (hwk hw 74 rfl)) (mvT hZ105 (hwk hw 60 rfl)) (notFace_of_selects (args := #[]) (mvT hZ105 (hwk hw 62 rfl))) (mvT hZ105 (hwk hw 62 rfl)) (mvT hZ105 (hwk hw 61 rfl)) (by decide) (StrChars.Road.eqW (W := 0) hZ105 hws181 (kI := 4) (hwk hw 5 rfl) c182 c183 c184 c185 own_os0.1 own_os0.2.1 own_os0.2.2 c186 c187 c188 c189 own_os0.1 own_os0.2.1 own_os0.2.2 c190 PZ (by decide) (by decide)) q191a q191c (g := (mkF m 255 #[.val (.int p0), .val (.int p1), .val (.int (p0 &&& (3 : Int32))), .val (.int (p1 &&& (3 : Int32))), .val (.ref w_UsageKind_CALL), .val (.ref a105), .val (.ref b107), .val (.ref w_UsageKind_CALL_written), .val (.ref w_UsageKind_CALL)] [(.ref a105), (.ref w_UsageKind_CALL_written)])) rfl (by rw [hml]; rfl) (Steps.refl _) (argsL := [(.ref a105)]) (rest := []) (lenOf pd_1 rfl) rfl (by show 2 * 0 + _ ≤ _; exact Nat.le_of_eq rfl) (hb hby at_255) (fun _ _ => ⟨rfl, e179, (by decide : 4 + 0 ≤ _), (by decide : 28 + 0 ≤ _)⟩)
        dsimp only [Pt.U, Pt.locs, Pt.cells, Pt.slots] at X191 l191 y191 z191 st191 hQ191
        subst l191 y191 z191
        obtain ⟨hv191, hl191, e191⟩ := hQ191
        cases own_vm hv191
        have N191 := Fr.app N179 (own_frnil hl191)
        have K192 : Keep h0 h105 [] := Keep.ext (Keep.refl h0 []) E105
        have K193 : Keep h0 h107 [] := Keep.ext K192 E107
        have K194 : Keep h0 h109 [] := Keep.wr K193 W109 (Or.inr (Nat.le_trans (Nat.le_trans (Nat.le_refl _) E105.1) (Nat.le_of_eq g107.symm)))
        have K195 : Keep h0 h111 [] := Keep.wr K194 W111 (Or.inr (Nat.le_trans (Nat.le_trans (Nat.le_refl _) E105.1) (Nat.le_of_eq g107.symm)))
        have K196 : Keep h0 h113 [] := Keep.wr K195 W113 (Or.inr (Nat.le_trans (Nat.le_trans (Nat.le_refl _) E105.1) (Nat.le_of_eq g107.symm)))
        have K197 : Keep h0 h115 [] := Keep.wr K196 W115 (Or.inr (Nat.le_trans (Nat.le_trans (Nat.le_refl _) E105.1) (Nat.le_of_eq g107.symm)))
        have K198 : Keep h0 T176.heap [] := Keep.trans K197 K176 all0
        have CR199 : CHr Z consts_1 s.vm h0 T105.vm h105 := CHr.trans CR0 CX105
        have CR200 : CHr Z consts_1 s.vm h0 T105.vm h107 := CHr.trans CR199 (CHr.ext E107 CR199.1)
        have Sf201 : Safe Z consts_1 T105.vm h105 b107 := Safe.new (Nat.le_of_eq g107.symm)
        have Sf202 : Safe Z consts_1 T105.vm h107 b107 := (Safe.ext E107 CR199.1 Sf201)
        have CR203 : CHr Z consts_1 s.vm h0 T105.vm h109 := CHr.trans CR200 (CHr.wr W109 Sf202 CR200.1)
        have Sf204 : Safe Z consts_1 T105.vm h109 b107 := (Safe.wr W109 Sf202 CR200.1 Sf202)
        have CR205 : CHr Z consts_1 s.vm h0 T105.vm h111 := CHr.trans CR203 (CHr.wr W111 Sf204 CR203.1)
        have Sf206 : Safe Z consts_1 T105.vm h111 b107 := (Safe.wr W111 Sf204 CR203.1 Sf204)
        have CR207 : CHr Z consts_1 s.vm h0 T105.vm h113 := CHr.trans CR205 (CHr.wr W113 Sf206 CR205.1)
        have Sf208 : Safe Z consts_1 T105.vm h113 b107 := (Safe.wr W113 Sf206 CR205.1 Sf206)
        have CR209 : CHr Z consts_1 s.vm h0 T105.vm h115 := CHr.trans CR207 (CHr.wr W115 Sf208 CR207.1)
        have CR210 : CHr Z consts_1 s.vm h0 T105.vm T176.heap := CHr.trans CR209 (CHr.keep K176 all0 CR209.1)
        obtain ⟨fs, hr, hrun, hended, hRE⟩ := X191.leaveW hS105 (show _ ≤ T191.heap.size from by rw [e191]; exact (Nat.le_trans hk105 (Nat.le_trans (Nat.le_trans (Nat.le_trans (Nat.le_trans (Nat.le_trans (Nat.le_trans (Nat.le_refl _) E107.1) (Nat.le_of_eq W109.size.symm)) (Nat.le_of_eq W111.size.symm)) (Nat.le_of_eq W113.size.symm)) (Nat.le_of_eq W115.size.symm)) K176.1))) (v := some (.int (1 : Int32))) (fun h => by rw [Bd.returns] at h; cases h)
        have CRl : CHr Z consts_1 s.vm s.heap (T191.setFrames fs).vm (T191.setFrames fs).heap := by
          have q := CHr.trans CR210 (CHv.at X191 hZ105 hEL CR210.1)
          rw [← hh, ← e191] at q
          exact q
        refine ⟨_, _, S163 _ ?_, hrun, hended, _, _, rfl, ?_, CRl, hRE.1, hRE.2.1, hRE.2.2.1, hRE.2.2.2.mono (by decide) (by decide)⟩
        · show Steps p.tables e below (T115.setTop (mkF m 210 #[.val (.int p0), .val (.int p1), .val (.int (p0 &&& (3 : Int32))), .val (.int (p1 &&& (3 : Int32))), .val (.ref w_UsageKind_CALL), .val (.ref a105), .val (.ref b107), .unset, .unset] [(.int (2 : Int32)), (.int (p1 &&& (3 : Int32)))])) _
          refine XS.icmpNo X115.here hx rfl (hb hby at_210) rfl (teq hc162).2 ?_
          show Steps p.tables e below (T115.setTop (mkF m 213 #[.val (.int p0), .val (.int p1), .val (.int (p0 &&& (3 : Int32))), .val (.int (p1 &&& (3 : Int32))), .val (.ref w_UsageKind_CALL), .val (.ref a105), .val (.ref b107), .unset, .unset] [])) _
          refine XS.aload X115.here hx rfl (hb hby at_213) rfl rfl ?_
          show Steps p.tables e below (T115.setTop (mkF m 215 #[.val (.int p0), .val (.int p1), .val (.int (p0 &&& (3 : Int32))), .val (.int (p1 &&& (3 : Int32))), .val (.ref w_UsageKind_CALL), .val (.ref a105), .val (.ref b107), .unset, .unset] [(.ref w_UsageKind_CALL)])) _
          refine st170.trans ?_
          show Steps p.tables e below (T170.setTop (mkF m 218 #[.val (.int p0), .val (.int p1), .val (.int (p0 &&& (3 : Int32))), .val (.int (p1 &&& (3 : Int32))), .val (.ref w_UsageKind_CALL), .val (.ref a105), .val (.ref b107), .unset, .unset] [(.ref w_UsageKind_CALL_written)])) _
          refine XS.astore X170.here hx rfl (hb hby at_218) rfl rfl (l' := #[.val (.int p0), .val (.int p1), .val (.int (p0 &&& (3 : Int32))), .val (.int (p1 &&& (3 : Int32))), .val (.ref w_UsageKind_CALL), .val (.ref a105), .val (.ref b107), .val (.ref w_UsageKind_CALL_written), .unset]) rfl ?_
          show Steps p.tables e below (T170.setTop (mkF m 220 #[.val (.int p0), .val (.int p1), .val (.int (p0 &&& (3 : Int32))), .val (.int (p1 &&& (3 : Int32))), .val (.ref w_UsageKind_CALL), .val (.ref a105), .val (.ref b107), .val (.ref w_UsageKind_CALL_written), .unset] [])) _
          refine XS.goto X170.here hx rfl (pc0 := 220) (pc' := 234) rfl (hb hby at_220) (by decide) (by decide) ?_
          show Steps p.tables e below (T170.setTop (mkF m 234 #[.val (.int p0), .val (.int p1), .val (.int (p0 &&& (3 : Int32))), .val (.int (p1 &&& (3 : Int32))), .val (.ref w_UsageKind_CALL), .val (.ref a105), .val (.ref b107), .val (.ref w_UsageKind_CALL_written), .unset] [])) _
          refine XS.aload X170.here hx rfl (hb hby at_234) rfl rfl ?_
          show Steps p.tables e below (T170.setTop (mkF m 236 #[.val (.int p0), .val (.int p1), .val (.int (p0 &&& (3 : Int32))), .val (.int (p1 &&& (3 : Int32))), .val (.ref w_UsageKind_CALL), .val (.ref a105), .val (.ref b107), .val (.ref w_UsageKind_CALL_written), .unset] [(.ref w_UsageKind_CALL_written)])) _
          refine st176 _ ?_
          show Steps p.tables e below (T176.setTop (mkF m 239 #[.val (.int p0), .val (.int p1), .val (.int (p0 &&& (3 : Int32))), .val (.int (p1 &&& (3 : Int32))), .val (.ref w_UsageKind_CALL), .val (.ref a105), .val (.ref b107), .val (.ref w_UsageKind_CALL_written), .unset] [(.ref w_UsageKind_CALL)])) _
          refine XS.astore X176.here hx rfl (hb hby at_239) rfl rfl (l' := #[.val (.int p0), .val (.int p1), .val (.int (p0 &&& (3 : Int32))), .val (.int (p1 &&& (3 : Int32))), .val (.ref w_UsageKind_CALL), .val (.ref a105), .val (.ref b107), .val (.ref w_UsageKind_CALL_written), .val (.ref w_UsageKind_CALL)]) rfl ?_
          show Steps p.tables e below (T176.setTop (mkF m 241 #[.val (.int p0), .val (.int p1), .val (.int (p0 &&& (3 : Int32))), .val (.int (p1 &&& (3 : Int32))), .val (.ref w_UsageKind_CALL), .val (.ref a105), .val (.ref b107), .val (.ref w_UsageKind_CALL_written), .val (.ref w_UsageKind_CALL)] [])) _
          refine XS.aload X176.here hx rfl (hb hby at_241) rfl rfl ?_
          show Steps p.tables e below (T176.setTop (mkF m 243 #[.val (.int p0), .val (.int p1), .val (.int (p0 &&& (3 : Int32))), .val (.int (p1 &&& (3 : Int32))), .val (.ref w_UsageKind_CALL), .val (.ref a105), .val (.ref b107), .val (.ref w_UsageKind_CALL_written), .val (.ref w_UsageKind_CALL)] [(.ref w_UsageKind_CALL)])) _
          refine XS.aload X176.here hx rfl (hb hby at_243) rfl rfl ?_
          show Steps p.tables e below (T176.setTop (mkF m 245 #[.val (.int p0), .val (.int p1), .val (.int (p0 &&& (3 : Int32))), .val (.int (p1 &&& (3 : Int32))), .val (.ref w_UsageKind_CALL), .val (.ref a105), .val (.ref b107), .val (.ref w_UsageKind_CALL_written), .val (.ref w_UsageKind_CALL)] [(.ref w_UsageKind_CALL), (.ref w_UsageKind_CALL)])) _
          refine Jvm.RoadKit.acmp (g := (mkF m 245 #[.val (.int p0), .val (.int p1), .val (.int (p0 &&& (3 : Int32))), .val (.int (p1 &&& (3 : Int32))), .val (.ref w_UsageKind_CALL), .val (.ref a105), .val (.ref b107), .val (.ref w_UsageKind_CALL_written), .val (.ref w_UsageKind_CALL)] [(.ref w_UsageKind_CALL), (.ref w_UsageKind_CALL)])) X176 hx rfl rfl rfl (pc0 := 245) (pc' := 248) (same := true) rfl (hb hby at_245) rfl (decide_eq_true rfl) (by decide) (by decide) ?_
          show Steps p.tables e below (T176.setTop (mkF m 248 #[.val (.int p0), .val (.int p1), .val (.int (p0 &&& (3 : Int32))), .val (.int (p1 &&& (3 : Int32))), .val (.ref w_UsageKind_CALL), .val (.ref a105), .val (.ref b107), .val (.ref w_UsageKind_CALL_written), .val (.ref w_UsageKind_CALL)] [])) _
          refine XS.aload X176.here hx rfl (hb hby at_248) rfl rfl ?_
          show Steps p.tables e below (T176.setTop (mkF m 250 #[.val (.int p0), .val (.int p1), .val (.int (p0 &&& (3 : Int32))), .val (.int (p1 &&& (3 : Int32))), .val (.ref w_UsageKind_CALL), .val (.ref a105), .val (.ref b107), .val (.ref w_UsageKind_CALL_written), .val (.ref w_UsageKind_CALL)] [(.ref w_UsageKind_CALL)])) _
          refine st179.trans ?_
          show Steps p.tables e below (T179.setTop (mkF m 253 #[.val (.int p0), .val (.int p1), .val (.int (p0 &&& (3 : Int32))), .val (.int (p1 &&& (3 : Int32))), .val (.ref w_UsageKind_CALL), .val (.ref a105), .val (.ref b107), .val (.ref w_UsageKind_CALL_written), .val (.ref w_UsageKind_CALL)] [(.ref w_UsageKind_CALL_written)])) _
          refine XS.aload X179.here hx rfl (hb hby at_253) rfl rfl ?_
          show Steps p.tables e below (T179.setTop (mkF m 255 #[.val (.int p0), .val (.int p1), .val (.int (p0 &&& (3 : Int32))), .val (.int (p1 &&& (3 : Int32))), .val (.ref w_UsageKind_CALL), .val (.ref a105), .val (.ref b107), .val (.ref w_UsageKind_CALL_written), .val (.ref w_UsageKind_CALL)] [(.ref a105), (.ref w_UsageKind_CALL_written)])) _
          refine st191.trans ?_
          show Steps p.tables e below (T191.setTop (mkF m 258 #[.val (.int p0), .val (.int p1), .val (.int (p0 &&& (3 : Int32))), .val (.int (p1 &&& (3 : Int32))), .val (.ref w_UsageKind_CALL), .val (.ref a105), .val (.ref b107), .val (.ref w_UsageKind_CALL_written), .val (.ref w_UsageKind_CALL)] [(.int (VM [(99 : Int32), (97 : Int32), (108 : Int32), (108 : Int32)] [(99 : Int32), (97 : Int32), (108 : Int32), (108 : Int32)]))])) _
          refine XS.ifNo X191.here hx rfl (hb hby at_258) rfl ((if0 _ _).trans (feq (own_vm0 _ : ¬ ((VM [(99 : Int32), (97 : Int32), (108 : Int32), (108 : Int32)] [(99 : Int32), (97 : Int32), (108 : Int32), (108 : Int32)]) = (0 : Int32)))).1) ?_
          show Steps p.tables e below (T191.setTop (mkF m 261 #[.val (.int p0), .val (.int p1), .val (.int (p0 &&& (3 : Int32))), .val (.int (p1 &&& (3 : Int32))), .val (.ref w_UsageKind_CALL), .val (.ref a105), .val (.ref b107), .val (.ref w_UsageKind_CALL_written), .val (.ref w_UsageKind_CALL)] [])) _
          refine XS.iconst X191.here hx rfl (hb hby at_261) ?_
          show Steps p.tables e below (T191.setTop (mkF m 262 #[.val (.int p0), .val (.int p1), .val (.int (p0 &&& (3 : Int32))), .val (.int (p1 &&& (3 : Int32))), .val (.ref w_UsageKind_CALL), .val (.ref a105), .val (.ref b107), .val (.ref w_UsageKind_CALL_written), .val (.ref w_UsageKind_CALL)] [(.int (1 : Int32))])) _
          refine XS.goto X191.here hx rfl (pc0 := 262) (pc' := 266) rfl (hb hby at_262) (by decide) (by decide) ?_
          show Steps p.tables e below (T191.setTop (mkF m 266 #[.val (.int p0), .val (.int p1), .val (.int (p0 &&& (3 : Int32))), .val (.int (p1 &&& (3 : Int32))), .val (.ref w_UsageKind_CALL), .val (.ref a105), .val (.ref b107), .val (.ref w_UsageKind_CALL_written), .val (.ref w_UsageKind_CALL)] [(.int (1 : Int32))])) _
          exact Jvm.RoadKit.retOut X191 hx Bd.returns rfl (Or.inl ⟨rfl, by simp, _, rfl⟩) (hb hby at_266) hr
        · show Q_rm0 Z p0 p1 w_UsageKind_SMS w_UsageKind_CALL w_UsageKind_DATA w_UsageKind__VALUES w_UsageKind_LOCAL_DATA w_UsageKind_SMS_written w_UsageKind_CALL_written w_UsageKind_DATA_written w_UsageKind_LOCAL_DATA_written w_UsageKind_SMS_written_value w_UsageKind_CALL_written_value w_UsageKind_DATA_written_value w_UsageKind_LOCAL_DATA_written_value k_w_UsageKind__VALUES k_w_UsageKind_SMS_written_value k_w_UsageKind_CALL_written_value k_w_UsageKind_DATA_written_value k_w_UsageKind_LOCAL_DATA_written_value zc h0 n0 _ T191.heap _
          rw [e191]
          unfold Q_rm0
          exact ⟨rfl, N191, K198⟩
      · have O211 : Old Z n0 h107 := Old.ext O106 E107
        have O212 : Old Z n0 h109 := Old.wr O211 W109 g_b107
        have O213 : Old Z n0 h111 := Old.wr O212 W111 g_b107
        have O214 : Old Z n0 h113 := Old.wr O213 W113 g_b107
        have O215 : Old Z n0 h115 := Old.wr O214 W115 g_b107
        obtain ⟨T216, h216, X216, e216, E216, A216, D216, -, st216⟩ := newO X115 hx hZ105 hown105 (hwk hw 12 rfl) (hwk hw 5 rfl) (hwk hw 4 rfl) e115 (g := (mkF m 223 #[.val (.int p0), .val (.int p1), .val (.int (p0 &&& (3 : Int32))), .val (.int (p1 &&& (3 : Int32))), .val (.ref w_UsageKind_CALL), .val (.ref a105), .val (.ref b107), .unset, .unset] [])) rfl (hb hby at_223) (by decide) (by decide)
        obtain ⟨b216, g216⟩ : ∃ z, z = h115.size := ⟨_, rfl⟩
        rw [← g216] at A216 D216 st216
        have g_b216 : n0 ≤ b216 := Nat.le_trans (old_le O215) (Nat.le_of_eq g216.symm)
        have hp217 : ∀ c ∈ ([(nar .char (99 : Int32)), (nar .char (97 : Int32)), (nar .char (108 : Int32)), (nar .char (108 : Int32))] : List Int32), ¬ c < 0 ∧ ¬ (255 : Int32) < c := by decide
        have hws218 : ∀ d ∈ StrChars.Road.words, d.before a0 Z = true := fun d hd => hw d ((by decide +kernel : ∀ d ∈ StrChars.Road.words, d ∈ tables_1) d hd)
        have O219 : Old Z n0 h216 := Old.ext O215 E216
        have c220 : Arv Z h216 b107 k107 .char (4 : Int32) [(.int (nar .char (99 : Int32))), (.int (nar .char (97 : Int32))), (.int (nar .char (108 : Int32))), (.int (nar .char (108 : Int32)))] (.int (0 : Int32)) := (V115.ext E216)
        have c221 : Sta Z h216 "java/lang/String" "COMPACT_STRINGS" "Z" (.int zc) := Sta.ext (O219).2 SZ
        obtain ⟨_, _, ⟨T222, L222, k222, n222⟩, -, X222, ⟨Lc222, hQ222, l222, y222, z222⟩, st222⟩ := X216.specialBack hx (y := (⟨"java/lang/String", "<init>", "([C)V"⟩ : MethodName)) rfl hown105 (mvT hZ105 (hwk hw 13 rfl)) (mvT hZ105 (hwk hw 14 rfl)) (mvT hZ105 (hwk hw 15 rfl)) (by decide) (StrChars.Road.backV (W := 1) hZ105 hws218 (kI := 4) (hwk hw 5 rfl) (cs := ([(nar .char (99 : Int32)), (nar .char (97 : Int32)), (nar .char (108 : Int32)), (nar .char (108 : Int32))] : List Int32)) (bs := (([(nar .char (99 : Int32)), (nar .char (97 : Int32)), (nar .char (108 : Int32)), (nar .char (108 : Int32))] : List Int32)).map (fun c => c.toInt8.toInt32)) (n := 4) g_b216 (old_le O219) A216 (show Fld Z h216 b216 "java/lang/String" "value" "[B" .null from D216 (Or.inr (hwk hw 7 rfl)) (ty := (.array .byte)) (by decide)) (show Fld Z h216 b216 "java/lang/String" "coder" "B" (.int (0 : Int32)) from D216 (Or.inr (hwk hw 8 rfl)) (ty := .byte) (by decide)) c220 c221 PZ rfl rfl (by decide) (by decide) hp217 rfl (by decide) (by decide)) (g := (mkF m 229 #[.val (.int p0), .val (.int p1), .val (.int (p0 &&& (3 : Int32))), .val (.int (p1 &&& (3 : Int32))), .val (.ref w_UsageKind_CALL), .val (.ref a105), .val (.ref b107), .unset, .unset] [(.ref b107), (.ref b216), (.ref b216)])) rfl (by rw [hml]; rfl) (Steps.refl _) (a := b216) (argsL := [(.ref b107)]) (rest := [(.ref b216)]) (lenOf pd_4 rfl) rfl (by show 2 * 0 + _ ≤ _; exact Nat.le_of_eq rfl) (hb hby at_229) (fun _ _ => ⟨rfl, e216, (by decide : 4 + 1 ≤ _), (by decide : 28 + 4 ≤ _)⟩)
        dsimp only [Pt.U, Pt.locs, Pt.cells, Pt.slots] at X222 l222 y222 z222 st222 hQ222
        subst l222 y222 z222
        unfold StrChars.Road.QV at hQ222
        obtain ⟨rfl, N222q, K222, E222x, C222, t222, kb222, g_t222, ge_t222, ne222, V222, A222⟩ := hQ222
        have N222 := Fr.app N115 N222q
        have OS223 : OwnStr [(99 : Int32), (97 : Int32), (108 : Int32), (108 : Int32)] (4 : Int32) (((([(nar .char (99 : Int32)), (nar .char (97 : Int32)), (nar .char (108 : Int32)), (nar .char (108 : Int32))] : List Int32)).map (fun c => c.toInt8.toInt32)).map Value.int) := own_s255c hp217 (by decide) (by decide)
        have O224 : Old Z n0 T222.heap := Old.keep O219 K222 (allS g_b216 all0)
        obtain ⟨_, _, ⟨T225, L225, k225, n225⟩, -, X225, ⟨Lc225, hQ225, l225, y225, z225⟩, st225⟩ := Jvm.LawKit.callS X222 hx (y := (⟨"com/example/bill_run/billrun/UsageKind", "named", "(Ljava/lang/String;)Lcom/example/bill_run/billrun/UsageKind;"⟩ : MethodName)) hown105 (mvT hZ105 (hwk hw 36 rfl)) (mvT hZ105 (hwk hw 37 rfl)) (mvT hZ105 (hwk hw 1 rfl)) (mvT hZ105 (hwk hw 38 rfl)) (by decide) (backOf (W := 0) (rn0 l Z a0 hw [] b216 t222 kb222 (4 : Int32) (((([(nar .char (99 : Int32)), (nar .char (97 : Int32)), (nar .char (108 : Int32)), (nar .char (108 : Int32))] : List Int32)).map (fun c => c.toInt8.toInt32)).map Value.int) w_UsageKind_SMS w_UsageKind_CALL w_UsageKind_DATA w_UsageKind__VALUES w_UsageKind_LOCAL_DATA w_UsageKind_CALL_written w_UsageKind_CALL_written_value k_w_UsageKind__VALUES k_w_UsageKind_CALL_written_value zc T222.heap n0 O224 E222x V222 C222 A222 OS223 E_w_UsageKind_CALL S_UsageKind__VALUES E_w_UsageKind__VALUES V_w_UsageKind__VALUES F_w_UsageKind_CALL_written E_w_UsageKind_CALL_written F_w_UsageKind_CALL_written_value F_w_UsageKind_CALL_written_coder V_w_UsageKind_CALL_written_value SZ PZ) hZ105 (hwk hw 38 rfl) (hwk hw 1 rfl) (by decide) (by decide)) (g := (mkF m 236 #[.val (.int p0), .val (.int p1), .val (.int (p0 &&& (3 : Int32))), .val (.int (p1 &&& (3 : Int32))), .val (.ref w_UsageKind_CALL), .val (.ref a105), .val (.ref b107), .val (.ref b216), .unset] [(.ref b216)])) rfl (by rw [hml]; rfl) (argsL := [(.ref b216)]) (rest := []) (lenOf pd_2 rfl) rfl (by show 2 * 0 + _ ≤ _; exact Nat.le_of_eq rfl) (hb hby at_236) (fun _ _ => ⟨rfl, (rfl : T222.heap = T222.heap), (by decide : 5 + 1 ≤ _), (by decide : 32 + 4 ≤ _)⟩)
        dsimp only [Pt.U, Pt.locs, Pt.cells, Pt.slots] at X225 l225 y225 z225 st225 hQ225
        subst l225 y225 z225
        unfold Q_rn0 at hQ225
        obtain ⟨rfl, N225q, K225⟩ := hQ225
        have N225 := Fr.app N222 N225q
        have O227 : Old Z n0 T225.heap := Old.keep O224 K225 all0
        have c226 : Fld Z T225.heap w_UsageKind_CALL "com/example/bill_run/billrun/UsageKind" "written" "Ljava/lang/String;" (.ref w_UsageKind_CALL_written) := Fld.ext (O227).2 F_w_UsageKind_CALL_written
        have c229 : Exa Z T225.heap w_UsageKind_CALL "com/example/bill_run/billrun/UsageKind" := Exa.ext (O227).2 E_w_UsageKind_CALL
        obtain ⟨cq228, kq228, q228a, q228b, q228c⟩ := isOf hZ105 (rfl : T225.heap = T225.heap) c229
        obtain ⟨_, _, ⟨T228, L228, k228, n228⟩, -, X228, ⟨Lc228, hQ228, l228, y228, z228⟩, st228⟩ := X225.virtualBack hx (y := (⟨"com/example/bill_run/billrun/UsageKind", "toString", "()Ljava/lang/String;"⟩ : MethodName)) (z := (⟨"com/example/bill_run/billrun/UsageKind", "toString", "()Ljava/lang/String;"⟩ : MethodName)) hown105 (mvT hZ105 (hwk hw 69 rfl)) (mvT hZ105 (hwk hw 70 rfl)) (notFace_of_selects (args := #[]) (mvT hZ105 (hwk hw 72 rfl))) (mvT hZ105 (hwk hw 72 rfl)) (mvT hZ105 (hwk hw 71 rfl)) (by decide) (backOf (W := 0) (rm11 l Z a0 hw [] w_UsageKind_CALL w_UsageKind_CALL_written T225.heap n0 O227 c226) hZ105 (hwk hw 73 rfl) (hwk hw 1 rfl) (by decide) (by decide)) q228a q228c (g := (mkF m 250 #[.val (.int p0), .val (.int p1), .val (.int (p0 &&& (3 : Int32))), .val (.int (p1 &&& (3 : Int32))), .val (.ref w_UsageKind_CALL), .val (.ref a105), .val (.ref b107), .val (.ref b216), .val (.ref w_UsageKind_CALL)] [(.ref w_UsageKind_CALL)])) rfl (by rw [hml]; rfl) (Steps.refl _) (argsL := []) (rest := []) (lenOf pd_3 rfl) rfl (by show 2 * 0 + _ ≤ _; exact Nat.le_of_eq rfl) (hb hby at_250) (fun _ _ => ⟨rfl, (rfl : T225.heap = T225.heap), (by decide : 6 + 0 ≤ _), (by decide : 36 + 0 ≤ _)⟩)
        dsimp only [Pt.U, Pt.locs, Pt.cells, Pt.slots] at X228 l228 y228 z228 st228 hQ228
        subst l228 y228 z228
        unfold Q_rm11 at hQ228
        obtain ⟨rfl, N228q, e228⟩ := hQ228
        have N228 := Fr.app N225 N228q
        have hws230 : ∀ d ∈ StrChars.Road.wordsEq, d.before a0 Z = true := fun d hd => hw d ((by decide +kernel : ∀ d ∈ StrChars.Road.wordsEq, d ∈ tables_1) d hd)
        have c231 : Exa Z T225.heap w_UsageKind_CALL_written "java/lang/String" := Exa.ext (O227).2 E_w_UsageKind_CALL_written
        have c232 : Fld Z T225.heap w_UsageKind_CALL_written "java/lang/String" "value" "[B" (.ref w_UsageKind_CALL_written_value) := Fld.ext (O227).2 F_w_UsageKind_CALL_written_value
        have c233 : Fld Z T225.heap w_UsageKind_CALL_written "java/lang/String" "coder" "B" (.int (0 : Int32)) := Fld.ext (O227).2 F_w_UsageKind_CALL_written_coder
        have c234 : Arv Z T225.heap w_UsageKind_CALL_written_value k_w_UsageKind_CALL_written_value .byte (4 : Int32) [(.int (99 : Int32)), (.int (97 : Int32)), (.int (108 : Int32)), (.int (108 : Int32))] (.int (0 : Int32)) := V_w_UsageKind_CALL_written_value.ext O227.2
        have c235 : Exa Z T225.heap a105 "java/lang/String" := (Exa.keep (Exa.keep (Exa.ext E216 (Exa.wr W115 (Exa.wr W113 (Exa.wr W111 (Exa.wr W109 (Exa.ext E107 Ex105)))))) K222) K225)
        have c236 : Exa Z h115 a105 "java/lang/String" := (Exa.wr W115 (Exa.wr W113 (Exa.wr W111 (Exa.wr W109 (Exa.ext E107 Ex105)))))
        have c237 : Fld Z T225.heap a105 "java/lang/String" "value" "[B" (.ref b105) := (Fld.keep (Fld.keep (Fld.ext E216 (Fld.other W115 (Fld.other W113 (Fld.other W111 (Fld.other W109 (Fld.ext E107 Fv105) (Or.inl (Nat.ne_of_lt (Nat.lt_of_lt_of_le (Ex105).lt (Nat.le_of_eq g107.symm))))) (Or.inl (Nat.ne_of_lt (Nat.lt_of_lt_of_le (Ex105).lt (Nat.le_of_eq g107.symm))))) (Or.inl (Nat.ne_of_lt (Nat.lt_of_lt_of_le (Ex105).lt (Nat.le_of_eq g107.symm))))) (Or.inl (Nat.ne_of_lt (Nat.lt_of_lt_of_le (Ex105).lt (Nat.le_of_eq g107.symm)))))) K222 (ninS (Nat.ne_of_lt (Nat.lt_of_lt_of_le (c236).lt (Nat.le_of_eq g216.symm))) nin0)) K225 nin0)
        have c238 : Fld Z T225.heap a105 "java/lang/String" "coder" "B" (.int (0 : Int32)) := (Fld.keep (Fld.keep (Fld.ext E216 (Fld.other W115 (Fld.other W113 (Fld.other W111 (Fld.other W109 (Fld.ext E107 Fc105) (Or.inl (Exa.neArv c236 V115 (hwk hw 5 rfl)))) (Or.inl (Exa.neArv c236 V115 (hwk hw 5 rfl)))) (Or.inl (Exa.neArv c236 V115 (hwk hw 5 rfl)))) (Or.inl (Exa.neArv c236 V115 (hwk hw 5 rfl))))) K222 (ninS (Nat.ne_of_lt (Nat.lt_of_lt_of_le (c236).lt (Nat.le_of_eq g216.symm))) nin0)) K225 nin0)
        have c239 : Arv Z h115 b105 kc105 .byte (4 : Int32) [(.int (99 : Int32)), (.int (97 : Int32)), (.int (108 : Int32)), (.int (108 : Int32))] (.int 0) := (Arv.other (Arv.other (Arv.other (Arv.other (Av105.ext E107) W109 (Nat.ne_of_lt (Nat.lt_of_lt_of_le (Av105).lt (Nat.le_of_eq g107.symm)))) W111 (Nat.ne_of_lt (Nat.lt_of_lt_of_le (Av105).lt (Nat.le_of_eq g107.symm)))) W113 (Nat.ne_of_lt (Nat.lt_of_lt_of_le (Av105).lt (Nat.le_of_eq g107.symm)))) W115 (Nat.ne_of_lt (Nat.lt_of_lt_of_le (Av105).lt (Nat.le_of_eq g107.symm))))
        have c240 : Arv Z T225.heap b105 kc105 .byte (4 : Int32) [(.int (99 : Int32)), (.int (97 : Int32)), (.int (108 : Int32)), (.int (108 : Int32))] (.int 0) := (Arv.keep (Arv.keep ((Arv.other (Arv.other (Arv.other (Arv.other (Av105.ext E107) W109 (Nat.ne_of_lt (Nat.lt_of_lt_of_le (Av105).lt (Nat.le_of_eq g107.symm)))) W111 (Nat.ne_of_lt (Nat.lt_of_lt_of_le (Av105).lt (Nat.le_of_eq g107.symm)))) W113 (Nat.ne_of_lt (Nat.lt_of_lt_of_le (Av105).lt (Nat.le_of_eq g107.symm)))) W115 (Nat.ne_of_lt (Nat.lt_of_lt_of_le (Av105).lt (Nat.le_of_eq g107.symm)))).ext E216) K222 (ninS (Nat.ne_of_lt (Nat.lt_of_lt_of_le (c239).lt (Nat.le_of_eq g216.symm))) nin0)) K225 nin0)
        have c241 : Sta Z T225.heap "java/lang/String" "COMPACT_STRINGS" "Z" (.int zc) := Sta.ext (O227).2 SZ
        obtain ⟨cq242, kq242, q242a, q242b, q242c⟩ := isOf hZ105 e228 c231
        obtain ⟨_, _, ⟨T242, L242, k242, n242⟩, -, X242, ⟨Lc242, hQ242, l242, y242, z242⟩, st242⟩ := X228.virtualBack hx (y := (⟨"java/lang/String", "equals", "(Ljava/lang/Object;)Z"⟩ : MethodName)) (z := (⟨"java/lang/String", "equals", "(Ljava/lang/Object;)Z"⟩ : MethodName)) hown105 (mvT hZ105 (hwk hw 74 rfl)) (mvT hZ105 (hwk hw 60 rfl)) (notFace_of_selects (args := #[]) (mvT hZ105 (hwk hw 62 rfl))) (mvT hZ105 (hwk hw 62 rfl)) (mvT hZ105 (hwk hw 61 rfl)) (by decide) (StrChars.Road.eqW (W := 0) hZ105 hws230 (kI := 4) (hwk hw 5 rfl) c231 c232 c233 c234 own_os0.1 own_os0.2.1 own_os0.2.2 c235 c237 c238 c240 own_os0.1 own_os0.2.1 own_os0.2.2 c241 PZ (by decide) (by decide)) q242a q242c (g := (mkF m 255 #[.val (.int p0), .val (.int p1), .val (.int (p0 &&& (3 : Int32))), .val (.int (p1 &&& (3 : Int32))), .val (.ref w_UsageKind_CALL), .val (.ref a105), .val (.ref b107), .val (.ref b216), .val (.ref w_UsageKind_CALL)] [(.ref a105), (.ref w_UsageKind_CALL_written)])) rfl (by rw [hml]; rfl) (Steps.refl _) (argsL := [(.ref a105)]) (rest := []) (lenOf pd_1 rfl) rfl (by show 2 * 0 + _ ≤ _; exact Nat.le_of_eq rfl) (hb hby at_255) (fun _ _ => ⟨rfl, e228, (by decide : 6 + 0 ≤ _), (by decide : 36 + 0 ≤ _)⟩)
        dsimp only [Pt.U, Pt.locs, Pt.cells, Pt.slots] at X242 l242 y242 z242 st242 hQ242
        subst l242 y242 z242
        obtain ⟨hv242, hl242, e242⟩ := hQ242
        cases own_vm hv242
        have N242 := Fr.app N228 (own_frnil hl242)
        have K243 : Keep h0 h105 [] := Keep.ext (Keep.refl h0 []) E105
        have K244 : Keep h0 h107 [] := Keep.ext K243 E107
        have K245 : Keep h0 h109 [] := Keep.wr K244 W109 (Or.inr (Nat.le_trans (Nat.le_trans (Nat.le_refl _) E105.1) (Nat.le_of_eq g107.symm)))
        have K246 : Keep h0 h111 [] := Keep.wr K245 W111 (Or.inr (Nat.le_trans (Nat.le_trans (Nat.le_refl _) E105.1) (Nat.le_of_eq g107.symm)))
        have K247 : Keep h0 h113 [] := Keep.wr K246 W113 (Or.inr (Nat.le_trans (Nat.le_trans (Nat.le_refl _) E105.1) (Nat.le_of_eq g107.symm)))
        have K248 : Keep h0 h115 [] := Keep.wr K247 W115 (Or.inr (Nat.le_trans (Nat.le_trans (Nat.le_refl _) E105.1) (Nat.le_of_eq g107.symm)))
        have K249 : Keep h0 h216 [] := Keep.ext K248 E216
        have K250 : Keep h0 T222.heap [] := Keep.trans K249 K222 (allS (Or.inr (Nat.le_trans (Nat.le_trans (Nat.le_trans (Nat.le_trans (Nat.le_trans (Nat.le_trans (Nat.le_trans (Nat.le_refl _) E105.1) E107.1) (Nat.le_of_eq W109.size.symm)) (Nat.le_of_eq W111.size.symm)) (Nat.le_of_eq W113.size.symm)) (Nat.le_of_eq W115.size.symm)) (Nat.le_of_eq g216.symm))) all0)
        have K251 : Keep h0 T225.heap [] := Keep.trans K250 K225 all0
        have CR252 : CHr Z consts_1 s.vm h0 T105.vm h105 := CHr.trans CR0 CX105
        have CR253 : CHr Z consts_1 s.vm h0 T105.vm h107 := CHr.trans CR252 (CHr.ext E107 CR252.1)
        have Sf254 : Safe Z consts_1 T105.vm h105 b107 := Safe.new (Nat.le_of_eq g107.symm)
        have Sf255 : Safe Z consts_1 T105.vm h107 b107 := (Safe.ext E107 CR252.1 Sf254)
        have CR256 : CHr Z consts_1 s.vm h0 T105.vm h109 := CHr.trans CR253 (CHr.wr W109 Sf255 CR253.1)
        have Sf257 : Safe Z consts_1 T105.vm h109 b107 := (Safe.wr W109 Sf255 CR253.1 Sf255)
        have CR258 : CHr Z consts_1 s.vm h0 T105.vm h111 := CHr.trans CR256 (CHr.wr W111 Sf257 CR256.1)
        have Sf259 : Safe Z consts_1 T105.vm h111 b107 := (Safe.wr W111 Sf257 CR256.1 Sf257)
        have CR260 : CHr Z consts_1 s.vm h0 T105.vm h113 := CHr.trans CR258 (CHr.wr W113 Sf259 CR258.1)
        have Sf261 : Safe Z consts_1 T105.vm h113 b107 := (Safe.wr W113 Sf259 CR258.1 Sf259)
        have CR262 : CHr Z consts_1 s.vm h0 T105.vm h115 := CHr.trans CR260 (CHr.wr W115 Sf261 CR260.1)
        have CR263 : CHr Z consts_1 s.vm h0 T105.vm h216 := CHr.trans CR262 (CHr.ext E216 CR262.1)
        have Sf264 : Safe Z consts_1 T105.vm h115 b216 := Safe.new (Nat.le_of_eq g216.symm)
        have Sf265 : Safe Z consts_1 T105.vm h216 b216 := (Safe.ext E216 CR262.1 Sf264)
        have CR266 : CHr Z consts_1 s.vm h0 T105.vm T222.heap := CHr.trans CR263 (CHr.keep K222 (allS Sf265 all0) CR263.1)
        have CR267 : CHr Z consts_1 s.vm h0 T105.vm T225.heap := CHr.trans CR266 (CHr.keep K225 all0 CR266.1)
        obtain ⟨fs, hr, hrun, hended, hRE⟩ := X242.leaveW hS105 (show _ ≤ T242.heap.size from by rw [e242]; exact (Nat.le_trans hk105 (Nat.le_trans (Nat.le_trans (Nat.le_trans (Nat.le_trans (Nat.le_trans (Nat.le_trans (Nat.le_trans (Nat.le_trans (Nat.le_refl _) E107.1) (Nat.le_of_eq W109.size.symm)) (Nat.le_of_eq W111.size.symm)) (Nat.le_of_eq W113.size.symm)) (Nat.le_of_eq W115.size.symm)) E216.1) K222.1) K225.1))) (v := some (.int (1 : Int32))) (fun h => by rw [Bd.returns] at h; cases h)
        have CRl : CHr Z consts_1 s.vm s.heap (T242.setFrames fs).vm (T242.setFrames fs).heap := by
          have q := CHr.trans CR267 (CHv.at X242 hZ105 hEL CR267.1)
          rw [← hh, ← e242] at q
          exact q
        refine ⟨_, _, S163 _ ?_, hrun, hended, _, _, rfl, ?_, CRl, hRE.1, hRE.2.1, hRE.2.2.1, hRE.2.2.2.mono (by decide) (by decide)⟩
        · show Steps p.tables e below (T115.setTop (mkF m 210 #[.val (.int p0), .val (.int p1), .val (.int (p0 &&& (3 : Int32))), .val (.int (p1 &&& (3 : Int32))), .val (.ref w_UsageKind_CALL), .val (.ref a105), .val (.ref b107), .unset, .unset] [(.int (2 : Int32)), (.int (p1 &&& (3 : Int32)))])) _
          refine XS.icmpYes X115.here hx rfl (pc0 := 210) (pc' := 223) rfl (hb hby at_210) rfl (feq hc162).2 (by decide) (by decide) ?_
          show Steps p.tables e below (T115.setTop (mkF m 223 #[.val (.int p0), .val (.int p1), .val (.int (p0 &&& (3 : Int32))), .val (.int (p1 &&& (3 : Int32))), .val (.ref w_UsageKind_CALL), .val (.ref a105), .val (.ref b107), .unset, .unset] [])) _
          refine st216 _ ?_
          show Steps p.tables e below (T216.setTop (mkF m 226 #[.val (.int p0), .val (.int p1), .val (.int (p0 &&& (3 : Int32))), .val (.int (p1 &&& (3 : Int32))), .val (.ref w_UsageKind_CALL), .val (.ref a105), .val (.ref b107), .unset, .unset] [(.ref b216)])) _
          refine XS.dup X216.here hx rfl (hb hby at_226) rfl rfl ?_
          show Steps p.tables e below (T216.setTop (mkF m 227 #[.val (.int p0), .val (.int p1), .val (.int (p0 &&& (3 : Int32))), .val (.int (p1 &&& (3 : Int32))), .val (.ref w_UsageKind_CALL), .val (.ref a105), .val (.ref b107), .unset, .unset] [(.ref b216), (.ref b216)])) _
          refine XS.aload X216.here hx rfl (hb hby at_227) rfl rfl ?_
          show Steps p.tables e below (T216.setTop (mkF m 229 #[.val (.int p0), .val (.int p1), .val (.int (p0 &&& (3 : Int32))), .val (.int (p1 &&& (3 : Int32))), .val (.ref w_UsageKind_CALL), .val (.ref a105), .val (.ref b107), .unset, .unset] [(.ref b107), (.ref b216), (.ref b216)])) _
          refine st222.trans ?_
          show Steps p.tables e below (T222.setTop (mkF m 232 #[.val (.int p0), .val (.int p1), .val (.int (p0 &&& (3 : Int32))), .val (.int (p1 &&& (3 : Int32))), .val (.ref w_UsageKind_CALL), .val (.ref a105), .val (.ref b107), .unset, .unset] [(.ref b216)])) _
          refine XS.astore X222.here hx rfl (hb hby at_232) rfl rfl (l' := #[.val (.int p0), .val (.int p1), .val (.int (p0 &&& (3 : Int32))), .val (.int (p1 &&& (3 : Int32))), .val (.ref w_UsageKind_CALL), .val (.ref a105), .val (.ref b107), .val (.ref b216), .unset]) rfl ?_
          show Steps p.tables e below (T222.setTop (mkF m 234 #[.val (.int p0), .val (.int p1), .val (.int (p0 &&& (3 : Int32))), .val (.int (p1 &&& (3 : Int32))), .val (.ref w_UsageKind_CALL), .val (.ref a105), .val (.ref b107), .val (.ref b216), .unset] [])) _
          refine XS.aload X222.here hx rfl (hb hby at_234) rfl rfl ?_
          show Steps p.tables e below (T222.setTop (mkF m 236 #[.val (.int p0), .val (.int p1), .val (.int (p0 &&& (3 : Int32))), .val (.int (p1 &&& (3 : Int32))), .val (.ref w_UsageKind_CALL), .val (.ref a105), .val (.ref b107), .val (.ref b216), .unset] [(.ref b216)])) _
          refine st225 _ ?_
          show Steps p.tables e below (T225.setTop (mkF m 239 #[.val (.int p0), .val (.int p1), .val (.int (p0 &&& (3 : Int32))), .val (.int (p1 &&& (3 : Int32))), .val (.ref w_UsageKind_CALL), .val (.ref a105), .val (.ref b107), .val (.ref b216), .unset] [(.ref w_UsageKind_CALL)])) _
          refine XS.astore X225.here hx rfl (hb hby at_239) rfl rfl (l' := #[.val (.int p0), .val (.int p1), .val (.int (p0 &&& (3 : Int32))), .val (.int (p1 &&& (3 : Int32))), .val (.ref w_UsageKind_CALL), .val (.ref a105), .val (.ref b107), .val (.ref b216), .val (.ref w_UsageKind_CALL)]) rfl ?_
          show Steps p.tables e below (T225.setTop (mkF m 241 #[.val (.int p0), .val (.int p1), .val (.int (p0 &&& (3 : Int32))), .val (.int (p1 &&& (3 : Int32))), .val (.ref w_UsageKind_CALL), .val (.ref a105), .val (.ref b107), .val (.ref b216), .val (.ref w_UsageKind_CALL)] [])) _
          refine XS.aload X225.here hx rfl (hb hby at_241) rfl rfl ?_
          show Steps p.tables e below (T225.setTop (mkF m 243 #[.val (.int p0), .val (.int p1), .val (.int (p0 &&& (3 : Int32))), .val (.int (p1 &&& (3 : Int32))), .val (.ref w_UsageKind_CALL), .val (.ref a105), .val (.ref b107), .val (.ref b216), .val (.ref w_UsageKind_CALL)] [(.ref w_UsageKind_CALL)])) _
          refine XS.aload X225.here hx rfl (hb hby at_243) rfl rfl ?_
          show Steps p.tables e below (T225.setTop (mkF m 245 #[.val (.int p0), .val (.int p1), .val (.int (p0 &&& (3 : Int32))), .val (.int (p1 &&& (3 : Int32))), .val (.ref w_UsageKind_CALL), .val (.ref a105), .val (.ref b107), .val (.ref b216), .val (.ref w_UsageKind_CALL)] [(.ref w_UsageKind_CALL), (.ref w_UsageKind_CALL)])) _
          refine Jvm.RoadKit.acmp (g := (mkF m 245 #[.val (.int p0), .val (.int p1), .val (.int (p0 &&& (3 : Int32))), .val (.int (p1 &&& (3 : Int32))), .val (.ref w_UsageKind_CALL), .val (.ref a105), .val (.ref b107), .val (.ref b216), .val (.ref w_UsageKind_CALL)] [(.ref w_UsageKind_CALL), (.ref w_UsageKind_CALL)])) X225 hx rfl rfl rfl (pc0 := 245) (pc' := 248) (same := true) rfl (hb hby at_245) rfl (decide_eq_true rfl) (by decide) (by decide) ?_
          show Steps p.tables e below (T225.setTop (mkF m 248 #[.val (.int p0), .val (.int p1), .val (.int (p0 &&& (3 : Int32))), .val (.int (p1 &&& (3 : Int32))), .val (.ref w_UsageKind_CALL), .val (.ref a105), .val (.ref b107), .val (.ref b216), .val (.ref w_UsageKind_CALL)] [])) _
          refine XS.aload X225.here hx rfl (hb hby at_248) rfl rfl ?_
          show Steps p.tables e below (T225.setTop (mkF m 250 #[.val (.int p0), .val (.int p1), .val (.int (p0 &&& (3 : Int32))), .val (.int (p1 &&& (3 : Int32))), .val (.ref w_UsageKind_CALL), .val (.ref a105), .val (.ref b107), .val (.ref b216), .val (.ref w_UsageKind_CALL)] [(.ref w_UsageKind_CALL)])) _
          refine st228.trans ?_
          show Steps p.tables e below (T228.setTop (mkF m 253 #[.val (.int p0), .val (.int p1), .val (.int (p0 &&& (3 : Int32))), .val (.int (p1 &&& (3 : Int32))), .val (.ref w_UsageKind_CALL), .val (.ref a105), .val (.ref b107), .val (.ref b216), .val (.ref w_UsageKind_CALL)] [(.ref w_UsageKind_CALL_written)])) _
          refine XS.aload X228.here hx rfl (hb hby at_253) rfl rfl ?_
          show Steps p.tables e below (T228.setTop (mkF m 255 #[.val (.int p0), .val (.int p1), .val (.int (p0 &&& (3 : Int32))), .val (.int (p1 &&& (3 : Int32))), .val (.ref w_UsageKind_CALL), .val (.ref a105), .val (.ref b107), .val (.ref b216), .val (.ref w_UsageKind_CALL)] [(.ref a105), (.ref w_UsageKind_CALL_written)])) _
          refine st242.trans ?_
          show Steps p.tables e below (T242.setTop (mkF m 258 #[.val (.int p0), .val (.int p1), .val (.int (p0 &&& (3 : Int32))), .val (.int (p1 &&& (3 : Int32))), .val (.ref w_UsageKind_CALL), .val (.ref a105), .val (.ref b107), .val (.ref b216), .val (.ref w_UsageKind_CALL)] [(.int (VM [(99 : Int32), (97 : Int32), (108 : Int32), (108 : Int32)] [(99 : Int32), (97 : Int32), (108 : Int32), (108 : Int32)]))])) _
          refine XS.ifNo X242.here hx rfl (hb hby at_258) rfl ((if0 _ _).trans (feq (own_vm0 _ : ¬ ((VM [(99 : Int32), (97 : Int32), (108 : Int32), (108 : Int32)] [(99 : Int32), (97 : Int32), (108 : Int32), (108 : Int32)]) = (0 : Int32)))).1) ?_
          show Steps p.tables e below (T242.setTop (mkF m 261 #[.val (.int p0), .val (.int p1), .val (.int (p0 &&& (3 : Int32))), .val (.int (p1 &&& (3 : Int32))), .val (.ref w_UsageKind_CALL), .val (.ref a105), .val (.ref b107), .val (.ref b216), .val (.ref w_UsageKind_CALL)] [])) _
          refine XS.iconst X242.here hx rfl (hb hby at_261) ?_
          show Steps p.tables e below (T242.setTop (mkF m 262 #[.val (.int p0), .val (.int p1), .val (.int (p0 &&& (3 : Int32))), .val (.int (p1 &&& (3 : Int32))), .val (.ref w_UsageKind_CALL), .val (.ref a105), .val (.ref b107), .val (.ref b216), .val (.ref w_UsageKind_CALL)] [(.int (1 : Int32))])) _
          refine XS.goto X242.here hx rfl (pc0 := 262) (pc' := 266) rfl (hb hby at_262) (by decide) (by decide) ?_
          show Steps p.tables e below (T242.setTop (mkF m 266 #[.val (.int p0), .val (.int p1), .val (.int (p0 &&& (3 : Int32))), .val (.int (p1 &&& (3 : Int32))), .val (.ref w_UsageKind_CALL), .val (.ref a105), .val (.ref b107), .val (.ref b216), .val (.ref w_UsageKind_CALL)] [(.int (1 : Int32))])) _
          exact Jvm.RoadKit.retOut X242 hx Bd.returns rfl (Or.inl ⟨rfl, by simp, _, rfl⟩) (hb hby at_266) hr
        · show Q_rm0 Z p0 p1 w_UsageKind_SMS w_UsageKind_CALL w_UsageKind_DATA w_UsageKind__VALUES w_UsageKind_LOCAL_DATA w_UsageKind_SMS_written w_UsageKind_CALL_written w_UsageKind_DATA_written w_UsageKind_LOCAL_DATA_written w_UsageKind_SMS_written_value w_UsageKind_CALL_written_value w_UsageKind_DATA_written_value w_UsageKind_LOCAL_DATA_written_value k_w_UsageKind__VALUES k_w_UsageKind_SMS_written_value k_w_UsageKind_CALL_written_value k_w_UsageKind_DATA_written_value k_w_UsageKind_LOCAL_DATA_written_value zc h0 n0 _ T242.heap _
          rw [e242]
          unfold Q_rm0
          exact ⟨rfl, N242, K251⟩
  · have S269 : ∀ t, Steps p.tables e below (s₁.setTop (mkF m 51 #[.val (.int p0), .val (.int p1), .val (.int (p0 &&& (3 : Int32))), .val (.int (p1 &&& (3 : Int32))), .unset, .unset, .unset, .unset, .unset] [(.int (1 : Int32)), (.int (p0 &&& (3 : Int32)))])) t → Steps p.tables e below (s₁.setTop (entryFrame m #[(.int p0), (.int p1)] maxLocals)) t := fun t k => by
      refine S102 t ?_
      show Steps p.tables e below (s₁.setTop (mkF m 9 #[.val (.int p0), .val (.int p1), .val (.int (p0 &&& (3 : Int32))), .val (.int (p1 &&& (3 : Int32))), .unset, .unset, .unset, .unset, .unset] [(.int (p0 &&& (3 : Int32)))])) _
      refine XS.ifYes X0.here hx rfl (pc0 := 9) (pc' := 49) rfl (hb hby at_9) rfl ((if0 _ _).trans (feq hc101).2) (by decide) (by decide) ?_
      show Steps p.tables e below (s₁.setTop (mkF m 49 #[.val (.int p0), .val (.int p1), .val (.int (p0 &&& (3 : Int32))), .val (.int (p1 &&& (3 : Int32))), .unset, .unset, .unset, .unset, .unset] [])) _
      refine XS.iloadN X0.here hx rfl (hb hby at_49) rfl ?_
      show Steps p.tables e below (s₁.setTop (mkF m 50 #[.val (.int p0), .val (.int p1), .val (.int (p0 &&& (3 : Int32))), .val (.int (p1 &&& (3 : Int32))), .unset, .unset, .unset, .unset, .unset] [(.int (p0 &&& (3 : Int32)))])) _
      refine XS.iconst X0.here hx rfl (hb hby at_50) ?_
      exact k
    by_cases hc268 : (p0 &&& (3 : Int32)) = (1 : Int32)
    · have c270 : Sta Z h0 "com/example/bill_run/billrun/UsageKind" "SMS" "Lcom/example/bill_run/billrun/UsageKind;" (.ref w_UsageKind_SMS) := Sta.ext (O0).2 S_UsageKind_SMS
      obtain ⟨T271, X271, e271, st271⟩ := getS2 X0 hx hZ hown (host := "") (Or.inl (hwk hw 77 rfl)) Via.refl e0 c270 (g := (mkF m 54 #[.val (.int p0), .val (.int p1), .val (.int (p0 &&& (3 : Int32))), .val (.int (p1 &&& (3 : Int32))), .unset, .unset, .unset, .unset, .unset] [])) rfl (hb hby at_54)
      obtain ⟨a272, T272, h272, k272, b272, kc272, X272, e272, E272, hS272, hk272, hZ272, hown272, Ex272, Fc272, Fv272, Av272, la272, lb272, CX272, Lt272, Sn272, st272⟩ := ldcCH X271 hx hZ hown (hwk hw 78 rfl) hstr e271 hS0 (Nat.le_refl _) hEL (by decide) CR0.1 (vs := [(.int (115 : Int32)), (.int (109 : Int32)), (.int (115 : Int32))]) (z := (3 : Int32)) ⟨by decide, by decide⟩ (by decide) rfl (g := (mkF m 59 #[.val (.int p0), .val (.int p1), .val (.int (p0 &&& (3 : Int32))), .val (.int (p1 &&& (3 : Int32))), .val (.ref w_UsageKind_SMS), .unset, .unset, .unset, .unset] [])) rfl (hb hby at_59) (n := 12) (by decide) (by decide) (by decide) (by decide)
      have O273 : Old Z n0 h272 := Old.ext O0 E272
      obtain ⟨T274, h274, k274, X274, e274, E274, A274, st274⟩ := newP X272 hx hZ272 (hwk hw 11 rfl) e272 (g := (mkF m 64 #[.val (.int p0), .val (.int p1), .val (.int (p0 &&& (3 : Int32))), .val (.int (p1 &&& (3 : Int32))), .val (.ref w_UsageKind_SMS), .val (.ref a272), .unset, .unset, .unset] [(.int (3 : Int32))])) rfl (hb hby at_64) rfl (by decide) (cap := 3) (by decide) (by decide) (by decide) (by decide)
      obtain ⟨b274, g274⟩ : ∃ z, z = h272.size := ⟨_, rfl⟩
      rw [← g274] at A274 st274
      have g_b274 : n0 ≤ b274 := Nat.le_trans (old_le O273) (Nat.le_of_eq g274.symm)
      have V274 : Arv Z h274 b274 k274 .char (3 : Int32) [(.int (0 : Int32)), (.int (0 : Int32)), (.int (0 : Int32))] (.int (0 : Int32)) := (Arv.new A274 (by decide)).pad (pad_rep [] (.int (0 : Int32)) 3)
      obtain ⟨clq275, Arq275, kqq275, Szq275, Nnq275, Hsq275, Gsq275⟩ := id V274
      have hinq275 : ¬ ((0 : Int32) < 0 ∨ clq275.slots.size ≤ ((0 : Int32)).toNatClampNeg) := inb_of Szq275 ⟨by decide, by decide⟩
      obtain ⟨T276, h276, X276, e276, W276, st276⟩ := stC X274 hx hZ272 e274 Arq275 (j := (0 : Int32)) hinq275 (g := (mkF m 70 #[.val (.int p0), .val (.int p1), .val (.int (p0 &&& (3 : Int32))), .val (.int (p1 &&& (3 : Int32))), .val (.ref w_UsageKind_SMS), .val (.ref a272), .unset, .unset, .unset] [(.int (115 : Int32)), (.int (0 : Int32)), (.ref b274), (.ref b274)])) rfl rfl (hb hby at_70)
      have V276 : Arv Z h276 b274 k274 .char (3 : Int32) [(.int (nar .char (115 : Int32))), (.int (0 : Int32)), (.int (0 : Int32))] (.int (0 : Int32)) := Arv.set Arq275 kqq275 Szq275 Nnq275 Hsq275 Gsq275 (fits_nar_char _) W276 0 rfl (Nat.le_of_ble_eq_true rfl)
      have N276 := Fr.snoc X276 N0 g_b274
      obtain ⟨clq277, Arq277, kqq277, Szq277, Nnq277, Hsq277, Gsq277⟩ := id V276
      have hinq277 : ¬ ((1 : Int32) < 0 ∨ clq277.slots.size ≤ ((1 : Int32)).toNatClampNeg) := inb_of Szq277 ⟨by decide, by decide⟩
      obtain ⟨T278, h278, X278, e278, W278, st278⟩ := stC X276 hx hZ272 e276 Arq277 (j := (1 : Int32)) hinq277 (g := (mkF m 75 #[.val (.int p0), .val (.int p1), .val (.int (p0 &&& (3 : Int32))), .val (.int (p1 &&& (3 : Int32))), .val (.ref w_UsageKind_SMS), .val (.ref a272), .unset, .unset, .unset] [(.int (109 : Int32)), (.int (1 : Int32)), (.ref b274), (.ref b274)])) rfl rfl (hb hby at_75)
      have V278 : Arv Z h278 b274 k274 .char (3 : Int32) [(.int (nar .char (115 : Int32))), (.int (nar .char (109 : Int32))), (.int (0 : Int32))] (.int (0 : Int32)) := Arv.set Arq277 kqq277 Szq277 Nnq277 Hsq277 Gsq277 (fits_nar_char _) W278 1 rfl (Nat.le_of_ble_eq_true rfl)
      have N278 := Fr.snoc X278 N276 g_b274
      obtain ⟨clq279, Arq279, kqq279, Szq279, Nnq279, Hsq279, Gsq279⟩ := id V278
      have hinq279 : ¬ ((2 : Int32) < 0 ∨ clq279.slots.size ≤ ((2 : Int32)).toNatClampNeg) := inb_of Szq279 ⟨by decide, by decide⟩
      obtain ⟨T280, h280, X280, e280, W280, st280⟩ := stC X278 hx hZ272 e278 Arq279 (j := (2 : Int32)) hinq279 (g := (mkF m 80 #[.val (.int p0), .val (.int p1), .val (.int (p0 &&& (3 : Int32))), .val (.int (p1 &&& (3 : Int32))), .val (.ref w_UsageKind_SMS), .val (.ref a272), .unset, .unset, .unset] [(.int (115 : Int32)), (.int (2 : Int32)), (.ref b274), (.ref b274)])) rfl rfl (hb hby at_80)
      have V280 : Arv Z h280 b274 k274 .char (3 : Int32) [(.int (nar .char (115 : Int32))), (.int (nar .char (109 : Int32))), (.int (nar .char (115 : Int32)))] (.int (0 : Int32)) := Arv.set Arq279 kqq279 Szq279 Nnq279 Hsq279 Gsq279 (fits_nar_char _) W280 2 rfl (Nat.le_of_ble_eq_true rfl)
      have N280 := Fr.snoc X280 N278 g_b274
      have S282 : ∀ t, Steps p.tables e below (T280.setTop (mkF m 198 #[.val (.int p0), .val (.int p1), .val (.int (p0 &&& (3 : Int32))), .val (.int (p1 &&& (3 : Int32))), .val (.ref w_UsageKind_SMS), .val (.ref a272), .val (.ref b274), .unset, .unset] [(.int (p1 &&& (3 : Int32)))])) t → Steps p.tables e below (s₁.setTop (entryFrame m #[(.int p0), (.int p1)] maxLocals)) t := fun t k => by
        refine S269 t ?_
        show Steps p.tables e below (s₁.setTop (mkF m 51 #[.val (.int p0), .val (.int p1), .val (.int (p0 &&& (3 : Int32))), .val (.int (p1 &&& (3 : Int32))), .unset, .unset, .unset, .unset, .unset] [(.int (1 : Int32)), (.int (p0 &&& (3 : Int32)))])) _
        refine XS.icmpNo X0.here hx rfl (hb hby at_51) rfl (teq hc268).2 ?_
        show Steps p.tables e below (s₁.setTop (mkF m 54 #[.val (.int p0), .val (.int p1), .val (.int (p0 &&& (3 : Int32))), .val (.int (p1 &&& (3 : Int32))), .unset, .unset, .unset, .unset, .unset] [])) _
        refine st271 _ ?_
        show Steps p.tables e below (T271.setTop (mkF m 57 #[.val (.int p0), .val (.int p1), .val (.int (p0 &&& (3 : Int32))), .val (.int (p1 &&& (3 : Int32))), .unset, .unset, .unset, .unset, .unset] [(.ref w_UsageKind_SMS)])) _
        refine XS.astore X271.here hx rfl (hb hby at_57) rfl rfl (l' := #[.val (.int p0), .val (.int p1), .val (.int (p0 &&& (3 : Int32))), .val (.int (p1 &&& (3 : Int32))), .val (.ref w_UsageKind_SMS), .unset, .unset, .unset, .unset]) rfl ?_
        show Steps p.tables e below (T271.setTop (mkF m 59 #[.val (.int p0), .val (.int p1), .val (.int (p0 &&& (3 : Int32))), .val (.int (p1 &&& (3 : Int32))), .val (.ref w_UsageKind_SMS), .unset, .unset, .unset, .unset] [])) _
        refine st272 _ ?_
        show Steps p.tables e below (T272.setTop (mkF m 61 #[.val (.int p0), .val (.int p1), .val (.int (p0 &&& (3 : Int32))), .val (.int (p1 &&& (3 : Int32))), .val (.ref w_UsageKind_SMS), .unset, .unset, .unset, .unset] [(.ref a272)])) _
        refine XS.astore X272.here hx rfl (hb hby at_61) rfl rfl (l' := #[.val (.int p0), .val (.int p1), .val (.int (p0 &&& (3 : Int32))), .val (.int (p1 &&& (3 : Int32))), .val (.ref w_UsageKind_SMS), .val (.ref a272), .unset, .unset, .unset]) rfl ?_
        show Steps p.tables e below (T272.setTop (mkF m 63 #[.val (.int p0), .val (.int p1), .val (.int (p0 &&& (3 : Int32))), .val (.int (p1 &&& (3 : Int32))), .val (.ref w_UsageKind_SMS), .val (.ref a272), .unset, .unset, .unset] [])) _
        refine XS.iconst X272.here hx rfl (hb hby at_63) ?_
        show Steps p.tables e below (T272.setTop (mkF m 64 #[.val (.int p0), .val (.int p1), .val (.int (p0 &&& (3 : Int32))), .val (.int (p1 &&& (3 : Int32))), .val (.ref w_UsageKind_SMS), .val (.ref a272), .unset, .unset, .unset] [(.int (3 : Int32))])) _
        refine st274 _ ?_
        show Steps p.tables e below (T274.setTop (mkF m 66 #[.val (.int p0), .val (.int p1), .val (.int (p0 &&& (3 : Int32))), .val (.int (p1 &&& (3 : Int32))), .val (.ref w_UsageKind_SMS), .val (.ref a272), .unset, .unset, .unset] [(.ref b274)])) _
        refine XS.dup X274.here hx rfl (hb hby at_66) rfl rfl ?_
        show Steps p.tables e below (T274.setTop (mkF m 67 #[.val (.int p0), .val (.int p1), .val (.int (p0 &&& (3 : Int32))), .val (.int (p1 &&& (3 : Int32))), .val (.ref w_UsageKind_SMS), .val (.ref a272), .unset, .unset, .unset] [(.ref b274), (.ref b274)])) _
        refine XS.iconst X274.here hx rfl (hb hby at_67) ?_
        show Steps p.tables e below (T274.setTop (mkF m 68 #[.val (.int p0), .val (.int p1), .val (.int (p0 &&& (3 : Int32))), .val (.int (p1 &&& (3 : Int32))), .val (.ref w_UsageKind_SMS), .val (.ref a272), .unset, .unset, .unset] [(.int (0 : Int32)), (.ref b274), (.ref b274)])) _
        refine XS.bipush X274.here hx rfl (hb hby at_68) ?_
        show Steps p.tables e below (T274.setTop (mkF m 70 #[.val (.int p0), .val (.int p1), .val (.int (p0 &&& (3 : Int32))), .val (.int (p1 &&& (3 : Int32))), .val (.ref w_UsageKind_SMS), .val (.ref a272), .unset, .unset, .unset] [(.int (115 : Int32)), (.int (0 : Int32)), (.ref b274), (.ref b274)])) _
        refine st276 _ ?_
        show Steps p.tables e below (T276.setTop (mkF m 71 #[.val (.int p0), .val (.int p1), .val (.int (p0 &&& (3 : Int32))), .val (.int (p1 &&& (3 : Int32))), .val (.ref w_UsageKind_SMS), .val (.ref a272), .unset, .unset, .unset] [(.ref b274)])) _
        refine XS.dup X276.here hx rfl (hb hby at_71) rfl rfl ?_
        show Steps p.tables e below (T276.setTop (mkF m 72 #[.val (.int p0), .val (.int p1), .val (.int (p0 &&& (3 : Int32))), .val (.int (p1 &&& (3 : Int32))), .val (.ref w_UsageKind_SMS), .val (.ref a272), .unset, .unset, .unset] [(.ref b274), (.ref b274)])) _
        refine XS.iconst X276.here hx rfl (hb hby at_72) ?_
        show Steps p.tables e below (T276.setTop (mkF m 73 #[.val (.int p0), .val (.int p1), .val (.int (p0 &&& (3 : Int32))), .val (.int (p1 &&& (3 : Int32))), .val (.ref w_UsageKind_SMS), .val (.ref a272), .unset, .unset, .unset] [(.int (1 : Int32)), (.ref b274), (.ref b274)])) _
        refine XS.bipush X276.here hx rfl (hb hby at_73) ?_
        show Steps p.tables e below (T276.setTop (mkF m 75 #[.val (.int p0), .val (.int p1), .val (.int (p0 &&& (3 : Int32))), .val (.int (p1 &&& (3 : Int32))), .val (.ref w_UsageKind_SMS), .val (.ref a272), .unset, .unset, .unset] [(.int (109 : Int32)), (.int (1 : Int32)), (.ref b274), (.ref b274)])) _
        refine st278 _ ?_
        show Steps p.tables e below (T278.setTop (mkF m 76 #[.val (.int p0), .val (.int p1), .val (.int (p0 &&& (3 : Int32))), .val (.int (p1 &&& (3 : Int32))), .val (.ref w_UsageKind_SMS), .val (.ref a272), .unset, .unset, .unset] [(.ref b274)])) _
        refine XS.dup X278.here hx rfl (hb hby at_76) rfl rfl ?_
        show Steps p.tables e below (T278.setTop (mkF m 77 #[.val (.int p0), .val (.int p1), .val (.int (p0 &&& (3 : Int32))), .val (.int (p1 &&& (3 : Int32))), .val (.ref w_UsageKind_SMS), .val (.ref a272), .unset, .unset, .unset] [(.ref b274), (.ref b274)])) _
        refine XS.iconst X278.here hx rfl (hb hby at_77) ?_
        show Steps p.tables e below (T278.setTop (mkF m 78 #[.val (.int p0), .val (.int p1), .val (.int (p0 &&& (3 : Int32))), .val (.int (p1 &&& (3 : Int32))), .val (.ref w_UsageKind_SMS), .val (.ref a272), .unset, .unset, .unset] [(.int (2 : Int32)), (.ref b274), (.ref b274)])) _
        refine XS.bipush X278.here hx rfl (hb hby at_78) ?_
        show Steps p.tables e below (T278.setTop (mkF m 80 #[.val (.int p0), .val (.int p1), .val (.int (p0 &&& (3 : Int32))), .val (.int (p1 &&& (3 : Int32))), .val (.ref w_UsageKind_SMS), .val (.ref a272), .unset, .unset, .unset] [(.int (115 : Int32)), (.int (2 : Int32)), (.ref b274), (.ref b274)])) _
        refine st280 _ ?_
        show Steps p.tables e below (T280.setTop (mkF m 81 #[.val (.int p0), .val (.int p1), .val (.int (p0 &&& (3 : Int32))), .val (.int (p1 &&& (3 : Int32))), .val (.ref w_UsageKind_SMS), .val (.ref a272), .unset, .unset, .unset] [(.ref b274)])) _
        refine XS.astore X280.here hx rfl (hb hby at_81) rfl rfl (l' := #[.val (.int p0), .val (.int p1), .val (.int (p0 &&& (3 : Int32))), .val (.int (p1 &&& (3 : Int32))), .val (.ref w_UsageKind_SMS), .val (.ref a272), .val (.ref b274), .unset, .unset]) rfl ?_
        show Steps p.tables e below (T280.setTop (mkF m 83 #[.val (.int p0), .val (.int p1), .val (.int (p0 &&& (3 : Int32))), .val (.int (p1 &&& (3 : Int32))), .val (.ref w_UsageKind_SMS), .val (.ref a272), .val (.ref b274), .unset, .unset] [])) _
        refine XS.goto X280.here hx rfl (pc0 := 83) (pc' := 197) rfl (hb hby at_83) (by decide) (by decide) ?_
        show Steps p.tables e below (T280.setTop (mkF m 197 #[.val (.int p0), .val (.int p1), .val (.int (p0 &&& (3 : Int32))), .val (.int (p1 &&& (3 : Int32))), .val (.ref w_UsageKind_SMS), .val (.ref a272), .val (.ref b274), .unset, .unset] [])) _
        refine XS.iloadN X280.here hx rfl (hb hby at_197) rfl ?_
        exact k
      by_cases hc281 : (p1 &&& (3 : Int32)) = (0 : Int32)
      · have c283 : Exa Z h280 a272 "java/lang/String" := (Exa.wr W280 (Exa.wr W278 (Exa.wr W276 (Exa.ext E274 Ex272))))
        have c284 : Fld Z h280 a272 "java/lang/String" "value" "[B" (.ref b272) := (Fld.other W280 (Fld.other W278 (Fld.other W276 (Fld.ext E274 Fv272) (Or.inl (Exa.neArv c283 V280 (hwk hw 5 rfl)))) (Or.inl (Exa.neArv c283 V280 (hwk hw 5 rfl)))) (Or.inl (Exa.neArv c283 V280 (hwk hw 5 rfl))))
        have c285 : Fld Z h280 a272 "java/lang/String" "coder" "B" (.int (0 : Int32)) := (Fld.other W280 (Fld.other W278 (Fld.other W276 (Fld.ext E274 Fc272) (Or.inl (Exa.neArv c283 V280 (hwk hw 5 rfl)))) (Or.inl (Exa.neArv c283 V280 (hwk hw 5 rfl)))) (Or.inl (Exa.neArv c283 V280 (hwk hw 5 rfl))))
        have c286 : Arv Z h280 b272 kc272 .byte (3 : Int32) [(.int (115 : Int32)), (.int (109 : Int32)), (.int (115 : Int32))] (.int 0) := (Arv.other (Arv.other (Arv.other (Av272.ext E274) W276 (Nat.ne_of_lt (Nat.lt_of_lt_of_le (Av272).lt (Nat.le_of_eq g274.symm)))) W278 (Nat.ne_of_lt (Nat.lt_of_lt_of_le (Av272).lt (Nat.le_of_eq g274.symm)))) W280 (Nat.ne_of_lt (Nat.lt_of_lt_of_le (Av272).lt (Nat.le_of_eq g274.symm))))
        have O287 : Old Z n0 h274 := Old.ext O273 E274
        have O288 : Old Z n0 h276 := Old.wr O287 W276 g_b274
        have O289 : Old Z n0 h278 := Old.wr O288 W278 g_b274
        have O290 : Old Z n0 h280 := Old.wr O289 W280 g_b274
        obtain ⟨_, _, ⟨T291, L291, k291, n291⟩, -, X291, ⟨Lc291, hQ291, l291, y291, z291⟩, st291⟩ := Jvm.LawKit.callS X280 hx (y := (⟨"com/example/bill_run/billrun/UsageKind", "named", "(Ljava/lang/String;)Lcom/example/bill_run/billrun/UsageKind;"⟩ : MethodName)) hown272 (mvT hZ272 (hwk hw 36 rfl)) (mvT hZ272 (hwk hw 37 rfl)) (mvT hZ272 (hwk hw 1 rfl)) (mvT hZ272 (hwk hw 38 rfl)) (by decide) (backOf (W := 0) (rn1 l Z a0 hw [] a272 b272 kc272 (3 : Int32) ([(.int (115 : Int32)), (.int (109 : Int32)), (.int (115 : Int32))]) w_UsageKind_SMS w_UsageKind_CALL w_UsageKind_DATA w_UsageKind__VALUES w_UsageKind_LOCAL_DATA w_UsageKind_SMS_written w_UsageKind_CALL_written w_UsageKind_SMS_written_value w_UsageKind_CALL_written_value k_w_UsageKind__VALUES k_w_UsageKind_SMS_written_value k_w_UsageKind_CALL_written_value zc h280 n0 O290 c283 c284 c285 c286 own_os1 E_w_UsageKind_SMS E_w_UsageKind_CALL S_UsageKind__VALUES E_w_UsageKind__VALUES V_w_UsageKind__VALUES F_w_UsageKind_SMS_written E_w_UsageKind_SMS_written F_w_UsageKind_CALL_written E_w_UsageKind_CALL_written F_w_UsageKind_SMS_written_value F_w_UsageKind_CALL_written_value F_w_UsageKind_CALL_written_coder F_w_UsageKind_SMS_written_coder V_w_UsageKind_SMS_written_value V_w_UsageKind_CALL_written_value SZ PZ) hZ272 (hwk hw 38 rfl) (hwk hw 1 rfl) (by decide) (by decide)) (g := (mkF m 236 #[.val (.int p0), .val (.int p1), .val (.int (p0 &&& (3 : Int32))), .val (.int (p1 &&& (3 : Int32))), .val (.ref w_UsageKind_SMS), .val (.ref a272), .val (.ref b274), .val (.ref a272), .unset] [(.ref a272)])) rfl (by rw [hml]; rfl) (argsL := [(.ref a272)]) (rest := []) (lenOf pd_2 rfl) rfl (by show 2 * 0 + _ ≤ _; exact Nat.le_of_eq rfl) (hb hby at_236) (fun _ _ => ⟨rfl, e280, (by decide : 3 + 1 ≤ _), (by decide : 19 + 4 ≤ _)⟩)
        dsimp only [Pt.U, Pt.locs, Pt.cells, Pt.slots] at X291 l291 y291 z291 st291 hQ291
        subst l291 y291 z291
        unfold Q_rn1 at hQ291
        obtain ⟨rfl, N291q, K291⟩ := hQ291
        have N291 := Fr.app N280 N291q
        have O293 : Old Z n0 T291.heap := Old.keep O290 K291 all0
        have c292 : Fld Z T291.heap w_UsageKind_SMS "com/example/bill_run/billrun/UsageKind" "written" "Ljava/lang/String;" (.ref w_UsageKind_SMS_written) := Fld.ext (O293).2 F_w_UsageKind_SMS_written
        have c295 : Exa Z T291.heap w_UsageKind_SMS "com/example/bill_run/billrun/UsageKind" := Exa.ext (O293).2 E_w_UsageKind_SMS
        obtain ⟨cq294, kq294, q294a, q294b, q294c⟩ := isOf hZ272 (rfl : T291.heap = T291.heap) c295
        obtain ⟨_, _, ⟨T294, L294, k294, n294⟩, -, X294, ⟨Lc294, hQ294, l294, y294, z294⟩, st294⟩ := X291.virtualBack hx (y := (⟨"com/example/bill_run/billrun/UsageKind", "toString", "()Ljava/lang/String;"⟩ : MethodName)) (z := (⟨"com/example/bill_run/billrun/UsageKind", "toString", "()Ljava/lang/String;"⟩ : MethodName)) hown272 (mvT hZ272 (hwk hw 69 rfl)) (mvT hZ272 (hwk hw 70 rfl)) (notFace_of_selects (args := #[]) (mvT hZ272 (hwk hw 72 rfl))) (mvT hZ272 (hwk hw 72 rfl)) (mvT hZ272 (hwk hw 71 rfl)) (by decide) (backOf (W := 0) (rm11 l Z a0 hw [] w_UsageKind_SMS w_UsageKind_SMS_written T291.heap n0 O293 c292) hZ272 (hwk hw 73 rfl) (hwk hw 1 rfl) (by decide) (by decide)) q294a q294c (g := (mkF m 250 #[.val (.int p0), .val (.int p1), .val (.int (p0 &&& (3 : Int32))), .val (.int (p1 &&& (3 : Int32))), .val (.ref w_UsageKind_SMS), .val (.ref a272), .val (.ref b274), .val (.ref a272), .val (.ref w_UsageKind_SMS)] [(.ref w_UsageKind_SMS)])) rfl (by rw [hml]; rfl) (Steps.refl _) (argsL := []) (rest := []) (lenOf pd_3 rfl) rfl (by show 2 * 0 + _ ≤ _; exact Nat.le_of_eq rfl) (hb hby at_250) (fun _ _ => ⟨rfl, (rfl : T291.heap = T291.heap), (by decide : 4 + 0 ≤ _), (by decide : 23 + 0 ≤ _)⟩)
        dsimp only [Pt.U, Pt.locs, Pt.cells, Pt.slots] at X294 l294 y294 z294 st294 hQ294
        subst l294 y294 z294
        unfold Q_rm11 at hQ294
        obtain ⟨rfl, N294q, e294⟩ := hQ294
        have N294 := Fr.app N291 N294q
        have hws296 : ∀ d ∈ StrChars.Road.wordsEq, d.before a0 Z = true := fun d hd => hw d ((by decide +kernel : ∀ d ∈ StrChars.Road.wordsEq, d ∈ tables_1) d hd)
        have c297 : Exa Z T291.heap w_UsageKind_SMS_written "java/lang/String" := Exa.ext (O293).2 E_w_UsageKind_SMS_written
        have c298 : Fld Z T291.heap w_UsageKind_SMS_written "java/lang/String" "value" "[B" (.ref w_UsageKind_SMS_written_value) := Fld.ext (O293).2 F_w_UsageKind_SMS_written_value
        have c299 : Fld Z T291.heap w_UsageKind_SMS_written "java/lang/String" "coder" "B" (.int (0 : Int32)) := Fld.ext (O293).2 F_w_UsageKind_SMS_written_coder
        have c300 : Arv Z T291.heap w_UsageKind_SMS_written_value k_w_UsageKind_SMS_written_value .byte (3 : Int32) [(.int (115 : Int32)), (.int (109 : Int32)), (.int (115 : Int32))] (.int (0 : Int32)) := V_w_UsageKind_SMS_written_value.ext O293.2
        have c301 : Exa Z T291.heap a272 "java/lang/String" := (Exa.keep c283 K291)
        have c302 : Fld Z T291.heap a272 "java/lang/String" "value" "[B" (.ref b272) := (Fld.keep c284 K291 nin0)
        have c303 : Fld Z T291.heap a272 "java/lang/String" "coder" "B" (.int (0 : Int32)) := (Fld.keep c285 K291 nin0)
        have c304 : Arv Z T291.heap b272 kc272 .byte (3 : Int32) [(.int (115 : Int32)), (.int (109 : Int32)), (.int (115 : Int32))] (.int 0) := (Arv.keep c286 K291 nin0)
        have c305 : Sta Z T291.heap "java/lang/String" "COMPACT_STRINGS" "Z" (.int zc) := Sta.ext (O293).2 SZ
        obtain ⟨cq306, kq306, q306a, q306b, q306c⟩ := isOf hZ272 e294 c297
        obtain ⟨_, _, ⟨T306, L306, k306, n306⟩, -, X306, ⟨Lc306, hQ306, l306, y306, z306⟩, st306⟩ := X294.virtualBack hx (y := (⟨"java/lang/String", "equals", "(Ljava/lang/Object;)Z"⟩ : MethodName)) (z := (⟨"java/lang/String", "equals", "(Ljava/lang/Object;)Z"⟩ : MethodName)) hown272 (mvT hZ272 (hwk hw 74 rfl)) (mvT hZ272 (hwk hw 60 rfl)) (notFace_of_selects (args := #[]) (mvT hZ272 (hwk hw 62 rfl))) (mvT hZ272 (hwk hw 62 rfl)) (mvT hZ272 (hwk hw 61 rfl)) (by decide) (StrChars.Road.eqW (W := 0) hZ272 hws296 (kI := 4) (hwk hw 5 rfl) c297 c298 c299 c300 own_os1.1 own_os1.2.1 own_os1.2.2 c301 c302 c303 c304 own_os1.1 own_os1.2.1 own_os1.2.2 c305 PZ (by decide) (by decide)) q306a q306c (g := (mkF m 255 #[.val (.int p0), .val (.int p1), .val (.int (p0 &&& (3 : Int32))), .val (.int (p1 &&& (3 : Int32))), .val (.ref w_UsageKind_SMS), .val (.ref a272), .val (.ref b274), .val (.ref a272), .val (.ref w_UsageKind_SMS)] [(.ref a272), (.ref w_UsageKind_SMS_written)])) rfl (by rw [hml]; rfl) (Steps.refl _) (argsL := [(.ref a272)]) (rest := []) (lenOf pd_1 rfl) rfl (by show 2 * 0 + _ ≤ _; exact Nat.le_of_eq rfl) (hb hby at_255) (fun _ _ => ⟨rfl, e294, (by decide : 4 + 0 ≤ _), (by decide : 23 + 0 ≤ _)⟩)
        dsimp only [Pt.U, Pt.locs, Pt.cells, Pt.slots] at X306 l306 y306 z306 st306 hQ306
        subst l306 y306 z306
        obtain ⟨hv306, hl306, e306⟩ := hQ306
        cases own_vm hv306
        have N306 := Fr.app N294 (own_frnil hl306)
        have K307 : Keep h0 h272 [] := Keep.ext (Keep.refl h0 []) E272
        have K308 : Keep h0 h274 [] := Keep.ext K307 E274
        have K309 : Keep h0 h276 [] := Keep.wr K308 W276 (Or.inr (Nat.le_trans (Nat.le_trans (Nat.le_refl _) E272.1) (Nat.le_of_eq g274.symm)))
        have K310 : Keep h0 h278 [] := Keep.wr K309 W278 (Or.inr (Nat.le_trans (Nat.le_trans (Nat.le_refl _) E272.1) (Nat.le_of_eq g274.symm)))
        have K311 : Keep h0 h280 [] := Keep.wr K310 W280 (Or.inr (Nat.le_trans (Nat.le_trans (Nat.le_refl _) E272.1) (Nat.le_of_eq g274.symm)))
        have K312 : Keep h0 T291.heap [] := Keep.trans K311 K291 all0
        have CR313 : CHr Z consts_1 s.vm h0 T272.vm h272 := CHr.trans CR0 CX272
        have CR314 : CHr Z consts_1 s.vm h0 T272.vm h274 := CHr.trans CR313 (CHr.ext E274 CR313.1)
        have Sf315 : Safe Z consts_1 T272.vm h272 b274 := Safe.new (Nat.le_of_eq g274.symm)
        have Sf316 : Safe Z consts_1 T272.vm h274 b274 := (Safe.ext E274 CR313.1 Sf315)
        have CR317 : CHr Z consts_1 s.vm h0 T272.vm h276 := CHr.trans CR314 (CHr.wr W276 Sf316 CR314.1)
        have Sf318 : Safe Z consts_1 T272.vm h276 b274 := (Safe.wr W276 Sf316 CR314.1 Sf316)
        have CR319 : CHr Z consts_1 s.vm h0 T272.vm h278 := CHr.trans CR317 (CHr.wr W278 Sf318 CR317.1)
        have Sf320 : Safe Z consts_1 T272.vm h278 b274 := (Safe.wr W278 Sf318 CR317.1 Sf318)
        have CR321 : CHr Z consts_1 s.vm h0 T272.vm h280 := CHr.trans CR319 (CHr.wr W280 Sf320 CR319.1)
        have CR322 : CHr Z consts_1 s.vm h0 T272.vm T291.heap := CHr.trans CR321 (CHr.keep K291 all0 CR321.1)
        obtain ⟨fs, hr, hrun, hended, hRE⟩ := X306.leaveW hS272 (show _ ≤ T306.heap.size from by rw [e306]; exact (Nat.le_trans hk272 (Nat.le_trans (Nat.le_trans (Nat.le_trans (Nat.le_trans (Nat.le_trans (Nat.le_refl _) E274.1) (Nat.le_of_eq W276.size.symm)) (Nat.le_of_eq W278.size.symm)) (Nat.le_of_eq W280.size.symm)) K291.1))) (v := some (.int (1 : Int32))) (fun h => by rw [Bd.returns] at h; cases h)
        have CRl : CHr Z consts_1 s.vm s.heap (T306.setFrames fs).vm (T306.setFrames fs).heap := by
          have q := CHr.trans CR322 (CHv.at X306 hZ272 hEL CR322.1)
          rw [← hh, ← e306] at q
          exact q
        refine ⟨_, _, S282 _ ?_, hrun, hended, _, _, rfl, ?_, CRl, hRE.1, hRE.2.1, hRE.2.2.1, hRE.2.2.2.mono (by decide) (by decide)⟩
        · show Steps p.tables e below (T280.setTop (mkF m 198 #[.val (.int p0), .val (.int p1), .val (.int (p0 &&& (3 : Int32))), .val (.int (p1 &&& (3 : Int32))), .val (.ref w_UsageKind_SMS), .val (.ref a272), .val (.ref b274), .unset, .unset] [(.int (p1 &&& (3 : Int32)))])) _
          refine XS.ifNo X280.here hx rfl (hb hby at_198) rfl ((if0 _ _).trans (teq hc281).2) ?_
          show Steps p.tables e below (T280.setTop (mkF m 201 #[.val (.int p0), .val (.int p1), .val (.int (p0 &&& (3 : Int32))), .val (.int (p1 &&& (3 : Int32))), .val (.ref w_UsageKind_SMS), .val (.ref a272), .val (.ref b274), .unset, .unset] [])) _
          refine XS.aload X280.here hx rfl (hb hby at_201) rfl rfl ?_
          show Steps p.tables e below (T280.setTop (mkF m 203 #[.val (.int p0), .val (.int p1), .val (.int (p0 &&& (3 : Int32))), .val (.int (p1 &&& (3 : Int32))), .val (.ref w_UsageKind_SMS), .val (.ref a272), .val (.ref b274), .unset, .unset] [(.ref a272)])) _
          refine XS.astore X280.here hx rfl (hb hby at_203) rfl rfl (l' := #[.val (.int p0), .val (.int p1), .val (.int (p0 &&& (3 : Int32))), .val (.int (p1 &&& (3 : Int32))), .val (.ref w_UsageKind_SMS), .val (.ref a272), .val (.ref b274), .val (.ref a272), .unset]) rfl ?_
          show Steps p.tables e below (T280.setTop (mkF m 205 #[.val (.int p0), .val (.int p1), .val (.int (p0 &&& (3 : Int32))), .val (.int (p1 &&& (3 : Int32))), .val (.ref w_UsageKind_SMS), .val (.ref a272), .val (.ref b274), .val (.ref a272), .unset] [])) _
          refine XS.goto X280.here hx rfl (pc0 := 205) (pc' := 234) rfl (hb hby at_205) (by decide) (by decide) ?_
          show Steps p.tables e below (T280.setTop (mkF m 234 #[.val (.int p0), .val (.int p1), .val (.int (p0 &&& (3 : Int32))), .val (.int (p1 &&& (3 : Int32))), .val (.ref w_UsageKind_SMS), .val (.ref a272), .val (.ref b274), .val (.ref a272), .unset] [])) _
          refine XS.aload X280.here hx rfl (hb hby at_234) rfl rfl ?_
          show Steps p.tables e below (T280.setTop (mkF m 236 #[.val (.int p0), .val (.int p1), .val (.int (p0 &&& (3 : Int32))), .val (.int (p1 &&& (3 : Int32))), .val (.ref w_UsageKind_SMS), .val (.ref a272), .val (.ref b274), .val (.ref a272), .unset] [(.ref a272)])) _
          refine st291 _ ?_
          show Steps p.tables e below (T291.setTop (mkF m 239 #[.val (.int p0), .val (.int p1), .val (.int (p0 &&& (3 : Int32))), .val (.int (p1 &&& (3 : Int32))), .val (.ref w_UsageKind_SMS), .val (.ref a272), .val (.ref b274), .val (.ref a272), .unset] [(.ref w_UsageKind_SMS)])) _
          refine XS.astore X291.here hx rfl (hb hby at_239) rfl rfl (l' := #[.val (.int p0), .val (.int p1), .val (.int (p0 &&& (3 : Int32))), .val (.int (p1 &&& (3 : Int32))), .val (.ref w_UsageKind_SMS), .val (.ref a272), .val (.ref b274), .val (.ref a272), .val (.ref w_UsageKind_SMS)]) rfl ?_
          show Steps p.tables e below (T291.setTop (mkF m 241 #[.val (.int p0), .val (.int p1), .val (.int (p0 &&& (3 : Int32))), .val (.int (p1 &&& (3 : Int32))), .val (.ref w_UsageKind_SMS), .val (.ref a272), .val (.ref b274), .val (.ref a272), .val (.ref w_UsageKind_SMS)] [])) _
          refine XS.aload X291.here hx rfl (hb hby at_241) rfl rfl ?_
          show Steps p.tables e below (T291.setTop (mkF m 243 #[.val (.int p0), .val (.int p1), .val (.int (p0 &&& (3 : Int32))), .val (.int (p1 &&& (3 : Int32))), .val (.ref w_UsageKind_SMS), .val (.ref a272), .val (.ref b274), .val (.ref a272), .val (.ref w_UsageKind_SMS)] [(.ref w_UsageKind_SMS)])) _
          refine XS.aload X291.here hx rfl (hb hby at_243) rfl rfl ?_
          show Steps p.tables e below (T291.setTop (mkF m 245 #[.val (.int p0), .val (.int p1), .val (.int (p0 &&& (3 : Int32))), .val (.int (p1 &&& (3 : Int32))), .val (.ref w_UsageKind_SMS), .val (.ref a272), .val (.ref b274), .val (.ref a272), .val (.ref w_UsageKind_SMS)] [(.ref w_UsageKind_SMS), (.ref w_UsageKind_SMS)])) _
          refine Jvm.RoadKit.acmp (g := (mkF m 245 #[.val (.int p0), .val (.int p1), .val (.int (p0 &&& (3 : Int32))), .val (.int (p1 &&& (3 : Int32))), .val (.ref w_UsageKind_SMS), .val (.ref a272), .val (.ref b274), .val (.ref a272), .val (.ref w_UsageKind_SMS)] [(.ref w_UsageKind_SMS), (.ref w_UsageKind_SMS)])) X291 hx rfl rfl rfl (pc0 := 245) (pc' := 248) (same := true) rfl (hb hby at_245) rfl (decide_eq_true rfl) (by decide) (by decide) ?_
          show Steps p.tables e below (T291.setTop (mkF m 248 #[.val (.int p0), .val (.int p1), .val (.int (p0 &&& (3 : Int32))), .val (.int (p1 &&& (3 : Int32))), .val (.ref w_UsageKind_SMS), .val (.ref a272), .val (.ref b274), .val (.ref a272), .val (.ref w_UsageKind_SMS)] [])) _
          refine XS.aload X291.here hx rfl (hb hby at_248) rfl rfl ?_
          show Steps p.tables e below (T291.setTop (mkF m 250 #[.val (.int p0), .val (.int p1), .val (.int (p0 &&& (3 : Int32))), .val (.int (p1 &&& (3 : Int32))), .val (.ref w_UsageKind_SMS), .val (.ref a272), .val (.ref b274), .val (.ref a272), .val (.ref w_UsageKind_SMS)] [(.ref w_UsageKind_SMS)])) _
          refine st294.trans ?_
          show Steps p.tables e below (T294.setTop (mkF m 253 #[.val (.int p0), .val (.int p1), .val (.int (p0 &&& (3 : Int32))), .val (.int (p1 &&& (3 : Int32))), .val (.ref w_UsageKind_SMS), .val (.ref a272), .val (.ref b274), .val (.ref a272), .val (.ref w_UsageKind_SMS)] [(.ref w_UsageKind_SMS_written)])) _
          refine XS.aload X294.here hx rfl (hb hby at_253) rfl rfl ?_
          show Steps p.tables e below (T294.setTop (mkF m 255 #[.val (.int p0), .val (.int p1), .val (.int (p0 &&& (3 : Int32))), .val (.int (p1 &&& (3 : Int32))), .val (.ref w_UsageKind_SMS), .val (.ref a272), .val (.ref b274), .val (.ref a272), .val (.ref w_UsageKind_SMS)] [(.ref a272), (.ref w_UsageKind_SMS_written)])) _
          refine st306.trans ?_
          show Steps p.tables e below (T306.setTop (mkF m 258 #[.val (.int p0), .val (.int p1), .val (.int (p0 &&& (3 : Int32))), .val (.int (p1 &&& (3 : Int32))), .val (.ref w_UsageKind_SMS), .val (.ref a272), .val (.ref b274), .val (.ref a272), .val (.ref w_UsageKind_SMS)] [(.int (VM [(115 : Int32), (109 : Int32), (115 : Int32)] [(115 : Int32), (109 : Int32), (115 : Int32)]))])) _
          refine XS.ifNo X306.here hx rfl (hb hby at_258) rfl ((if0 _ _).trans (feq (own_vm0 _ : ¬ ((VM [(115 : Int32), (109 : Int32), (115 : Int32)] [(115 : Int32), (109 : Int32), (115 : Int32)]) = (0 : Int32)))).1) ?_
          show Steps p.tables e below (T306.setTop (mkF m 261 #[.val (.int p0), .val (.int p1), .val (.int (p0 &&& (3 : Int32))), .val (.int (p1 &&& (3 : Int32))), .val (.ref w_UsageKind_SMS), .val (.ref a272), .val (.ref b274), .val (.ref a272), .val (.ref w_UsageKind_SMS)] [])) _
          refine XS.iconst X306.here hx rfl (hb hby at_261) ?_
          show Steps p.tables e below (T306.setTop (mkF m 262 #[.val (.int p0), .val (.int p1), .val (.int (p0 &&& (3 : Int32))), .val (.int (p1 &&& (3 : Int32))), .val (.ref w_UsageKind_SMS), .val (.ref a272), .val (.ref b274), .val (.ref a272), .val (.ref w_UsageKind_SMS)] [(.int (1 : Int32))])) _
          refine XS.goto X306.here hx rfl (pc0 := 262) (pc' := 266) rfl (hb hby at_262) (by decide) (by decide) ?_
          show Steps p.tables e below (T306.setTop (mkF m 266 #[.val (.int p0), .val (.int p1), .val (.int (p0 &&& (3 : Int32))), .val (.int (p1 &&& (3 : Int32))), .val (.ref w_UsageKind_SMS), .val (.ref a272), .val (.ref b274), .val (.ref a272), .val (.ref w_UsageKind_SMS)] [(.int (1 : Int32))])) _
          exact Jvm.RoadKit.retOut X306 hx Bd.returns rfl (Or.inl ⟨rfl, by simp, _, rfl⟩) (hb hby at_266) hr
        · show Q_rm0 Z p0 p1 w_UsageKind_SMS w_UsageKind_CALL w_UsageKind_DATA w_UsageKind__VALUES w_UsageKind_LOCAL_DATA w_UsageKind_SMS_written w_UsageKind_CALL_written w_UsageKind_DATA_written w_UsageKind_LOCAL_DATA_written w_UsageKind_SMS_written_value w_UsageKind_CALL_written_value w_UsageKind_DATA_written_value w_UsageKind_LOCAL_DATA_written_value k_w_UsageKind__VALUES k_w_UsageKind_SMS_written_value k_w_UsageKind_CALL_written_value k_w_UsageKind_DATA_written_value k_w_UsageKind_LOCAL_DATA_written_value zc h0 n0 _ T306.heap _
          rw [e306]
          unfold Q_rm0
          exact ⟨rfl, N306, K312⟩
      · have S324 : ∀ t, Steps p.tables e below (T280.setTop (mkF m 210 #[.val (.int p0), .val (.int p1), .val (.int (p0 &&& (3 : Int32))), .val (.int (p1 &&& (3 : Int32))), .val (.ref w_UsageKind_SMS), .val (.ref a272), .val (.ref b274), .unset, .unset] [(.int (2 : Int32)), (.int (p1 &&& (3 : Int32)))])) t → Steps p.tables e below (s₁.setTop (entryFrame m #[(.int p0), (.int p1)] maxLocals)) t := fun t k => by
          refine S282 t ?_
          show Steps p.tables e below (T280.setTop (mkF m 198 #[.val (.int p0), .val (.int p1), .val (.int (p0 &&& (3 : Int32))), .val (.int (p1 &&& (3 : Int32))), .val (.ref w_UsageKind_SMS), .val (.ref a272), .val (.ref b274), .unset, .unset] [(.int (p1 &&& (3 : Int32)))])) _
          refine XS.ifYes X280.here hx rfl (pc0 := 198) (pc' := 208) rfl (hb hby at_198) rfl ((if0 _ _).trans (feq hc281).2) (by decide) (by decide) ?_
          show Steps p.tables e below (T280.setTop (mkF m 208 #[.val (.int p0), .val (.int p1), .val (.int (p0 &&& (3 : Int32))), .val (.int (p1 &&& (3 : Int32))), .val (.ref w_UsageKind_SMS), .val (.ref a272), .val (.ref b274), .unset, .unset] [])) _
          refine XS.iloadN X280.here hx rfl (hb hby at_208) rfl ?_
          show Steps p.tables e below (T280.setTop (mkF m 209 #[.val (.int p0), .val (.int p1), .val (.int (p0 &&& (3 : Int32))), .val (.int (p1 &&& (3 : Int32))), .val (.ref w_UsageKind_SMS), .val (.ref a272), .val (.ref b274), .unset, .unset] [(.int (p1 &&& (3 : Int32)))])) _
          refine XS.iconst X280.here hx rfl (hb hby at_209) ?_
          exact k
        by_cases hc323 : (p1 &&& (3 : Int32)) = (2 : Int32)
        · have O326 : Old Z n0 h274 := Old.ext O273 E274
          have O327 : Old Z n0 h276 := Old.wr O326 W276 g_b274
          have O328 : Old Z n0 h278 := Old.wr O327 W278 g_b274
          have O329 : Old Z n0 h280 := Old.wr O328 W280 g_b274
          have c325 : Fld Z h280 w_UsageKind_SMS "com/example/bill_run/billrun/UsageKind" "written" "Ljava/lang/String;" (.ref w_UsageKind_SMS_written) := Fld.ext (O329).2 F_w_UsageKind_SMS_written
          have c331 : Exa Z h280 w_UsageKind_SMS "com/example/bill_run/billrun/UsageKind" := Exa.ext (O329).2 E_w_UsageKind_SMS
          obtain ⟨cq330, kq330, q330a, q330b, q330c⟩ := isOf hZ272 e280 c331
          obtain ⟨_, _, ⟨T330, L330, k330, n330⟩, -, X330, ⟨Lc330, hQ330, l330, y330, z330⟩, st330⟩ := X280.virtualBack hx (y := (⟨"com/example/bill_run/billrun/UsageKind", "toString", "()Ljava/lang/String;"⟩ : MethodName)) (z := (⟨"com/example/bill_run/billrun/UsageKind", "toString", "()Ljava/lang/String;"⟩ : MethodName)) hown272 (mvT hZ272 (hwk hw 69 rfl)) (mvT hZ272 (hwk hw 70 rfl)) (notFace_of_selects (args := #[]) (mvT hZ272 (hwk hw 72 rfl))) (mvT hZ272 (hwk hw 72 rfl)) (mvT hZ272 (hwk hw 71 rfl)) (by decide) (backOf (W := 0) (rm11 l Z a0 hw [] w_UsageKind_SMS w_UsageKind_SMS_written h280 n0 O329 c325) hZ272 (hwk hw 73 rfl) (hwk hw 1 rfl) (by decide) (by decide)) q330a q330c (g := (mkF m 215 #[.val (.int p0), .val (.int p1), .val (.int (p0 &&& (3 : Int32))), .val (.int (p1 &&& (3 : Int32))), .val (.ref w_UsageKind_SMS), .val (.ref a272), .val (.ref b274), .unset, .unset] [(.ref w_UsageKind_SMS)])) rfl (by rw [hml]; rfl) (Steps.refl _) (argsL := []) (rest := []) (lenOf pd_3 rfl) rfl (by show 2 * 0 + _ ≤ _; exact Nat.le_of_eq rfl) (hb hby at_215) (fun _ _ => ⟨rfl, e280, (by decide : 3 + 0 ≤ _), (by decide : 19 + 0 ≤ _)⟩)
          dsimp only [Pt.U, Pt.locs, Pt.cells, Pt.slots] at X330 l330 y330 z330 st330 hQ330
          subst l330 y330 z330
          unfold Q_rm11 at hQ330
          obtain ⟨rfl, N330q, e330⟩ := hQ330
          have N330 := Fr.app N280 N330q
          have c332 : Exa Z h280 w_UsageKind_SMS_written "java/lang/String" := Exa.ext (O329).2 E_w_UsageKind_SMS_written
          have c333 : Fld Z h280 w_UsageKind_SMS_written "java/lang/String" "value" "[B" (.ref w_UsageKind_SMS_written_value) := Fld.ext (O329).2 F_w_UsageKind_SMS_written_value
          have c334 : Fld Z h280 w_UsageKind_SMS_written "java/lang/String" "coder" "B" (.int (0 : Int32)) := Fld.ext (O329).2 F_w_UsageKind_SMS_written_coder
          have c335 : Arv Z h280 w_UsageKind_SMS_written_value k_w_UsageKind_SMS_written_value .byte (3 : Int32) [(.int (115 : Int32)), (.int (109 : Int32)), (.int (115 : Int32))] (.int (0 : Int32)) := V_w_UsageKind_SMS_written_value.ext O329.2
          obtain ⟨_, _, ⟨T336, L336, k336, n336⟩, -, X336, ⟨Lc336, hQ336, l336, y336, z336⟩, st336⟩ := Jvm.LawKit.callS X330 hx (y := (⟨"com/example/bill_run/billrun/UsageKind", "named", "(Ljava/lang/String;)Lcom/example/bill_run/billrun/UsageKind;"⟩ : MethodName)) hown272 (mvT hZ272 (hwk hw 36 rfl)) (mvT hZ272 (hwk hw 37 rfl)) (mvT hZ272 (hwk hw 1 rfl)) (mvT hZ272 (hwk hw 38 rfl)) (by decide) (backOf (W := 0) (rn1 l Z a0 hw [] w_UsageKind_SMS_written w_UsageKind_SMS_written_value k_w_UsageKind_SMS_written_value (3 : Int32) ([(.int (115 : Int32)), (.int (109 : Int32)), (.int (115 : Int32))]) w_UsageKind_SMS w_UsageKind_CALL w_UsageKind_DATA w_UsageKind__VALUES w_UsageKind_LOCAL_DATA w_UsageKind_SMS_written w_UsageKind_CALL_written w_UsageKind_SMS_written_value w_UsageKind_CALL_written_value k_w_UsageKind__VALUES k_w_UsageKind_SMS_written_value k_w_UsageKind_CALL_written_value zc h280 n0 O329 c332 c333 c334 c335 own_os1 E_w_UsageKind_SMS E_w_UsageKind_CALL S_UsageKind__VALUES E_w_UsageKind__VALUES V_w_UsageKind__VALUES F_w_UsageKind_SMS_written E_w_UsageKind_SMS_written F_w_UsageKind_CALL_written E_w_UsageKind_CALL_written F_w_UsageKind_SMS_written_value F_w_UsageKind_CALL_written_value F_w_UsageKind_CALL_written_coder F_w_UsageKind_SMS_written_coder V_w_UsageKind_SMS_written_value V_w_UsageKind_CALL_written_value SZ PZ) hZ272 (hwk hw 38 rfl) (hwk hw 1 rfl) (by decide) (by decide)) (g := (mkF m 236 #[.val (.int p0), .val (.int p1), .val (.int (p0 &&& (3 : Int32))), .val (.int (p1 &&& (3 : Int32))), .val (.ref w_UsageKind_SMS), .val (.ref a272), .val (.ref b274), .val (.ref w_UsageKind_SMS_written), .unset] [(.ref w_UsageKind_SMS_written)])) rfl (by rw [hml]; rfl) (argsL := [(.ref w_UsageKind_SMS_written)]) (rest := []) (lenOf pd_2 rfl) rfl (by show 2 * 0 + _ ≤ _; exact Nat.le_of_eq rfl) (hb hby at_236) (fun _ _ => ⟨rfl, e330, (by decide : 3 + 1 ≤ _), (by decide : 19 + 4 ≤ _)⟩)
          dsimp only [Pt.U, Pt.locs, Pt.cells, Pt.slots] at X336 l336 y336 z336 st336 hQ336
          subst l336 y336 z336
          unfold Q_rn1 at hQ336
          obtain ⟨rfl, N336q, K336⟩ := hQ336
          have N336 := Fr.app N330 N336q
          have O338 : Old Z n0 T336.heap := Old.keep O329 K336 all0
          have c337 : Fld Z T336.heap w_UsageKind_SMS "com/example/bill_run/billrun/UsageKind" "written" "Ljava/lang/String;" (.ref w_UsageKind_SMS_written) := Fld.ext (O338).2 F_w_UsageKind_SMS_written
          have c340 : Exa Z T336.heap w_UsageKind_SMS "com/example/bill_run/billrun/UsageKind" := Exa.ext (O338).2 E_w_UsageKind_SMS
          obtain ⟨cq339, kq339, q339a, q339b, q339c⟩ := isOf hZ272 (rfl : T336.heap = T336.heap) c340
          obtain ⟨_, _, ⟨T339, L339, k339, n339⟩, -, X339, ⟨Lc339, hQ339, l339, y339, z339⟩, st339⟩ := X336.virtualBack hx (y := (⟨"com/example/bill_run/billrun/UsageKind", "toString", "()Ljava/lang/String;"⟩ : MethodName)) (z := (⟨"com/example/bill_run/billrun/UsageKind", "toString", "()Ljava/lang/String;"⟩ : MethodName)) hown272 (mvT hZ272 (hwk hw 69 rfl)) (mvT hZ272 (hwk hw 70 rfl)) (notFace_of_selects (args := #[]) (mvT hZ272 (hwk hw 72 rfl))) (mvT hZ272 (hwk hw 72 rfl)) (mvT hZ272 (hwk hw 71 rfl)) (by decide) (backOf (W := 0) (rm11 l Z a0 hw [] w_UsageKind_SMS w_UsageKind_SMS_written T336.heap n0 O338 c337) hZ272 (hwk hw 73 rfl) (hwk hw 1 rfl) (by decide) (by decide)) q339a q339c (g := (mkF m 250 #[.val (.int p0), .val (.int p1), .val (.int (p0 &&& (3 : Int32))), .val (.int (p1 &&& (3 : Int32))), .val (.ref w_UsageKind_SMS), .val (.ref a272), .val (.ref b274), .val (.ref w_UsageKind_SMS_written), .val (.ref w_UsageKind_SMS)] [(.ref w_UsageKind_SMS)])) rfl (by rw [hml]; rfl) (Steps.refl _) (argsL := []) (rest := []) (lenOf pd_3 rfl) rfl (by show 2 * 0 + _ ≤ _; exact Nat.le_of_eq rfl) (hb hby at_250) (fun _ _ => ⟨rfl, (rfl : T336.heap = T336.heap), (by decide : 4 + 0 ≤ _), (by decide : 23 + 0 ≤ _)⟩)
          dsimp only [Pt.U, Pt.locs, Pt.cells, Pt.slots] at X339 l339 y339 z339 st339 hQ339
          subst l339 y339 z339
          unfold Q_rm11 at hQ339
          obtain ⟨rfl, N339q, e339⟩ := hQ339
          have N339 := Fr.app N336 N339q
          have hws341 : ∀ d ∈ StrChars.Road.wordsEq, d.before a0 Z = true := fun d hd => hw d ((by decide +kernel : ∀ d ∈ StrChars.Road.wordsEq, d ∈ tables_1) d hd)
          have c342 : Exa Z T336.heap w_UsageKind_SMS_written "java/lang/String" := Exa.ext (O338).2 E_w_UsageKind_SMS_written
          have c343 : Fld Z T336.heap w_UsageKind_SMS_written "java/lang/String" "value" "[B" (.ref w_UsageKind_SMS_written_value) := Fld.ext (O338).2 F_w_UsageKind_SMS_written_value
          have c344 : Fld Z T336.heap w_UsageKind_SMS_written "java/lang/String" "coder" "B" (.int (0 : Int32)) := Fld.ext (O338).2 F_w_UsageKind_SMS_written_coder
          have c345 : Arv Z T336.heap w_UsageKind_SMS_written_value k_w_UsageKind_SMS_written_value .byte (3 : Int32) [(.int (115 : Int32)), (.int (109 : Int32)), (.int (115 : Int32))] (.int (0 : Int32)) := V_w_UsageKind_SMS_written_value.ext O338.2
          have c346 : Exa Z T336.heap a272 "java/lang/String" := (Exa.keep (Exa.wr W280 (Exa.wr W278 (Exa.wr W276 (Exa.ext E274 Ex272)))) K336)
          have c347 : Fld Z T336.heap a272 "java/lang/String" "value" "[B" (.ref b272) := (Fld.keep (Fld.other W280 (Fld.other W278 (Fld.other W276 (Fld.ext E274 Fv272) (Or.inl (Nat.ne_of_lt (Nat.lt_of_lt_of_le (Ex272).lt (Nat.le_of_eq g274.symm))))) (Or.inl (Nat.ne_of_lt (Nat.lt_of_lt_of_le (Ex272).lt (Nat.le_of_eq g274.symm))))) (Or.inl (Nat.ne_of_lt (Nat.lt_of_lt_of_le (Ex272).lt (Nat.le_of_eq g274.symm))))) K336 nin0)
          have c348 : Fld Z T336.heap a272 "java/lang/String" "coder" "B" (.int (0 : Int32)) := (Fld.keep (Fld.other W280 (Fld.other W278 (Fld.other W276 (Fld.ext E274 Fc272) (Or.inl (Nat.ne_of_lt (Nat.lt_of_lt_of_le (Ex272).lt (Nat.le_of_eq g274.symm))))) (Or.inl (Nat.ne_of_lt (Nat.lt_of_lt_of_le (Ex272).lt (Nat.le_of_eq g274.symm))))) (Or.inl (Nat.ne_of_lt (Nat.lt_of_lt_of_le (Ex272).lt (Nat.le_of_eq g274.symm))))) K336 nin0)
          have c349 : Arv Z T336.heap b272 kc272 .byte (3 : Int32) [(.int (115 : Int32)), (.int (109 : Int32)), (.int (115 : Int32))] (.int 0) := (Arv.keep (Arv.other (Arv.other (Arv.other (Av272.ext E274) W276 (Nat.ne_of_lt (Nat.lt_of_lt_of_le (Av272).lt (Nat.le_of_eq g274.symm)))) W278 (Nat.ne_of_lt (Nat.lt_of_lt_of_le (Av272).lt (Nat.le_of_eq g274.symm)))) W280 (Nat.ne_of_lt (Nat.lt_of_lt_of_le (Av272).lt (Nat.le_of_eq g274.symm)))) K336 nin0)
          have c350 : Sta Z T336.heap "java/lang/String" "COMPACT_STRINGS" "Z" (.int zc) := Sta.ext (O338).2 SZ
          obtain ⟨cq351, kq351, q351a, q351b, q351c⟩ := isOf hZ272 e339 c342
          obtain ⟨_, _, ⟨T351, L351, k351, n351⟩, -, X351, ⟨Lc351, hQ351, l351, y351, z351⟩, st351⟩ := X339.virtualBack hx (y := (⟨"java/lang/String", "equals", "(Ljava/lang/Object;)Z"⟩ : MethodName)) (z := (⟨"java/lang/String", "equals", "(Ljava/lang/Object;)Z"⟩ : MethodName)) hown272 (mvT hZ272 (hwk hw 74 rfl)) (mvT hZ272 (hwk hw 60 rfl)) (notFace_of_selects (args := #[]) (mvT hZ272 (hwk hw 62 rfl))) (mvT hZ272 (hwk hw 62 rfl)) (mvT hZ272 (hwk hw 61 rfl)) (by decide) (StrChars.Road.eqW (W := 0) hZ272 hws341 (kI := 4) (hwk hw 5 rfl) c342 c343 c344 c345 own_os1.1 own_os1.2.1 own_os1.2.2 c346 c347 c348 c349 own_os1.1 own_os1.2.1 own_os1.2.2 c350 PZ (by decide) (by decide)) q351a q351c (g := (mkF m 255 #[.val (.int p0), .val (.int p1), .val (.int (p0 &&& (3 : Int32))), .val (.int (p1 &&& (3 : Int32))), .val (.ref w_UsageKind_SMS), .val (.ref a272), .val (.ref b274), .val (.ref w_UsageKind_SMS_written), .val (.ref w_UsageKind_SMS)] [(.ref a272), (.ref w_UsageKind_SMS_written)])) rfl (by rw [hml]; rfl) (Steps.refl _) (argsL := [(.ref a272)]) (rest := []) (lenOf pd_1 rfl) rfl (by show 2 * 0 + _ ≤ _; exact Nat.le_of_eq rfl) (hb hby at_255) (fun _ _ => ⟨rfl, e339, (by decide : 4 + 0 ≤ _), (by decide : 23 + 0 ≤ _)⟩)
          dsimp only [Pt.U, Pt.locs, Pt.cells, Pt.slots] at X351 l351 y351 z351 st351 hQ351
          subst l351 y351 z351
          obtain ⟨hv351, hl351, e351⟩ := hQ351
          cases own_vm hv351
          have N351 := Fr.app N339 (own_frnil hl351)
          have K352 : Keep h0 h272 [] := Keep.ext (Keep.refl h0 []) E272
          have K353 : Keep h0 h274 [] := Keep.ext K352 E274
          have K354 : Keep h0 h276 [] := Keep.wr K353 W276 (Or.inr (Nat.le_trans (Nat.le_trans (Nat.le_refl _) E272.1) (Nat.le_of_eq g274.symm)))
          have K355 : Keep h0 h278 [] := Keep.wr K354 W278 (Or.inr (Nat.le_trans (Nat.le_trans (Nat.le_refl _) E272.1) (Nat.le_of_eq g274.symm)))
          have K356 : Keep h0 h280 [] := Keep.wr K355 W280 (Or.inr (Nat.le_trans (Nat.le_trans (Nat.le_refl _) E272.1) (Nat.le_of_eq g274.symm)))
          have K357 : Keep h0 T336.heap [] := Keep.trans K356 K336 all0
          have CR358 : CHr Z consts_1 s.vm h0 T272.vm h272 := CHr.trans CR0 CX272
          have CR359 : CHr Z consts_1 s.vm h0 T272.vm h274 := CHr.trans CR358 (CHr.ext E274 CR358.1)
          have Sf360 : Safe Z consts_1 T272.vm h272 b274 := Safe.new (Nat.le_of_eq g274.symm)
          have Sf361 : Safe Z consts_1 T272.vm h274 b274 := (Safe.ext E274 CR358.1 Sf360)
          have CR362 : CHr Z consts_1 s.vm h0 T272.vm h276 := CHr.trans CR359 (CHr.wr W276 Sf361 CR359.1)
          have Sf363 : Safe Z consts_1 T272.vm h276 b274 := (Safe.wr W276 Sf361 CR359.1 Sf361)
          have CR364 : CHr Z consts_1 s.vm h0 T272.vm h278 := CHr.trans CR362 (CHr.wr W278 Sf363 CR362.1)
          have Sf365 : Safe Z consts_1 T272.vm h278 b274 := (Safe.wr W278 Sf363 CR362.1 Sf363)
          have CR366 : CHr Z consts_1 s.vm h0 T272.vm h280 := CHr.trans CR364 (CHr.wr W280 Sf365 CR364.1)
          have CR367 : CHr Z consts_1 s.vm h0 T272.vm T336.heap := CHr.trans CR366 (CHr.keep K336 all0 CR366.1)
          obtain ⟨fs, hr, hrun, hended, hRE⟩ := X351.leaveW hS272 (show _ ≤ T351.heap.size from by rw [e351]; exact (Nat.le_trans hk272 (Nat.le_trans (Nat.le_trans (Nat.le_trans (Nat.le_trans (Nat.le_trans (Nat.le_refl _) E274.1) (Nat.le_of_eq W276.size.symm)) (Nat.le_of_eq W278.size.symm)) (Nat.le_of_eq W280.size.symm)) K336.1))) (v := some (.int (1 : Int32))) (fun h => by rw [Bd.returns] at h; cases h)
          have CRl : CHr Z consts_1 s.vm s.heap (T351.setFrames fs).vm (T351.setFrames fs).heap := by
            have q := CHr.trans CR367 (CHv.at X351 hZ272 hEL CR367.1)
            rw [← hh, ← e351] at q
            exact q
          refine ⟨_, _, S324 _ ?_, hrun, hended, _, _, rfl, ?_, CRl, hRE.1, hRE.2.1, hRE.2.2.1, hRE.2.2.2.mono (by decide) (by decide)⟩
          · show Steps p.tables e below (T280.setTop (mkF m 210 #[.val (.int p0), .val (.int p1), .val (.int (p0 &&& (3 : Int32))), .val (.int (p1 &&& (3 : Int32))), .val (.ref w_UsageKind_SMS), .val (.ref a272), .val (.ref b274), .unset, .unset] [(.int (2 : Int32)), (.int (p1 &&& (3 : Int32)))])) _
            refine XS.icmpNo X280.here hx rfl (hb hby at_210) rfl (teq hc323).2 ?_
            show Steps p.tables e below (T280.setTop (mkF m 213 #[.val (.int p0), .val (.int p1), .val (.int (p0 &&& (3 : Int32))), .val (.int (p1 &&& (3 : Int32))), .val (.ref w_UsageKind_SMS), .val (.ref a272), .val (.ref b274), .unset, .unset] [])) _
            refine XS.aload X280.here hx rfl (hb hby at_213) rfl rfl ?_
            show Steps p.tables e below (T280.setTop (mkF m 215 #[.val (.int p0), .val (.int p1), .val (.int (p0 &&& (3 : Int32))), .val (.int (p1 &&& (3 : Int32))), .val (.ref w_UsageKind_SMS), .val (.ref a272), .val (.ref b274), .unset, .unset] [(.ref w_UsageKind_SMS)])) _
            refine st330.trans ?_
            show Steps p.tables e below (T330.setTop (mkF m 218 #[.val (.int p0), .val (.int p1), .val (.int (p0 &&& (3 : Int32))), .val (.int (p1 &&& (3 : Int32))), .val (.ref w_UsageKind_SMS), .val (.ref a272), .val (.ref b274), .unset, .unset] [(.ref w_UsageKind_SMS_written)])) _
            refine XS.astore X330.here hx rfl (hb hby at_218) rfl rfl (l' := #[.val (.int p0), .val (.int p1), .val (.int (p0 &&& (3 : Int32))), .val (.int (p1 &&& (3 : Int32))), .val (.ref w_UsageKind_SMS), .val (.ref a272), .val (.ref b274), .val (.ref w_UsageKind_SMS_written), .unset]) rfl ?_
            show Steps p.tables e below (T330.setTop (mkF m 220 #[.val (.int p0), .val (.int p1), .val (.int (p0 &&& (3 : Int32))), .val (.int (p1 &&& (3 : Int32))), .val (.ref w_UsageKind_SMS), .val (.ref a272), .val (.ref b274), .val (.ref w_UsageKind_SMS_written), .unset] [])) _
            refine XS.goto X330.here hx rfl (pc0 := 220) (pc' := 234) rfl (hb hby at_220) (by decide) (by decide) ?_
            show Steps p.tables e below (T330.setTop (mkF m 234 #[.val (.int p0), .val (.int p1), .val (.int (p0 &&& (3 : Int32))), .val (.int (p1 &&& (3 : Int32))), .val (.ref w_UsageKind_SMS), .val (.ref a272), .val (.ref b274), .val (.ref w_UsageKind_SMS_written), .unset] [])) _
            refine XS.aload X330.here hx rfl (hb hby at_234) rfl rfl ?_
            show Steps p.tables e below (T330.setTop (mkF m 236 #[.val (.int p0), .val (.int p1), .val (.int (p0 &&& (3 : Int32))), .val (.int (p1 &&& (3 : Int32))), .val (.ref w_UsageKind_SMS), .val (.ref a272), .val (.ref b274), .val (.ref w_UsageKind_SMS_written), .unset] [(.ref w_UsageKind_SMS_written)])) _
            refine st336 _ ?_
            show Steps p.tables e below (T336.setTop (mkF m 239 #[.val (.int p0), .val (.int p1), .val (.int (p0 &&& (3 : Int32))), .val (.int (p1 &&& (3 : Int32))), .val (.ref w_UsageKind_SMS), .val (.ref a272), .val (.ref b274), .val (.ref w_UsageKind_SMS_written), .unset] [(.ref w_UsageKind_SMS)])) _
            refine XS.astore X336.here hx rfl (hb hby at_239) rfl rfl (l' := #[.val (.int p0), .val (.int p1), .val (.int (p0 &&& (3 : Int32))), .val (.int (p1 &&& (3 : Int32))), .val (.ref w_UsageKind_SMS), .val (.ref a272), .val (.ref b274), .val (.ref w_UsageKind_SMS_written), .val (.ref w_UsageKind_SMS)]) rfl ?_
            show Steps p.tables e below (T336.setTop (mkF m 241 #[.val (.int p0), .val (.int p1), .val (.int (p0 &&& (3 : Int32))), .val (.int (p1 &&& (3 : Int32))), .val (.ref w_UsageKind_SMS), .val (.ref a272), .val (.ref b274), .val (.ref w_UsageKind_SMS_written), .val (.ref w_UsageKind_SMS)] [])) _
            refine XS.aload X336.here hx rfl (hb hby at_241) rfl rfl ?_
            show Steps p.tables e below (T336.setTop (mkF m 243 #[.val (.int p0), .val (.int p1), .val (.int (p0 &&& (3 : Int32))), .val (.int (p1 &&& (3 : Int32))), .val (.ref w_UsageKind_SMS), .val (.ref a272), .val (.ref b274), .val (.ref w_UsageKind_SMS_written), .val (.ref w_UsageKind_SMS)] [(.ref w_UsageKind_SMS)])) _
            refine XS.aload X336.here hx rfl (hb hby at_243) rfl rfl ?_
            show Steps p.tables e below (T336.setTop (mkF m 245 #[.val (.int p0), .val (.int p1), .val (.int (p0 &&& (3 : Int32))), .val (.int (p1 &&& (3 : Int32))), .val (.ref w_UsageKind_SMS), .val (.ref a272), .val (.ref b274), .val (.ref w_UsageKind_SMS_written), .val (.ref w_UsageKind_SMS)] [(.ref w_UsageKind_SMS), (.ref w_UsageKind_SMS)])) _
            refine Jvm.RoadKit.acmp (g := (mkF m 245 #[.val (.int p0), .val (.int p1), .val (.int (p0 &&& (3 : Int32))), .val (.int (p1 &&& (3 : Int32))), .val (.ref w_UsageKind_SMS), .val (.ref a272), .val (.ref b274), .val (.ref w_UsageKind_SMS_written), .val (.ref w_UsageKind_SMS)] [(.ref w_UsageKind_SMS), (.ref w_UsageKind_SMS)])) X336 hx rfl rfl rfl (pc0 := 245) (pc' := 248) (same := true) rfl (hb hby at_245) rfl (decide_eq_true rfl) (by decide) (by decide) ?_
            show Steps p.tables e below (T336.setTop (mkF m 248 #[.val (.int p0), .val (.int p1), .val (.int (p0 &&& (3 : Int32))), .val (.int (p1 &&& (3 : Int32))), .val (.ref w_UsageKind_SMS), .val (.ref a272), .val (.ref b274), .val (.ref w_UsageKind_SMS_written), .val (.ref w_UsageKind_SMS)] [])) _
            refine XS.aload X336.here hx rfl (hb hby at_248) rfl rfl ?_
            show Steps p.tables e below (T336.setTop (mkF m 250 #[.val (.int p0), .val (.int p1), .val (.int (p0 &&& (3 : Int32))), .val (.int (p1 &&& (3 : Int32))), .val (.ref w_UsageKind_SMS), .val (.ref a272), .val (.ref b274), .val (.ref w_UsageKind_SMS_written), .val (.ref w_UsageKind_SMS)] [(.ref w_UsageKind_SMS)])) _
            refine st339.trans ?_
            show Steps p.tables e below (T339.setTop (mkF m 253 #[.val (.int p0), .val (.int p1), .val (.int (p0 &&& (3 : Int32))), .val (.int (p1 &&& (3 : Int32))), .val (.ref w_UsageKind_SMS), .val (.ref a272), .val (.ref b274), .val (.ref w_UsageKind_SMS_written), .val (.ref w_UsageKind_SMS)] [(.ref w_UsageKind_SMS_written)])) _
            refine XS.aload X339.here hx rfl (hb hby at_253) rfl rfl ?_
            show Steps p.tables e below (T339.setTop (mkF m 255 #[.val (.int p0), .val (.int p1), .val (.int (p0 &&& (3 : Int32))), .val (.int (p1 &&& (3 : Int32))), .val (.ref w_UsageKind_SMS), .val (.ref a272), .val (.ref b274), .val (.ref w_UsageKind_SMS_written), .val (.ref w_UsageKind_SMS)] [(.ref a272), (.ref w_UsageKind_SMS_written)])) _
            refine st351.trans ?_
            show Steps p.tables e below (T351.setTop (mkF m 258 #[.val (.int p0), .val (.int p1), .val (.int (p0 &&& (3 : Int32))), .val (.int (p1 &&& (3 : Int32))), .val (.ref w_UsageKind_SMS), .val (.ref a272), .val (.ref b274), .val (.ref w_UsageKind_SMS_written), .val (.ref w_UsageKind_SMS)] [(.int (VM [(115 : Int32), (109 : Int32), (115 : Int32)] [(115 : Int32), (109 : Int32), (115 : Int32)]))])) _
            refine XS.ifNo X351.here hx rfl (hb hby at_258) rfl ((if0 _ _).trans (feq (own_vm0 _ : ¬ ((VM [(115 : Int32), (109 : Int32), (115 : Int32)] [(115 : Int32), (109 : Int32), (115 : Int32)]) = (0 : Int32)))).1) ?_
            show Steps p.tables e below (T351.setTop (mkF m 261 #[.val (.int p0), .val (.int p1), .val (.int (p0 &&& (3 : Int32))), .val (.int (p1 &&& (3 : Int32))), .val (.ref w_UsageKind_SMS), .val (.ref a272), .val (.ref b274), .val (.ref w_UsageKind_SMS_written), .val (.ref w_UsageKind_SMS)] [])) _
            refine XS.iconst X351.here hx rfl (hb hby at_261) ?_
            show Steps p.tables e below (T351.setTop (mkF m 262 #[.val (.int p0), .val (.int p1), .val (.int (p0 &&& (3 : Int32))), .val (.int (p1 &&& (3 : Int32))), .val (.ref w_UsageKind_SMS), .val (.ref a272), .val (.ref b274), .val (.ref w_UsageKind_SMS_written), .val (.ref w_UsageKind_SMS)] [(.int (1 : Int32))])) _
            refine XS.goto X351.here hx rfl (pc0 := 262) (pc' := 266) rfl (hb hby at_262) (by decide) (by decide) ?_
            show Steps p.tables e below (T351.setTop (mkF m 266 #[.val (.int p0), .val (.int p1), .val (.int (p0 &&& (3 : Int32))), .val (.int (p1 &&& (3 : Int32))), .val (.ref w_UsageKind_SMS), .val (.ref a272), .val (.ref b274), .val (.ref w_UsageKind_SMS_written), .val (.ref w_UsageKind_SMS)] [(.int (1 : Int32))])) _
            exact Jvm.RoadKit.retOut X351 hx Bd.returns rfl (Or.inl ⟨rfl, by simp, _, rfl⟩) (hb hby at_266) hr
          · show Q_rm0 Z p0 p1 w_UsageKind_SMS w_UsageKind_CALL w_UsageKind_DATA w_UsageKind__VALUES w_UsageKind_LOCAL_DATA w_UsageKind_SMS_written w_UsageKind_CALL_written w_UsageKind_DATA_written w_UsageKind_LOCAL_DATA_written w_UsageKind_SMS_written_value w_UsageKind_CALL_written_value w_UsageKind_DATA_written_value w_UsageKind_LOCAL_DATA_written_value k_w_UsageKind__VALUES k_w_UsageKind_SMS_written_value k_w_UsageKind_CALL_written_value k_w_UsageKind_DATA_written_value k_w_UsageKind_LOCAL_DATA_written_value zc h0 n0 _ T351.heap _
            rw [e351]
            unfold Q_rm0
            exact ⟨rfl, N351, K357⟩
        · have O368 : Old Z n0 h274 := Old.ext O273 E274
          have O369 : Old Z n0 h276 := Old.wr O368 W276 g_b274
          have O370 : Old Z n0 h278 := Old.wr O369 W278 g_b274
          have O371 : Old Z n0 h280 := Old.wr O370 W280 g_b274
          obtain ⟨T372, h372, X372, e372, E372, A372, D372, -, st372⟩ := newO X280 hx hZ272 hown272 (hwk hw 12 rfl) (hwk hw 5 rfl) (hwk hw 4 rfl) e280 (g := (mkF m 223 #[.val (.int p0), .val (.int p1), .val (.int (p0 &&& (3 : Int32))), .val (.int (p1 &&& (3 : Int32))), .val (.ref w_UsageKind_SMS), .val (.ref a272), .val (.ref b274), .unset, .unset] [])) rfl (hb hby at_223) (by decide) (by decide)
          obtain ⟨b372, g372⟩ : ∃ z, z = h280.size := ⟨_, rfl⟩
          rw [← g372] at A372 D372 st372
          have g_b372 : n0 ≤ b372 := Nat.le_trans (old_le O371) (Nat.le_of_eq g372.symm)
          have hp373 : ∀ c ∈ ([(nar .char (115 : Int32)), (nar .char (109 : Int32)), (nar .char (115 : Int32))] : List Int32), ¬ c < 0 ∧ ¬ (255 : Int32) < c := by decide
          have hws374 : ∀ d ∈ StrChars.Road.words, d.before a0 Z = true := fun d hd => hw d ((by decide +kernel : ∀ d ∈ StrChars.Road.words, d ∈ tables_1) d hd)
          have O375 : Old Z n0 h372 := Old.ext O371 E372
          have c376 : Arv Z h372 b274 k274 .char (3 : Int32) [(.int (nar .char (115 : Int32))), (.int (nar .char (109 : Int32))), (.int (nar .char (115 : Int32)))] (.int (0 : Int32)) := (V280.ext E372)
          have c377 : Sta Z h372 "java/lang/String" "COMPACT_STRINGS" "Z" (.int zc) := Sta.ext (O375).2 SZ
          obtain ⟨_, _, ⟨T378, L378, k378, n378⟩, -, X378, ⟨Lc378, hQ378, l378, y378, z378⟩, st378⟩ := X372.specialBack hx (y := (⟨"java/lang/String", "<init>", "([C)V"⟩ : MethodName)) rfl hown272 (mvT hZ272 (hwk hw 13 rfl)) (mvT hZ272 (hwk hw 14 rfl)) (mvT hZ272 (hwk hw 15 rfl)) (by decide) (StrChars.Road.backV (W := 1) hZ272 hws374 (kI := 4) (hwk hw 5 rfl) (cs := ([(nar .char (115 : Int32)), (nar .char (109 : Int32)), (nar .char (115 : Int32))] : List Int32)) (bs := (([(nar .char (115 : Int32)), (nar .char (109 : Int32)), (nar .char (115 : Int32))] : List Int32)).map (fun c => c.toInt8.toInt32)) (n := 3) g_b372 (old_le O375) A372 (show Fld Z h372 b372 "java/lang/String" "value" "[B" .null from D372 (Or.inr (hwk hw 7 rfl)) (ty := (.array .byte)) (by decide)) (show Fld Z h372 b372 "java/lang/String" "coder" "B" (.int (0 : Int32)) from D372 (Or.inr (hwk hw 8 rfl)) (ty := .byte) (by decide)) c376 c377 PZ rfl rfl (by decide) (by decide) hp373 rfl (by decide) (by decide)) (g := (mkF m 229 #[.val (.int p0), .val (.int p1), .val (.int (p0 &&& (3 : Int32))), .val (.int (p1 &&& (3 : Int32))), .val (.ref w_UsageKind_SMS), .val (.ref a272), .val (.ref b274), .unset, .unset] [(.ref b274), (.ref b372), (.ref b372)])) rfl (by rw [hml]; rfl) (Steps.refl _) (a := b372) (argsL := [(.ref b274)]) (rest := [(.ref b372)]) (lenOf pd_4 rfl) rfl (by show 2 * 0 + _ ≤ _; exact Nat.le_of_eq rfl) (hb hby at_229) (fun _ _ => ⟨rfl, e372, (by decide : 4 + 1 ≤ _), (by decide : 23 + 3 ≤ _)⟩)
          dsimp only [Pt.U, Pt.locs, Pt.cells, Pt.slots] at X378 l378 y378 z378 st378 hQ378
          subst l378 y378 z378
          unfold StrChars.Road.QV at hQ378
          obtain ⟨rfl, N378q, K378, E378x, C378, t378, kb378, g_t378, ge_t378, ne378, V378, A378⟩ := hQ378
          have N378 := Fr.app N280 N378q
          have OS379 : OwnStr [(115 : Int32), (109 : Int32), (115 : Int32)] (3 : Int32) (((([(nar .char (115 : Int32)), (nar .char (109 : Int32)), (nar .char (115 : Int32))] : List Int32)).map (fun c => c.toInt8.toInt32)).map Value.int) := own_s255c hp373 (by decide) (by decide)
          have O380 : Old Z n0 T378.heap := Old.keep O375 K378 (allS g_b372 all0)
          obtain ⟨_, _, ⟨T381, L381, k381, n381⟩, -, X381, ⟨Lc381, hQ381, l381, y381, z381⟩, st381⟩ := Jvm.LawKit.callS X378 hx (y := (⟨"com/example/bill_run/billrun/UsageKind", "named", "(Ljava/lang/String;)Lcom/example/bill_run/billrun/UsageKind;"⟩ : MethodName)) hown272 (mvT hZ272 (hwk hw 36 rfl)) (mvT hZ272 (hwk hw 37 rfl)) (mvT hZ272 (hwk hw 1 rfl)) (mvT hZ272 (hwk hw 38 rfl)) (by decide) (backOf (W := 0) (rn1 l Z a0 hw [] b372 t378 kb378 (3 : Int32) (((([(nar .char (115 : Int32)), (nar .char (109 : Int32)), (nar .char (115 : Int32))] : List Int32)).map (fun c => c.toInt8.toInt32)).map Value.int) w_UsageKind_SMS w_UsageKind_CALL w_UsageKind_DATA w_UsageKind__VALUES w_UsageKind_LOCAL_DATA w_UsageKind_SMS_written w_UsageKind_CALL_written w_UsageKind_SMS_written_value w_UsageKind_CALL_written_value k_w_UsageKind__VALUES k_w_UsageKind_SMS_written_value k_w_UsageKind_CALL_written_value zc T378.heap n0 O380 E378x V378 C378 A378 OS379 E_w_UsageKind_SMS E_w_UsageKind_CALL S_UsageKind__VALUES E_w_UsageKind__VALUES V_w_UsageKind__VALUES F_w_UsageKind_SMS_written E_w_UsageKind_SMS_written F_w_UsageKind_CALL_written E_w_UsageKind_CALL_written F_w_UsageKind_SMS_written_value F_w_UsageKind_CALL_written_value F_w_UsageKind_CALL_written_coder F_w_UsageKind_SMS_written_coder V_w_UsageKind_SMS_written_value V_w_UsageKind_CALL_written_value SZ PZ) hZ272 (hwk hw 38 rfl) (hwk hw 1 rfl) (by decide) (by decide)) (g := (mkF m 236 #[.val (.int p0), .val (.int p1), .val (.int (p0 &&& (3 : Int32))), .val (.int (p1 &&& (3 : Int32))), .val (.ref w_UsageKind_SMS), .val (.ref a272), .val (.ref b274), .val (.ref b372), .unset] [(.ref b372)])) rfl (by rw [hml]; rfl) (argsL := [(.ref b372)]) (rest := []) (lenOf pd_2 rfl) rfl (by show 2 * 0 + _ ≤ _; exact Nat.le_of_eq rfl) (hb hby at_236) (fun _ _ => ⟨rfl, (rfl : T378.heap = T378.heap), (by decide : 5 + 1 ≤ _), (by decide : 26 + 4 ≤ _)⟩)
          dsimp only [Pt.U, Pt.locs, Pt.cells, Pt.slots] at X381 l381 y381 z381 st381 hQ381
          subst l381 y381 z381
          unfold Q_rn1 at hQ381
          obtain ⟨rfl, N381q, K381⟩ := hQ381
          have N381 := Fr.app N378 N381q
          have O383 : Old Z n0 T381.heap := Old.keep O380 K381 all0
          have c382 : Fld Z T381.heap w_UsageKind_SMS "com/example/bill_run/billrun/UsageKind" "written" "Ljava/lang/String;" (.ref w_UsageKind_SMS_written) := Fld.ext (O383).2 F_w_UsageKind_SMS_written
          have c385 : Exa Z T381.heap w_UsageKind_SMS "com/example/bill_run/billrun/UsageKind" := Exa.ext (O383).2 E_w_UsageKind_SMS
          obtain ⟨cq384, kq384, q384a, q384b, q384c⟩ := isOf hZ272 (rfl : T381.heap = T381.heap) c385
          obtain ⟨_, _, ⟨T384, L384, k384, n384⟩, -, X384, ⟨Lc384, hQ384, l384, y384, z384⟩, st384⟩ := X381.virtualBack hx (y := (⟨"com/example/bill_run/billrun/UsageKind", "toString", "()Ljava/lang/String;"⟩ : MethodName)) (z := (⟨"com/example/bill_run/billrun/UsageKind", "toString", "()Ljava/lang/String;"⟩ : MethodName)) hown272 (mvT hZ272 (hwk hw 69 rfl)) (mvT hZ272 (hwk hw 70 rfl)) (notFace_of_selects (args := #[]) (mvT hZ272 (hwk hw 72 rfl))) (mvT hZ272 (hwk hw 72 rfl)) (mvT hZ272 (hwk hw 71 rfl)) (by decide) (backOf (W := 0) (rm11 l Z a0 hw [] w_UsageKind_SMS w_UsageKind_SMS_written T381.heap n0 O383 c382) hZ272 (hwk hw 73 rfl) (hwk hw 1 rfl) (by decide) (by decide)) q384a q384c (g := (mkF m 250 #[.val (.int p0), .val (.int p1), .val (.int (p0 &&& (3 : Int32))), .val (.int (p1 &&& (3 : Int32))), .val (.ref w_UsageKind_SMS), .val (.ref a272), .val (.ref b274), .val (.ref b372), .val (.ref w_UsageKind_SMS)] [(.ref w_UsageKind_SMS)])) rfl (by rw [hml]; rfl) (Steps.refl _) (argsL := []) (rest := []) (lenOf pd_3 rfl) rfl (by show 2 * 0 + _ ≤ _; exact Nat.le_of_eq rfl) (hb hby at_250) (fun _ _ => ⟨rfl, (rfl : T381.heap = T381.heap), (by decide : 6 + 0 ≤ _), (by decide : 30 + 0 ≤ _)⟩)
          dsimp only [Pt.U, Pt.locs, Pt.cells, Pt.slots] at X384 l384 y384 z384 st384 hQ384
          subst l384 y384 z384
          unfold Q_rm11 at hQ384
          obtain ⟨rfl, N384q, e384⟩ := hQ384
          have N384 := Fr.app N381 N384q
          have hws386 : ∀ d ∈ StrChars.Road.wordsEq, d.before a0 Z = true := fun d hd => hw d ((by decide +kernel : ∀ d ∈ StrChars.Road.wordsEq, d ∈ tables_1) d hd)
          have c387 : Exa Z T381.heap w_UsageKind_SMS_written "java/lang/String" := Exa.ext (O383).2 E_w_UsageKind_SMS_written
          have c388 : Fld Z T381.heap w_UsageKind_SMS_written "java/lang/String" "value" "[B" (.ref w_UsageKind_SMS_written_value) := Fld.ext (O383).2 F_w_UsageKind_SMS_written_value
          have c389 : Fld Z T381.heap w_UsageKind_SMS_written "java/lang/String" "coder" "B" (.int (0 : Int32)) := Fld.ext (O383).2 F_w_UsageKind_SMS_written_coder
          have c390 : Arv Z T381.heap w_UsageKind_SMS_written_value k_w_UsageKind_SMS_written_value .byte (3 : Int32) [(.int (115 : Int32)), (.int (109 : Int32)), (.int (115 : Int32))] (.int (0 : Int32)) := V_w_UsageKind_SMS_written_value.ext O383.2
          have c391 : Exa Z T381.heap a272 "java/lang/String" := (Exa.keep (Exa.keep (Exa.ext E372 (Exa.wr W280 (Exa.wr W278 (Exa.wr W276 (Exa.ext E274 Ex272))))) K378) K381)
          have c392 : Exa Z h280 a272 "java/lang/String" := (Exa.wr W280 (Exa.wr W278 (Exa.wr W276 (Exa.ext E274 Ex272))))
          have c393 : Fld Z T381.heap a272 "java/lang/String" "value" "[B" (.ref b272) := (Fld.keep (Fld.keep (Fld.ext E372 (Fld.other W280 (Fld.other W278 (Fld.other W276 (Fld.ext E274 Fv272) (Or.inl (Nat.ne_of_lt (Nat.lt_of_lt_of_le (Ex272).lt (Nat.le_of_eq g274.symm))))) (Or.inl (Nat.ne_of_lt (Nat.lt_of_lt_of_le (Ex272).lt (Nat.le_of_eq g274.symm))))) (Or.inl (Nat.ne_of_lt (Nat.lt_of_lt_of_le (Ex272).lt (Nat.le_of_eq g274.symm)))))) K378 (ninS (Nat.ne_of_lt (Nat.lt_of_lt_of_le (c392).lt (Nat.le_of_eq g372.symm))) nin0)) K381 nin0)
          have c394 : Fld Z T381.heap a272 "java/lang/String" "coder" "B" (.int (0 : Int32)) := (Fld.keep (Fld.keep (Fld.ext E372 (Fld.other W280 (Fld.other W278 (Fld.other W276 (Fld.ext E274 Fc272) (Or.inl (Exa.neArv c392 V280 (hwk hw 5 rfl)))) (Or.inl (Exa.neArv c392 V280 (hwk hw 5 rfl)))) (Or.inl (Exa.neArv c392 V280 (hwk hw 5 rfl))))) K378 (ninS (Nat.ne_of_lt (Nat.lt_of_lt_of_le (c392).lt (Nat.le_of_eq g372.symm))) nin0)) K381 nin0)
          have c395 : Arv Z h280 b272 kc272 .byte (3 : Int32) [(.int (115 : Int32)), (.int (109 : Int32)), (.int (115 : Int32))] (.int 0) := (Arv.other (Arv.other (Arv.other (Av272.ext E274) W276 (Nat.ne_of_lt (Nat.lt_of_lt_of_le (Av272).lt (Nat.le_of_eq g274.symm)))) W278 (Nat.ne_of_lt (Nat.lt_of_lt_of_le (Av272).lt (Nat.le_of_eq g274.symm)))) W280 (Nat.ne_of_lt (Nat.lt_of_lt_of_le (Av272).lt (Nat.le_of_eq g274.symm))))
          have c396 : Arv Z T381.heap b272 kc272 .byte (3 : Int32) [(.int (115 : Int32)), (.int (109 : Int32)), (.int (115 : Int32))] (.int 0) := (Arv.keep (Arv.keep ((Arv.other (Arv.other (Arv.other (Av272.ext E274) W276 (Nat.ne_of_lt (Nat.lt_of_lt_of_le (Av272).lt (Nat.le_of_eq g274.symm)))) W278 (Nat.ne_of_lt (Nat.lt_of_lt_of_le (Av272).lt (Nat.le_of_eq g274.symm)))) W280 (Nat.ne_of_lt (Nat.lt_of_lt_of_le (Av272).lt (Nat.le_of_eq g274.symm)))).ext E372) K378 (ninS (Nat.ne_of_lt (Nat.lt_of_lt_of_le (c395).lt (Nat.le_of_eq g372.symm))) nin0)) K381 nin0)
          have c397 : Sta Z T381.heap "java/lang/String" "COMPACT_STRINGS" "Z" (.int zc) := Sta.ext (O383).2 SZ
          obtain ⟨cq398, kq398, q398a, q398b, q398c⟩ := isOf hZ272 e384 c387
          obtain ⟨_, _, ⟨T398, L398, k398, n398⟩, -, X398, ⟨Lc398, hQ398, l398, y398, z398⟩, st398⟩ := X384.virtualBack hx (y := (⟨"java/lang/String", "equals", "(Ljava/lang/Object;)Z"⟩ : MethodName)) (z := (⟨"java/lang/String", "equals", "(Ljava/lang/Object;)Z"⟩ : MethodName)) hown272 (mvT hZ272 (hwk hw 74 rfl)) (mvT hZ272 (hwk hw 60 rfl)) (notFace_of_selects (args := #[]) (mvT hZ272 (hwk hw 62 rfl))) (mvT hZ272 (hwk hw 62 rfl)) (mvT hZ272 (hwk hw 61 rfl)) (by decide) (StrChars.Road.eqW (W := 0) hZ272 hws386 (kI := 4) (hwk hw 5 rfl) c387 c388 c389 c390 own_os1.1 own_os1.2.1 own_os1.2.2 c391 c393 c394 c396 own_os1.1 own_os1.2.1 own_os1.2.2 c397 PZ (by decide) (by decide)) q398a q398c (g := (mkF m 255 #[.val (.int p0), .val (.int p1), .val (.int (p0 &&& (3 : Int32))), .val (.int (p1 &&& (3 : Int32))), .val (.ref w_UsageKind_SMS), .val (.ref a272), .val (.ref b274), .val (.ref b372), .val (.ref w_UsageKind_SMS)] [(.ref a272), (.ref w_UsageKind_SMS_written)])) rfl (by rw [hml]; rfl) (Steps.refl _) (argsL := [(.ref a272)]) (rest := []) (lenOf pd_1 rfl) rfl (by show 2 * 0 + _ ≤ _; exact Nat.le_of_eq rfl) (hb hby at_255) (fun _ _ => ⟨rfl, e384, (by decide : 6 + 0 ≤ _), (by decide : 30 + 0 ≤ _)⟩)
          dsimp only [Pt.U, Pt.locs, Pt.cells, Pt.slots] at X398 l398 y398 z398 st398 hQ398
          subst l398 y398 z398
          obtain ⟨hv398, hl398, e398⟩ := hQ398
          cases own_vm hv398
          have N398 := Fr.app N384 (own_frnil hl398)
          have K399 : Keep h0 h272 [] := Keep.ext (Keep.refl h0 []) E272
          have K400 : Keep h0 h274 [] := Keep.ext K399 E274
          have K401 : Keep h0 h276 [] := Keep.wr K400 W276 (Or.inr (Nat.le_trans (Nat.le_trans (Nat.le_refl _) E272.1) (Nat.le_of_eq g274.symm)))
          have K402 : Keep h0 h278 [] := Keep.wr K401 W278 (Or.inr (Nat.le_trans (Nat.le_trans (Nat.le_refl _) E272.1) (Nat.le_of_eq g274.symm)))
          have K403 : Keep h0 h280 [] := Keep.wr K402 W280 (Or.inr (Nat.le_trans (Nat.le_trans (Nat.le_refl _) E272.1) (Nat.le_of_eq g274.symm)))
          have K404 : Keep h0 h372 [] := Keep.ext K403 E372
          have K405 : Keep h0 T378.heap [] := Keep.trans K404 K378 (allS (Or.inr (Nat.le_trans (Nat.le_trans (Nat.le_trans (Nat.le_trans (Nat.le_trans (Nat.le_trans (Nat.le_refl _) E272.1) E274.1) (Nat.le_of_eq W276.size.symm)) (Nat.le_of_eq W278.size.symm)) (Nat.le_of_eq W280.size.symm)) (Nat.le_of_eq g372.symm))) all0)
          have K406 : Keep h0 T381.heap [] := Keep.trans K405 K381 all0
          have CR407 : CHr Z consts_1 s.vm h0 T272.vm h272 := CHr.trans CR0 CX272
          have CR408 : CHr Z consts_1 s.vm h0 T272.vm h274 := CHr.trans CR407 (CHr.ext E274 CR407.1)
          have Sf409 : Safe Z consts_1 T272.vm h272 b274 := Safe.new (Nat.le_of_eq g274.symm)
          have Sf410 : Safe Z consts_1 T272.vm h274 b274 := (Safe.ext E274 CR407.1 Sf409)
          have CR411 : CHr Z consts_1 s.vm h0 T272.vm h276 := CHr.trans CR408 (CHr.wr W276 Sf410 CR408.1)
          have Sf412 : Safe Z consts_1 T272.vm h276 b274 := (Safe.wr W276 Sf410 CR408.1 Sf410)
          have CR413 : CHr Z consts_1 s.vm h0 T272.vm h278 := CHr.trans CR411 (CHr.wr W278 Sf412 CR411.1)
          have Sf414 : Safe Z consts_1 T272.vm h278 b274 := (Safe.wr W278 Sf412 CR411.1 Sf412)
          have CR415 : CHr Z consts_1 s.vm h0 T272.vm h280 := CHr.trans CR413 (CHr.wr W280 Sf414 CR413.1)
          have CR416 : CHr Z consts_1 s.vm h0 T272.vm h372 := CHr.trans CR415 (CHr.ext E372 CR415.1)
          have Sf417 : Safe Z consts_1 T272.vm h280 b372 := Safe.new (Nat.le_of_eq g372.symm)
          have Sf418 : Safe Z consts_1 T272.vm h372 b372 := (Safe.ext E372 CR415.1 Sf417)
          have CR419 : CHr Z consts_1 s.vm h0 T272.vm T378.heap := CHr.trans CR416 (CHr.keep K378 (allS Sf418 all0) CR416.1)
          have CR420 : CHr Z consts_1 s.vm h0 T272.vm T381.heap := CHr.trans CR419 (CHr.keep K381 all0 CR419.1)
          obtain ⟨fs, hr, hrun, hended, hRE⟩ := X398.leaveW hS272 (show _ ≤ T398.heap.size from by rw [e398]; exact (Nat.le_trans hk272 (Nat.le_trans (Nat.le_trans (Nat.le_trans (Nat.le_trans (Nat.le_trans (Nat.le_trans (Nat.le_trans (Nat.le_refl _) E274.1) (Nat.le_of_eq W276.size.symm)) (Nat.le_of_eq W278.size.symm)) (Nat.le_of_eq W280.size.symm)) E372.1) K378.1) K381.1))) (v := some (.int (1 : Int32))) (fun h => by rw [Bd.returns] at h; cases h)
          have CRl : CHr Z consts_1 s.vm s.heap (T398.setFrames fs).vm (T398.setFrames fs).heap := by
            have q := CHr.trans CR420 (CHv.at X398 hZ272 hEL CR420.1)
            rw [← hh, ← e398] at q
            exact q
          refine ⟨_, _, S324 _ ?_, hrun, hended, _, _, rfl, ?_, CRl, hRE.1, hRE.2.1, hRE.2.2.1, hRE.2.2.2.mono (by decide) (by decide)⟩
          · show Steps p.tables e below (T280.setTop (mkF m 210 #[.val (.int p0), .val (.int p1), .val (.int (p0 &&& (3 : Int32))), .val (.int (p1 &&& (3 : Int32))), .val (.ref w_UsageKind_SMS), .val (.ref a272), .val (.ref b274), .unset, .unset] [(.int (2 : Int32)), (.int (p1 &&& (3 : Int32)))])) _
            refine XS.icmpYes X280.here hx rfl (pc0 := 210) (pc' := 223) rfl (hb hby at_210) rfl (feq hc323).2 (by decide) (by decide) ?_
            show Steps p.tables e below (T280.setTop (mkF m 223 #[.val (.int p0), .val (.int p1), .val (.int (p0 &&& (3 : Int32))), .val (.int (p1 &&& (3 : Int32))), .val (.ref w_UsageKind_SMS), .val (.ref a272), .val (.ref b274), .unset, .unset] [])) _
            refine st372 _ ?_
            show Steps p.tables e below (T372.setTop (mkF m 226 #[.val (.int p0), .val (.int p1), .val (.int (p0 &&& (3 : Int32))), .val (.int (p1 &&& (3 : Int32))), .val (.ref w_UsageKind_SMS), .val (.ref a272), .val (.ref b274), .unset, .unset] [(.ref b372)])) _
            refine XS.dup X372.here hx rfl (hb hby at_226) rfl rfl ?_
            show Steps p.tables e below (T372.setTop (mkF m 227 #[.val (.int p0), .val (.int p1), .val (.int (p0 &&& (3 : Int32))), .val (.int (p1 &&& (3 : Int32))), .val (.ref w_UsageKind_SMS), .val (.ref a272), .val (.ref b274), .unset, .unset] [(.ref b372), (.ref b372)])) _
            refine XS.aload X372.here hx rfl (hb hby at_227) rfl rfl ?_
            show Steps p.tables e below (T372.setTop (mkF m 229 #[.val (.int p0), .val (.int p1), .val (.int (p0 &&& (3 : Int32))), .val (.int (p1 &&& (3 : Int32))), .val (.ref w_UsageKind_SMS), .val (.ref a272), .val (.ref b274), .unset, .unset] [(.ref b274), (.ref b372), (.ref b372)])) _
            refine st378.trans ?_
            show Steps p.tables e below (T378.setTop (mkF m 232 #[.val (.int p0), .val (.int p1), .val (.int (p0 &&& (3 : Int32))), .val (.int (p1 &&& (3 : Int32))), .val (.ref w_UsageKind_SMS), .val (.ref a272), .val (.ref b274), .unset, .unset] [(.ref b372)])) _
            refine XS.astore X378.here hx rfl (hb hby at_232) rfl rfl (l' := #[.val (.int p0), .val (.int p1), .val (.int (p0 &&& (3 : Int32))), .val (.int (p1 &&& (3 : Int32))), .val (.ref w_UsageKind_SMS), .val (.ref a272), .val (.ref b274), .val (.ref b372), .unset]) rfl ?_
            show Steps p.tables e below (T378.setTop (mkF m 234 #[.val (.int p0), .val (.int p1), .val (.int (p0 &&& (3 : Int32))), .val (.int (p1 &&& (3 : Int32))), .val (.ref w_UsageKind_SMS), .val (.ref a272), .val (.ref b274), .val (.ref b372), .unset] [])) _
            refine XS.aload X378.here hx rfl (hb hby at_234) rfl rfl ?_
            show Steps p.tables e below (T378.setTop (mkF m 236 #[.val (.int p0), .val (.int p1), .val (.int (p0 &&& (3 : Int32))), .val (.int (p1 &&& (3 : Int32))), .val (.ref w_UsageKind_SMS), .val (.ref a272), .val (.ref b274), .val (.ref b372), .unset] [(.ref b372)])) _
            refine st381 _ ?_
            show Steps p.tables e below (T381.setTop (mkF m 239 #[.val (.int p0), .val (.int p1), .val (.int (p0 &&& (3 : Int32))), .val (.int (p1 &&& (3 : Int32))), .val (.ref w_UsageKind_SMS), .val (.ref a272), .val (.ref b274), .val (.ref b372), .unset] [(.ref w_UsageKind_SMS)])) _
            refine XS.astore X381.here hx rfl (hb hby at_239) rfl rfl (l' := #[.val (.int p0), .val (.int p1), .val (.int (p0 &&& (3 : Int32))), .val (.int (p1 &&& (3 : Int32))), .val (.ref w_UsageKind_SMS), .val (.ref a272), .val (.ref b274), .val (.ref b372), .val (.ref w_UsageKind_SMS)]) rfl ?_
            show Steps p.tables e below (T381.setTop (mkF m 241 #[.val (.int p0), .val (.int p1), .val (.int (p0 &&& (3 : Int32))), .val (.int (p1 &&& (3 : Int32))), .val (.ref w_UsageKind_SMS), .val (.ref a272), .val (.ref b274), .val (.ref b372), .val (.ref w_UsageKind_SMS)] [])) _
            refine XS.aload X381.here hx rfl (hb hby at_241) rfl rfl ?_
            show Steps p.tables e below (T381.setTop (mkF m 243 #[.val (.int p0), .val (.int p1), .val (.int (p0 &&& (3 : Int32))), .val (.int (p1 &&& (3 : Int32))), .val (.ref w_UsageKind_SMS), .val (.ref a272), .val (.ref b274), .val (.ref b372), .val (.ref w_UsageKind_SMS)] [(.ref w_UsageKind_SMS)])) _
            refine XS.aload X381.here hx rfl (hb hby at_243) rfl rfl ?_
            show Steps p.tables e below (T381.setTop (mkF m 245 #[.val (.int p0), .val (.int p1), .val (.int (p0 &&& (3 : Int32))), .val (.int (p1 &&& (3 : Int32))), .val (.ref w_UsageKind_SMS), .val (.ref a272), .val (.ref b274), .val (.ref b372), .val (.ref w_UsageKind_SMS)] [(.ref w_UsageKind_SMS), (.ref w_UsageKind_SMS)])) _
            refine Jvm.RoadKit.acmp (g := (mkF m 245 #[.val (.int p0), .val (.int p1), .val (.int (p0 &&& (3 : Int32))), .val (.int (p1 &&& (3 : Int32))), .val (.ref w_UsageKind_SMS), .val (.ref a272), .val (.ref b274), .val (.ref b372), .val (.ref w_UsageKind_SMS)] [(.ref w_UsageKind_SMS), (.ref w_UsageKind_SMS)])) X381 hx rfl rfl rfl (pc0 := 245) (pc' := 248) (same := true) rfl (hb hby at_245) rfl (decide_eq_true rfl) (by decide) (by decide) ?_
            show Steps p.tables e below (T381.setTop (mkF m 248 #[.val (.int p0), .val (.int p1), .val (.int (p0 &&& (3 : Int32))), .val (.int (p1 &&& (3 : Int32))), .val (.ref w_UsageKind_SMS), .val (.ref a272), .val (.ref b274), .val (.ref b372), .val (.ref w_UsageKind_SMS)] [])) _
            refine XS.aload X381.here hx rfl (hb hby at_248) rfl rfl ?_
            show Steps p.tables e below (T381.setTop (mkF m 250 #[.val (.int p0), .val (.int p1), .val (.int (p0 &&& (3 : Int32))), .val (.int (p1 &&& (3 : Int32))), .val (.ref w_UsageKind_SMS), .val (.ref a272), .val (.ref b274), .val (.ref b372), .val (.ref w_UsageKind_SMS)] [(.ref w_UsageKind_SMS)])) _
            refine st384.trans ?_
            show Steps p.tables e below (T384.setTop (mkF m 253 #[.val (.int p0), .val (.int p1), .val (.int (p0 &&& (3 : Int32))), .val (.int (p1 &&& (3 : Int32))), .val (.ref w_UsageKind_SMS), .val (.ref a272), .val (.ref b274), .val (.ref b372), .val (.ref w_UsageKind_SMS)] [(.ref w_UsageKind_SMS_written)])) _
            refine XS.aload X384.here hx rfl (hb hby at_253) rfl rfl ?_
            show Steps p.tables e below (T384.setTop (mkF m 255 #[.val (.int p0), .val (.int p1), .val (.int (p0 &&& (3 : Int32))), .val (.int (p1 &&& (3 : Int32))), .val (.ref w_UsageKind_SMS), .val (.ref a272), .val (.ref b274), .val (.ref b372), .val (.ref w_UsageKind_SMS)] [(.ref a272), (.ref w_UsageKind_SMS_written)])) _
            refine st398.trans ?_
            show Steps p.tables e below (T398.setTop (mkF m 258 #[.val (.int p0), .val (.int p1), .val (.int (p0 &&& (3 : Int32))), .val (.int (p1 &&& (3 : Int32))), .val (.ref w_UsageKind_SMS), .val (.ref a272), .val (.ref b274), .val (.ref b372), .val (.ref w_UsageKind_SMS)] [(.int (VM [(115 : Int32), (109 : Int32), (115 : Int32)] [(115 : Int32), (109 : Int32), (115 : Int32)]))])) _
            refine XS.ifNo X398.here hx rfl (hb hby at_258) rfl ((if0 _ _).trans (feq (own_vm0 _ : ¬ ((VM [(115 : Int32), (109 : Int32), (115 : Int32)] [(115 : Int32), (109 : Int32), (115 : Int32)]) = (0 : Int32)))).1) ?_
            show Steps p.tables e below (T398.setTop (mkF m 261 #[.val (.int p0), .val (.int p1), .val (.int (p0 &&& (3 : Int32))), .val (.int (p1 &&& (3 : Int32))), .val (.ref w_UsageKind_SMS), .val (.ref a272), .val (.ref b274), .val (.ref b372), .val (.ref w_UsageKind_SMS)] [])) _
            refine XS.iconst X398.here hx rfl (hb hby at_261) ?_
            show Steps p.tables e below (T398.setTop (mkF m 262 #[.val (.int p0), .val (.int p1), .val (.int (p0 &&& (3 : Int32))), .val (.int (p1 &&& (3 : Int32))), .val (.ref w_UsageKind_SMS), .val (.ref a272), .val (.ref b274), .val (.ref b372), .val (.ref w_UsageKind_SMS)] [(.int (1 : Int32))])) _
            refine XS.goto X398.here hx rfl (pc0 := 262) (pc' := 266) rfl (hb hby at_262) (by decide) (by decide) ?_
            show Steps p.tables e below (T398.setTop (mkF m 266 #[.val (.int p0), .val (.int p1), .val (.int (p0 &&& (3 : Int32))), .val (.int (p1 &&& (3 : Int32))), .val (.ref w_UsageKind_SMS), .val (.ref a272), .val (.ref b274), .val (.ref b372), .val (.ref w_UsageKind_SMS)] [(.int (1 : Int32))])) _
            exact Jvm.RoadKit.retOut X398 hx Bd.returns rfl (Or.inl ⟨rfl, by simp, _, rfl⟩) (hb hby at_266) hr
          · show Q_rm0 Z p0 p1 w_UsageKind_SMS w_UsageKind_CALL w_UsageKind_DATA w_UsageKind__VALUES w_UsageKind_LOCAL_DATA w_UsageKind_SMS_written w_UsageKind_CALL_written w_UsageKind_DATA_written w_UsageKind_LOCAL_DATA_written w_UsageKind_SMS_written_value w_UsageKind_CALL_written_value w_UsageKind_DATA_written_value w_UsageKind_LOCAL_DATA_written_value k_w_UsageKind__VALUES k_w_UsageKind_SMS_written_value k_w_UsageKind_CALL_written_value k_w_UsageKind_DATA_written_value k_w_UsageKind_LOCAL_DATA_written_value zc h0 n0 _ T398.heap _
            rw [e398]
            unfold Q_rm0
            exact ⟨rfl, N398, K406⟩
    · have S422 : ∀ t, Steps p.tables e below (s₁.setTop (mkF m 88 #[.val (.int p0), .val (.int p1), .val (.int (p0 &&& (3 : Int32))), .val (.int (p1 &&& (3 : Int32))), .unset, .unset, .unset, .unset, .unset] [(.int (2 : Int32)), (.int (p0 &&& (3 : Int32)))])) t → Steps p.tables e below (s₁.setTop (entryFrame m #[(.int p0), (.int p1)] maxLocals)) t := fun t k => by
        refine S269 t ?_
        show Steps p.tables e below (s₁.setTop (mkF m 51 #[.val (.int p0), .val (.int p1), .val (.int (p0 &&& (3 : Int32))), .val (.int (p1 &&& (3 : Int32))), .unset, .unset, .unset, .unset, .unset] [(.int (1 : Int32)), (.int (p0 &&& (3 : Int32)))])) _
        refine XS.icmpYes X0.here hx rfl (pc0 := 51) (pc' := 86) rfl (hb hby at_51) rfl (feq hc268).2 (by decide) (by decide) ?_
        show Steps p.tables e below (s₁.setTop (mkF m 86 #[.val (.int p0), .val (.int p1), .val (.int (p0 &&& (3 : Int32))), .val (.int (p1 &&& (3 : Int32))), .unset, .unset, .unset, .unset, .unset] [])) _
        refine XS.iloadN X0.here hx rfl (hb hby at_86) rfl ?_
        show Steps p.tables e below (s₁.setTop (mkF m 87 #[.val (.int p0), .val (.int p1), .val (.int (p0 &&& (3 : Int32))), .val (.int (p1 &&& (3 : Int32))), .unset, .unset, .unset, .unset, .unset] [(.int (p0 &&& (3 : Int32)))])) _
        refine XS.iconst X0.here hx rfl (hb hby at_87) ?_
        exact k
      by_cases hc421 : (p0 &&& (3 : Int32)) = (2 : Int32)
      · have c423 : Sta Z h0 "com/example/bill_run/billrun/UsageKind" "DATA" "Lcom/example/bill_run/billrun/UsageKind;" (.ref w_UsageKind_DATA) := Sta.ext (O0).2 S_UsageKind_DATA
        obtain ⟨T424, X424, e424, st424⟩ := getS2 X0 hx hZ hown (host := "") (Or.inl (hwk hw 75 rfl)) Via.refl e0 c423 (g := (mkF m 91 #[.val (.int p0), .val (.int p1), .val (.int (p0 &&& (3 : Int32))), .val (.int (p1 &&& (3 : Int32))), .unset, .unset, .unset, .unset, .unset] [])) rfl (hb hby at_91)
        obtain ⟨a425, T425, h425, k425, b425, kc425, X425, e425, E425, hS425, hk425, hZ425, hown425, Ex425, Fc425, Fv425, Av425, la425, lb425, CX425, Lt425, Sn425, st425⟩ := ldcCH X424 hx hZ hown (hwk hw 76 rfl) hstr e424 hS0 (Nat.le_refl _) hEL (by decide) CR0.1 (vs := [(.int (100 : Int32)), (.int (97 : Int32)), (.int (116 : Int32)), (.int (97 : Int32))]) (z := (4 : Int32)) ⟨by decide, by decide⟩ (by decide) rfl (g := (mkF m 96 #[.val (.int p0), .val (.int p1), .val (.int (p0 &&& (3 : Int32))), .val (.int (p1 &&& (3 : Int32))), .val (.ref w_UsageKind_DATA), .unset, .unset, .unset, .unset] [])) rfl (hb hby at_96) (n := 16) (by decide) (by decide) (by decide) (by decide)
        have O426 : Old Z n0 h425 := Old.ext O0 E425
        obtain ⟨T427, h427, k427, X427, e427, E427, A427, st427⟩ := newP X425 hx hZ425 (hwk hw 11 rfl) e425 (g := (mkF m 101 #[.val (.int p0), .val (.int p1), .val (.int (p0 &&& (3 : Int32))), .val (.int (p1 &&& (3 : Int32))), .val (.ref w_UsageKind_DATA), .val (.ref a425), .unset, .unset, .unset] [(.int (4 : Int32))])) rfl (hb hby at_101) rfl (by decide) (cap := 4) (by decide) (by decide) (by decide) (by decide)
        obtain ⟨b427, g427⟩ : ∃ z, z = h425.size := ⟨_, rfl⟩
        rw [← g427] at A427 st427
        have g_b427 : n0 ≤ b427 := Nat.le_trans (old_le O426) (Nat.le_of_eq g427.symm)
        have V427 : Arv Z h427 b427 k427 .char (4 : Int32) [(.int (0 : Int32)), (.int (0 : Int32)), (.int (0 : Int32)), (.int (0 : Int32))] (.int (0 : Int32)) := (Arv.new A427 (by decide)).pad (pad_rep [] (.int (0 : Int32)) 4)
        obtain ⟨clq428, Arq428, kqq428, Szq428, Nnq428, Hsq428, Gsq428⟩ := id V427
        have hinq428 : ¬ ((0 : Int32) < 0 ∨ clq428.slots.size ≤ ((0 : Int32)).toNatClampNeg) := inb_of Szq428 ⟨by decide, by decide⟩
        obtain ⟨T429, h429, X429, e429, W429, st429⟩ := stC X427 hx hZ425 e427 Arq428 (j := (0 : Int32)) hinq428 (g := (mkF m 107 #[.val (.int p0), .val (.int p1), .val (.int (p0 &&& (3 : Int32))), .val (.int (p1 &&& (3 : Int32))), .val (.ref w_UsageKind_DATA), .val (.ref a425), .unset, .unset, .unset] [(.int (100 : Int32)), (.int (0 : Int32)), (.ref b427), (.ref b427)])) rfl rfl (hb hby at_107)
        have V429 : Arv Z h429 b427 k427 .char (4 : Int32) [(.int (nar .char (100 : Int32))), (.int (0 : Int32)), (.int (0 : Int32)), (.int (0 : Int32))] (.int (0 : Int32)) := Arv.set Arq428 kqq428 Szq428 Nnq428 Hsq428 Gsq428 (fits_nar_char _) W429 0 rfl (Nat.le_of_ble_eq_true rfl)
        have N429 := Fr.snoc X429 N0 g_b427
        obtain ⟨clq430, Arq430, kqq430, Szq430, Nnq430, Hsq430, Gsq430⟩ := id V429
        have hinq430 : ¬ ((1 : Int32) < 0 ∨ clq430.slots.size ≤ ((1 : Int32)).toNatClampNeg) := inb_of Szq430 ⟨by decide, by decide⟩
        obtain ⟨T431, h431, X431, e431, W431, st431⟩ := stC X429 hx hZ425 e429 Arq430 (j := (1 : Int32)) hinq430 (g := (mkF m 112 #[.val (.int p0), .val (.int p1), .val (.int (p0 &&& (3 : Int32))), .val (.int (p1 &&& (3 : Int32))), .val (.ref w_UsageKind_DATA), .val (.ref a425), .unset, .unset, .unset] [(.int (97 : Int32)), (.int (1 : Int32)), (.ref b427), (.ref b427)])) rfl rfl (hb hby at_112)
        have V431 : Arv Z h431 b427 k427 .char (4 : Int32) [(.int (nar .char (100 : Int32))), (.int (nar .char (97 : Int32))), (.int (0 : Int32)), (.int (0 : Int32))] (.int (0 : Int32)) := Arv.set Arq430 kqq430 Szq430 Nnq430 Hsq430 Gsq430 (fits_nar_char _) W431 1 rfl (Nat.le_of_ble_eq_true rfl)
        have N431 := Fr.snoc X431 N429 g_b427
        obtain ⟨clq432, Arq432, kqq432, Szq432, Nnq432, Hsq432, Gsq432⟩ := id V431
        have hinq432 : ¬ ((2 : Int32) < 0 ∨ clq432.slots.size ≤ ((2 : Int32)).toNatClampNeg) := inb_of Szq432 ⟨by decide, by decide⟩
        obtain ⟨T433, h433, X433, e433, W433, st433⟩ := stC X431 hx hZ425 e431 Arq432 (j := (2 : Int32)) hinq432 (g := (mkF m 117 #[.val (.int p0), .val (.int p1), .val (.int (p0 &&& (3 : Int32))), .val (.int (p1 &&& (3 : Int32))), .val (.ref w_UsageKind_DATA), .val (.ref a425), .unset, .unset, .unset] [(.int (116 : Int32)), (.int (2 : Int32)), (.ref b427), (.ref b427)])) rfl rfl (hb hby at_117)
        have V433 : Arv Z h433 b427 k427 .char (4 : Int32) [(.int (nar .char (100 : Int32))), (.int (nar .char (97 : Int32))), (.int (nar .char (116 : Int32))), (.int (0 : Int32))] (.int (0 : Int32)) := Arv.set Arq432 kqq432 Szq432 Nnq432 Hsq432 Gsq432 (fits_nar_char _) W433 2 rfl (Nat.le_of_ble_eq_true rfl)
        have N433 := Fr.snoc X433 N431 g_b427
        obtain ⟨clq434, Arq434, kqq434, Szq434, Nnq434, Hsq434, Gsq434⟩ := id V433
        have hinq434 : ¬ ((3 : Int32) < 0 ∨ clq434.slots.size ≤ ((3 : Int32)).toNatClampNeg) := inb_of Szq434 ⟨by decide, by decide⟩
        obtain ⟨T435, h435, X435, e435, W435, st435⟩ := stC X433 hx hZ425 e433 Arq434 (j := (3 : Int32)) hinq434 (g := (mkF m 122 #[.val (.int p0), .val (.int p1), .val (.int (p0 &&& (3 : Int32))), .val (.int (p1 &&& (3 : Int32))), .val (.ref w_UsageKind_DATA), .val (.ref a425), .unset, .unset, .unset] [(.int (97 : Int32)), (.int (3 : Int32)), (.ref b427), (.ref b427)])) rfl rfl (hb hby at_122)
        have V435 : Arv Z h435 b427 k427 .char (4 : Int32) [(.int (nar .char (100 : Int32))), (.int (nar .char (97 : Int32))), (.int (nar .char (116 : Int32))), (.int (nar .char (97 : Int32)))] (.int (0 : Int32)) := Arv.set Arq434 kqq434 Szq434 Nnq434 Hsq434 Gsq434 (fits_nar_char _) W435 3 rfl (Nat.le_of_ble_eq_true rfl)
        have N435 := Fr.snoc X435 N433 g_b427
        have S437 : ∀ t, Steps p.tables e below (T435.setTop (mkF m 198 #[.val (.int p0), .val (.int p1), .val (.int (p0 &&& (3 : Int32))), .val (.int (p1 &&& (3 : Int32))), .val (.ref w_UsageKind_DATA), .val (.ref a425), .val (.ref b427), .unset, .unset] [(.int (p1 &&& (3 : Int32)))])) t → Steps p.tables e below (s₁.setTop (entryFrame m #[(.int p0), (.int p1)] maxLocals)) t := fun t k => by
          refine S422 t ?_
          show Steps p.tables e below (s₁.setTop (mkF m 88 #[.val (.int p0), .val (.int p1), .val (.int (p0 &&& (3 : Int32))), .val (.int (p1 &&& (3 : Int32))), .unset, .unset, .unset, .unset, .unset] [(.int (2 : Int32)), (.int (p0 &&& (3 : Int32)))])) _
          refine XS.icmpNo X0.here hx rfl (hb hby at_88) rfl (teq hc421).2 ?_
          show Steps p.tables e below (s₁.setTop (mkF m 91 #[.val (.int p0), .val (.int p1), .val (.int (p0 &&& (3 : Int32))), .val (.int (p1 &&& (3 : Int32))), .unset, .unset, .unset, .unset, .unset] [])) _
          refine st424 _ ?_
          show Steps p.tables e below (T424.setTop (mkF m 94 #[.val (.int p0), .val (.int p1), .val (.int (p0 &&& (3 : Int32))), .val (.int (p1 &&& (3 : Int32))), .unset, .unset, .unset, .unset, .unset] [(.ref w_UsageKind_DATA)])) _
          refine XS.astore X424.here hx rfl (hb hby at_94) rfl rfl (l' := #[.val (.int p0), .val (.int p1), .val (.int (p0 &&& (3 : Int32))), .val (.int (p1 &&& (3 : Int32))), .val (.ref w_UsageKind_DATA), .unset, .unset, .unset, .unset]) rfl ?_
          show Steps p.tables e below (T424.setTop (mkF m 96 #[.val (.int p0), .val (.int p1), .val (.int (p0 &&& (3 : Int32))), .val (.int (p1 &&& (3 : Int32))), .val (.ref w_UsageKind_DATA), .unset, .unset, .unset, .unset] [])) _
          refine st425 _ ?_
          show Steps p.tables e below (T425.setTop (mkF m 98 #[.val (.int p0), .val (.int p1), .val (.int (p0 &&& (3 : Int32))), .val (.int (p1 &&& (3 : Int32))), .val (.ref w_UsageKind_DATA), .unset, .unset, .unset, .unset] [(.ref a425)])) _
          refine XS.astore X425.here hx rfl (hb hby at_98) rfl rfl (l' := #[.val (.int p0), .val (.int p1), .val (.int (p0 &&& (3 : Int32))), .val (.int (p1 &&& (3 : Int32))), .val (.ref w_UsageKind_DATA), .val (.ref a425), .unset, .unset, .unset]) rfl ?_
          show Steps p.tables e below (T425.setTop (mkF m 100 #[.val (.int p0), .val (.int p1), .val (.int (p0 &&& (3 : Int32))), .val (.int (p1 &&& (3 : Int32))), .val (.ref w_UsageKind_DATA), .val (.ref a425), .unset, .unset, .unset] [])) _
          refine XS.iconst X425.here hx rfl (hb hby at_100) ?_
          show Steps p.tables e below (T425.setTop (mkF m 101 #[.val (.int p0), .val (.int p1), .val (.int (p0 &&& (3 : Int32))), .val (.int (p1 &&& (3 : Int32))), .val (.ref w_UsageKind_DATA), .val (.ref a425), .unset, .unset, .unset] [(.int (4 : Int32))])) _
          refine st427 _ ?_
          show Steps p.tables e below (T427.setTop (mkF m 103 #[.val (.int p0), .val (.int p1), .val (.int (p0 &&& (3 : Int32))), .val (.int (p1 &&& (3 : Int32))), .val (.ref w_UsageKind_DATA), .val (.ref a425), .unset, .unset, .unset] [(.ref b427)])) _
          refine XS.dup X427.here hx rfl (hb hby at_103) rfl rfl ?_
          show Steps p.tables e below (T427.setTop (mkF m 104 #[.val (.int p0), .val (.int p1), .val (.int (p0 &&& (3 : Int32))), .val (.int (p1 &&& (3 : Int32))), .val (.ref w_UsageKind_DATA), .val (.ref a425), .unset, .unset, .unset] [(.ref b427), (.ref b427)])) _
          refine XS.iconst X427.here hx rfl (hb hby at_104) ?_
          show Steps p.tables e below (T427.setTop (mkF m 105 #[.val (.int p0), .val (.int p1), .val (.int (p0 &&& (3 : Int32))), .val (.int (p1 &&& (3 : Int32))), .val (.ref w_UsageKind_DATA), .val (.ref a425), .unset, .unset, .unset] [(.int (0 : Int32)), (.ref b427), (.ref b427)])) _
          refine XS.bipush X427.here hx rfl (hb hby at_105) ?_
          show Steps p.tables e below (T427.setTop (mkF m 107 #[.val (.int p0), .val (.int p1), .val (.int (p0 &&& (3 : Int32))), .val (.int (p1 &&& (3 : Int32))), .val (.ref w_UsageKind_DATA), .val (.ref a425), .unset, .unset, .unset] [(.int (100 : Int32)), (.int (0 : Int32)), (.ref b427), (.ref b427)])) _
          refine st429 _ ?_
          show Steps p.tables e below (T429.setTop (mkF m 108 #[.val (.int p0), .val (.int p1), .val (.int (p0 &&& (3 : Int32))), .val (.int (p1 &&& (3 : Int32))), .val (.ref w_UsageKind_DATA), .val (.ref a425), .unset, .unset, .unset] [(.ref b427)])) _
          refine XS.dup X429.here hx rfl (hb hby at_108) rfl rfl ?_
          show Steps p.tables e below (T429.setTop (mkF m 109 #[.val (.int p0), .val (.int p1), .val (.int (p0 &&& (3 : Int32))), .val (.int (p1 &&& (3 : Int32))), .val (.ref w_UsageKind_DATA), .val (.ref a425), .unset, .unset, .unset] [(.ref b427), (.ref b427)])) _
          refine XS.iconst X429.here hx rfl (hb hby at_109) ?_
          show Steps p.tables e below (T429.setTop (mkF m 110 #[.val (.int p0), .val (.int p1), .val (.int (p0 &&& (3 : Int32))), .val (.int (p1 &&& (3 : Int32))), .val (.ref w_UsageKind_DATA), .val (.ref a425), .unset, .unset, .unset] [(.int (1 : Int32)), (.ref b427), (.ref b427)])) _
          refine XS.bipush X429.here hx rfl (hb hby at_110) ?_
          show Steps p.tables e below (T429.setTop (mkF m 112 #[.val (.int p0), .val (.int p1), .val (.int (p0 &&& (3 : Int32))), .val (.int (p1 &&& (3 : Int32))), .val (.ref w_UsageKind_DATA), .val (.ref a425), .unset, .unset, .unset] [(.int (97 : Int32)), (.int (1 : Int32)), (.ref b427), (.ref b427)])) _
          refine st431 _ ?_
          show Steps p.tables e below (T431.setTop (mkF m 113 #[.val (.int p0), .val (.int p1), .val (.int (p0 &&& (3 : Int32))), .val (.int (p1 &&& (3 : Int32))), .val (.ref w_UsageKind_DATA), .val (.ref a425), .unset, .unset, .unset] [(.ref b427)])) _
          refine XS.dup X431.here hx rfl (hb hby at_113) rfl rfl ?_
          show Steps p.tables e below (T431.setTop (mkF m 114 #[.val (.int p0), .val (.int p1), .val (.int (p0 &&& (3 : Int32))), .val (.int (p1 &&& (3 : Int32))), .val (.ref w_UsageKind_DATA), .val (.ref a425), .unset, .unset, .unset] [(.ref b427), (.ref b427)])) _
          refine XS.iconst X431.here hx rfl (hb hby at_114) ?_
          show Steps p.tables e below (T431.setTop (mkF m 115 #[.val (.int p0), .val (.int p1), .val (.int (p0 &&& (3 : Int32))), .val (.int (p1 &&& (3 : Int32))), .val (.ref w_UsageKind_DATA), .val (.ref a425), .unset, .unset, .unset] [(.int (2 : Int32)), (.ref b427), (.ref b427)])) _
          refine XS.bipush X431.here hx rfl (hb hby at_115) ?_
          show Steps p.tables e below (T431.setTop (mkF m 117 #[.val (.int p0), .val (.int p1), .val (.int (p0 &&& (3 : Int32))), .val (.int (p1 &&& (3 : Int32))), .val (.ref w_UsageKind_DATA), .val (.ref a425), .unset, .unset, .unset] [(.int (116 : Int32)), (.int (2 : Int32)), (.ref b427), (.ref b427)])) _
          refine st433 _ ?_
          show Steps p.tables e below (T433.setTop (mkF m 118 #[.val (.int p0), .val (.int p1), .val (.int (p0 &&& (3 : Int32))), .val (.int (p1 &&& (3 : Int32))), .val (.ref w_UsageKind_DATA), .val (.ref a425), .unset, .unset, .unset] [(.ref b427)])) _
          refine XS.dup X433.here hx rfl (hb hby at_118) rfl rfl ?_
          show Steps p.tables e below (T433.setTop (mkF m 119 #[.val (.int p0), .val (.int p1), .val (.int (p0 &&& (3 : Int32))), .val (.int (p1 &&& (3 : Int32))), .val (.ref w_UsageKind_DATA), .val (.ref a425), .unset, .unset, .unset] [(.ref b427), (.ref b427)])) _
          refine XS.iconst X433.here hx rfl (hb hby at_119) ?_
          show Steps p.tables e below (T433.setTop (mkF m 120 #[.val (.int p0), .val (.int p1), .val (.int (p0 &&& (3 : Int32))), .val (.int (p1 &&& (3 : Int32))), .val (.ref w_UsageKind_DATA), .val (.ref a425), .unset, .unset, .unset] [(.int (3 : Int32)), (.ref b427), (.ref b427)])) _
          refine XS.bipush X433.here hx rfl (hb hby at_120) ?_
          show Steps p.tables e below (T433.setTop (mkF m 122 #[.val (.int p0), .val (.int p1), .val (.int (p0 &&& (3 : Int32))), .val (.int (p1 &&& (3 : Int32))), .val (.ref w_UsageKind_DATA), .val (.ref a425), .unset, .unset, .unset] [(.int (97 : Int32)), (.int (3 : Int32)), (.ref b427), (.ref b427)])) _
          refine st435 _ ?_
          show Steps p.tables e below (T435.setTop (mkF m 123 #[.val (.int p0), .val (.int p1), .val (.int (p0 &&& (3 : Int32))), .val (.int (p1 &&& (3 : Int32))), .val (.ref w_UsageKind_DATA), .val (.ref a425), .unset, .unset, .unset] [(.ref b427)])) _
          refine XS.astore X435.here hx rfl (hb hby at_123) rfl rfl (l' := #[.val (.int p0), .val (.int p1), .val (.int (p0 &&& (3 : Int32))), .val (.int (p1 &&& (3 : Int32))), .val (.ref w_UsageKind_DATA), .val (.ref a425), .val (.ref b427), .unset, .unset]) rfl ?_
          show Steps p.tables e below (T435.setTop (mkF m 125 #[.val (.int p0), .val (.int p1), .val (.int (p0 &&& (3 : Int32))), .val (.int (p1 &&& (3 : Int32))), .val (.ref w_UsageKind_DATA), .val (.ref a425), .val (.ref b427), .unset, .unset] [])) _
          refine XS.goto X435.here hx rfl (pc0 := 125) (pc' := 197) rfl (hb hby at_125) (by decide) (by decide) ?_
          show Steps p.tables e below (T435.setTop (mkF m 197 #[.val (.int p0), .val (.int p1), .val (.int (p0 &&& (3 : Int32))), .val (.int (p1 &&& (3 : Int32))), .val (.ref w_UsageKind_DATA), .val (.ref a425), .val (.ref b427), .unset, .unset] [])) _
          refine XS.iloadN X435.here hx rfl (hb hby at_197) rfl ?_
          exact k
        by_cases hc436 : (p1 &&& (3 : Int32)) = (0 : Int32)
        · have c438 : Exa Z h435 a425 "java/lang/String" := (Exa.wr W435 (Exa.wr W433 (Exa.wr W431 (Exa.wr W429 (Exa.ext E427 Ex425)))))
          have c439 : Fld Z h435 a425 "java/lang/String" "value" "[B" (.ref b425) := (Fld.other W435 (Fld.other W433 (Fld.other W431 (Fld.other W429 (Fld.ext E427 Fv425) (Or.inl (Exa.neArv c438 V435 (hwk hw 5 rfl)))) (Or.inl (Exa.neArv c438 V435 (hwk hw 5 rfl)))) (Or.inl (Exa.neArv c438 V435 (hwk hw 5 rfl)))) (Or.inl (Exa.neArv c438 V435 (hwk hw 5 rfl))))
          have c440 : Fld Z h435 a425 "java/lang/String" "coder" "B" (.int (0 : Int32)) := (Fld.other W435 (Fld.other W433 (Fld.other W431 (Fld.other W429 (Fld.ext E427 Fc425) (Or.inl (Exa.neArv c438 V435 (hwk hw 5 rfl)))) (Or.inl (Exa.neArv c438 V435 (hwk hw 5 rfl)))) (Or.inl (Exa.neArv c438 V435 (hwk hw 5 rfl)))) (Or.inl (Exa.neArv c438 V435 (hwk hw 5 rfl))))
          have c441 : Arv Z h435 b425 kc425 .byte (4 : Int32) [(.int (100 : Int32)), (.int (97 : Int32)), (.int (116 : Int32)), (.int (97 : Int32))] (.int 0) := (Arv.other (Arv.other (Arv.other (Arv.other (Av425.ext E427) W429 (Nat.ne_of_lt (Nat.lt_of_lt_of_le (Av425).lt (Nat.le_of_eq g427.symm)))) W431 (Nat.ne_of_lt (Nat.lt_of_lt_of_le (Av425).lt (Nat.le_of_eq g427.symm)))) W433 (Nat.ne_of_lt (Nat.lt_of_lt_of_le (Av425).lt (Nat.le_of_eq g427.symm)))) W435 (Nat.ne_of_lt (Nat.lt_of_lt_of_le (Av425).lt (Nat.le_of_eq g427.symm))))
          have O442 : Old Z n0 h427 := Old.ext O426 E427
          have O443 : Old Z n0 h429 := Old.wr O442 W429 g_b427
          have O444 : Old Z n0 h431 := Old.wr O443 W431 g_b427
          have O445 : Old Z n0 h433 := Old.wr O444 W433 g_b427
          have O446 : Old Z n0 h435 := Old.wr O445 W435 g_b427
          obtain ⟨_, _, ⟨T447, L447, k447, n447⟩, -, X447, ⟨Lc447, hQ447, l447, y447, z447⟩, st447⟩ := Jvm.LawKit.callS X435 hx (y := (⟨"com/example/bill_run/billrun/UsageKind", "named", "(Ljava/lang/String;)Lcom/example/bill_run/billrun/UsageKind;"⟩ : MethodName)) hown425 (mvT hZ425 (hwk hw 36 rfl)) (mvT hZ425 (hwk hw 37 rfl)) (mvT hZ425 (hwk hw 1 rfl)) (mvT hZ425 (hwk hw 38 rfl)) (by decide) (backOf (W := 0) (rn2 l Z a0 hw [] a425 b425 kc425 (4 : Int32) ([(.int (100 : Int32)), (.int (97 : Int32)), (.int (116 : Int32)), (.int (97 : Int32))]) w_UsageKind_SMS w_UsageKind_CALL w_UsageKind_DATA w_UsageKind__VALUES w_UsageKind_LOCAL_DATA w_UsageKind_SMS_written w_UsageKind_CALL_written w_UsageKind_DATA_written w_UsageKind_SMS_written_value w_UsageKind_CALL_written_value w_UsageKind_DATA_written_value k_w_UsageKind__VALUES k_w_UsageKind_SMS_written_value k_w_UsageKind_CALL_written_value k_w_UsageKind_DATA_written_value zc h435 n0 O446 c438 c439 c440 c441 own_os2 E_w_UsageKind_SMS E_w_UsageKind_CALL E_w_UsageKind_DATA S_UsageKind__VALUES E_w_UsageKind__VALUES V_w_UsageKind__VALUES F_w_UsageKind_SMS_written E_w_UsageKind_SMS_written F_w_UsageKind_CALL_written E_w_UsageKind_CALL_written F_w_UsageKind_DATA_written E_w_UsageKind_DATA_written F_w_UsageKind_SMS_written_value F_w_UsageKind_CALL_written_value F_w_UsageKind_DATA_written_value F_w_UsageKind_CALL_written_coder F_w_UsageKind_SMS_written_coder F_w_UsageKind_DATA_written_coder V_w_UsageKind_SMS_written_value V_w_UsageKind_CALL_written_value V_w_UsageKind_DATA_written_value SZ PZ) hZ425 (hwk hw 38 rfl) (hwk hw 1 rfl) (by decide) (by decide)) (g := (mkF m 236 #[.val (.int p0), .val (.int p1), .val (.int (p0 &&& (3 : Int32))), .val (.int (p1 &&& (3 : Int32))), .val (.ref w_UsageKind_DATA), .val (.ref a425), .val (.ref b427), .val (.ref a425), .unset] [(.ref a425)])) rfl (by rw [hml]; rfl) (argsL := [(.ref a425)]) (rest := []) (lenOf pd_2 rfl) rfl (by show 2 * 0 + _ ≤ _; exact Nat.le_of_eq rfl) (hb hby at_236) (fun _ _ => ⟨rfl, e435, (by decide : 3 + 1 ≤ _), (by decide : 24 + 4 ≤ _)⟩)
          dsimp only [Pt.U, Pt.locs, Pt.cells, Pt.slots] at X447 l447 y447 z447 st447 hQ447
          subst l447 y447 z447
          unfold Q_rn2 at hQ447
          obtain ⟨rfl, N447q, K447⟩ := hQ447
          have N447 := Fr.app N435 N447q
          have O449 : Old Z n0 T447.heap := Old.keep O446 K447 all0
          have c448 : Fld Z T447.heap w_UsageKind_DATA "com/example/bill_run/billrun/UsageKind" "written" "Ljava/lang/String;" (.ref w_UsageKind_DATA_written) := Fld.ext (O449).2 F_w_UsageKind_DATA_written
          have c451 : Exa Z T447.heap w_UsageKind_DATA "com/example/bill_run/billrun/UsageKind" := Exa.ext (O449).2 E_w_UsageKind_DATA
          obtain ⟨cq450, kq450, q450a, q450b, q450c⟩ := isOf hZ425 (rfl : T447.heap = T447.heap) c451
          obtain ⟨_, _, ⟨T450, L450, k450, n450⟩, -, X450, ⟨Lc450, hQ450, l450, y450, z450⟩, st450⟩ := X447.virtualBack hx (y := (⟨"com/example/bill_run/billrun/UsageKind", "toString", "()Ljava/lang/String;"⟩ : MethodName)) (z := (⟨"com/example/bill_run/billrun/UsageKind", "toString", "()Ljava/lang/String;"⟩ : MethodName)) hown425 (mvT hZ425 (hwk hw 69 rfl)) (mvT hZ425 (hwk hw 70 rfl)) (notFace_of_selects (args := #[]) (mvT hZ425 (hwk hw 72 rfl))) (mvT hZ425 (hwk hw 72 rfl)) (mvT hZ425 (hwk hw 71 rfl)) (by decide) (backOf (W := 0) (rm11 l Z a0 hw [] w_UsageKind_DATA w_UsageKind_DATA_written T447.heap n0 O449 c448) hZ425 (hwk hw 73 rfl) (hwk hw 1 rfl) (by decide) (by decide)) q450a q450c (g := (mkF m 250 #[.val (.int p0), .val (.int p1), .val (.int (p0 &&& (3 : Int32))), .val (.int (p1 &&& (3 : Int32))), .val (.ref w_UsageKind_DATA), .val (.ref a425), .val (.ref b427), .val (.ref a425), .val (.ref w_UsageKind_DATA)] [(.ref w_UsageKind_DATA)])) rfl (by rw [hml]; rfl) (Steps.refl _) (argsL := []) (rest := []) (lenOf pd_3 rfl) rfl (by show 2 * 0 + _ ≤ _; exact Nat.le_of_eq rfl) (hb hby at_250) (fun _ _ => ⟨rfl, (rfl : T447.heap = T447.heap), (by decide : 4 + 0 ≤ _), (by decide : 28 + 0 ≤ _)⟩)
          dsimp only [Pt.U, Pt.locs, Pt.cells, Pt.slots] at X450 l450 y450 z450 st450 hQ450
          subst l450 y450 z450
          unfold Q_rm11 at hQ450
          obtain ⟨rfl, N450q, e450⟩ := hQ450
          have N450 := Fr.app N447 N450q
          have hws452 : ∀ d ∈ StrChars.Road.wordsEq, d.before a0 Z = true := fun d hd => hw d ((by decide +kernel : ∀ d ∈ StrChars.Road.wordsEq, d ∈ tables_1) d hd)
          have c453 : Exa Z T447.heap w_UsageKind_DATA_written "java/lang/String" := Exa.ext (O449).2 E_w_UsageKind_DATA_written
          have c454 : Fld Z T447.heap w_UsageKind_DATA_written "java/lang/String" "value" "[B" (.ref w_UsageKind_DATA_written_value) := Fld.ext (O449).2 F_w_UsageKind_DATA_written_value
          have c455 : Fld Z T447.heap w_UsageKind_DATA_written "java/lang/String" "coder" "B" (.int (0 : Int32)) := Fld.ext (O449).2 F_w_UsageKind_DATA_written_coder
          have c456 : Arv Z T447.heap w_UsageKind_DATA_written_value k_w_UsageKind_DATA_written_value .byte (4 : Int32) [(.int (100 : Int32)), (.int (97 : Int32)), (.int (116 : Int32)), (.int (97 : Int32))] (.int (0 : Int32)) := V_w_UsageKind_DATA_written_value.ext O449.2
          have c457 : Exa Z T447.heap a425 "java/lang/String" := (Exa.keep c438 K447)
          have c458 : Fld Z T447.heap a425 "java/lang/String" "value" "[B" (.ref b425) := (Fld.keep c439 K447 nin0)
          have c459 : Fld Z T447.heap a425 "java/lang/String" "coder" "B" (.int (0 : Int32)) := (Fld.keep c440 K447 nin0)
          have c460 : Arv Z T447.heap b425 kc425 .byte (4 : Int32) [(.int (100 : Int32)), (.int (97 : Int32)), (.int (116 : Int32)), (.int (97 : Int32))] (.int 0) := (Arv.keep c441 K447 nin0)
          have c461 : Sta Z T447.heap "java/lang/String" "COMPACT_STRINGS" "Z" (.int zc) := Sta.ext (O449).2 SZ
          obtain ⟨cq462, kq462, q462a, q462b, q462c⟩ := isOf hZ425 e450 c453
          obtain ⟨_, _, ⟨T462, L462, k462, n462⟩, -, X462, ⟨Lc462, hQ462, l462, y462, z462⟩, st462⟩ := X450.virtualBack hx (y := (⟨"java/lang/String", "equals", "(Ljava/lang/Object;)Z"⟩ : MethodName)) (z := (⟨"java/lang/String", "equals", "(Ljava/lang/Object;)Z"⟩ : MethodName)) hown425 (mvT hZ425 (hwk hw 74 rfl)) (mvT hZ425 (hwk hw 60 rfl)) (notFace_of_selects (args := #[]) (mvT hZ425 (hwk hw 62 rfl))) (mvT hZ425 (hwk hw 62 rfl)) (mvT hZ425 (hwk hw 61 rfl)) (by decide) (StrChars.Road.eqW (W := 0) hZ425 hws452 (kI := 4) (hwk hw 5 rfl) c453 c454 c455 c456 own_os2.1 own_os2.2.1 own_os2.2.2 c457 c458 c459 c460 own_os2.1 own_os2.2.1 own_os2.2.2 c461 PZ (by decide) (by decide)) q462a q462c (g := (mkF m 255 #[.val (.int p0), .val (.int p1), .val (.int (p0 &&& (3 : Int32))), .val (.int (p1 &&& (3 : Int32))), .val (.ref w_UsageKind_DATA), .val (.ref a425), .val (.ref b427), .val (.ref a425), .val (.ref w_UsageKind_DATA)] [(.ref a425), (.ref w_UsageKind_DATA_written)])) rfl (by rw [hml]; rfl) (Steps.refl _) (argsL := [(.ref a425)]) (rest := []) (lenOf pd_1 rfl) rfl (by show 2 * 0 + _ ≤ _; exact Nat.le_of_eq rfl) (hb hby at_255) (fun _ _ => ⟨rfl, e450, (by decide : 4 + 0 ≤ _), (by decide : 28 + 0 ≤ _)⟩)
          dsimp only [Pt.U, Pt.locs, Pt.cells, Pt.slots] at X462 l462 y462 z462 st462 hQ462
          subst l462 y462 z462
          obtain ⟨hv462, hl462, e462⟩ := hQ462
          cases own_vm hv462
          have N462 := Fr.app N450 (own_frnil hl462)
          have K463 : Keep h0 h425 [] := Keep.ext (Keep.refl h0 []) E425
          have K464 : Keep h0 h427 [] := Keep.ext K463 E427
          have K465 : Keep h0 h429 [] := Keep.wr K464 W429 (Or.inr (Nat.le_trans (Nat.le_trans (Nat.le_refl _) E425.1) (Nat.le_of_eq g427.symm)))
          have K466 : Keep h0 h431 [] := Keep.wr K465 W431 (Or.inr (Nat.le_trans (Nat.le_trans (Nat.le_refl _) E425.1) (Nat.le_of_eq g427.symm)))
          have K467 : Keep h0 h433 [] := Keep.wr K466 W433 (Or.inr (Nat.le_trans (Nat.le_trans (Nat.le_refl _) E425.1) (Nat.le_of_eq g427.symm)))
          have K468 : Keep h0 h435 [] := Keep.wr K467 W435 (Or.inr (Nat.le_trans (Nat.le_trans (Nat.le_refl _) E425.1) (Nat.le_of_eq g427.symm)))
          have K469 : Keep h0 T447.heap [] := Keep.trans K468 K447 all0
          have CR470 : CHr Z consts_1 s.vm h0 T425.vm h425 := CHr.trans CR0 CX425
          have CR471 : CHr Z consts_1 s.vm h0 T425.vm h427 := CHr.trans CR470 (CHr.ext E427 CR470.1)
          have Sf472 : Safe Z consts_1 T425.vm h425 b427 := Safe.new (Nat.le_of_eq g427.symm)
          have Sf473 : Safe Z consts_1 T425.vm h427 b427 := (Safe.ext E427 CR470.1 Sf472)
          have CR474 : CHr Z consts_1 s.vm h0 T425.vm h429 := CHr.trans CR471 (CHr.wr W429 Sf473 CR471.1)
          have Sf475 : Safe Z consts_1 T425.vm h429 b427 := (Safe.wr W429 Sf473 CR471.1 Sf473)
          have CR476 : CHr Z consts_1 s.vm h0 T425.vm h431 := CHr.trans CR474 (CHr.wr W431 Sf475 CR474.1)
          have Sf477 : Safe Z consts_1 T425.vm h431 b427 := (Safe.wr W431 Sf475 CR474.1 Sf475)
          have CR478 : CHr Z consts_1 s.vm h0 T425.vm h433 := CHr.trans CR476 (CHr.wr W433 Sf477 CR476.1)
          have Sf479 : Safe Z consts_1 T425.vm h433 b427 := (Safe.wr W433 Sf477 CR476.1 Sf477)
          have CR480 : CHr Z consts_1 s.vm h0 T425.vm h435 := CHr.trans CR478 (CHr.wr W435 Sf479 CR478.1)
          have CR481 : CHr Z consts_1 s.vm h0 T425.vm T447.heap := CHr.trans CR480 (CHr.keep K447 all0 CR480.1)
          obtain ⟨fs, hr, hrun, hended, hRE⟩ := X462.leaveW hS425 (show _ ≤ T462.heap.size from by rw [e462]; exact (Nat.le_trans hk425 (Nat.le_trans (Nat.le_trans (Nat.le_trans (Nat.le_trans (Nat.le_trans (Nat.le_trans (Nat.le_refl _) E427.1) (Nat.le_of_eq W429.size.symm)) (Nat.le_of_eq W431.size.symm)) (Nat.le_of_eq W433.size.symm)) (Nat.le_of_eq W435.size.symm)) K447.1))) (v := some (.int (1 : Int32))) (fun h => by rw [Bd.returns] at h; cases h)
          have CRl : CHr Z consts_1 s.vm s.heap (T462.setFrames fs).vm (T462.setFrames fs).heap := by
            have q := CHr.trans CR481 (CHv.at X462 hZ425 hEL CR481.1)
            rw [← hh, ← e462] at q
            exact q
          refine ⟨_, _, S437 _ ?_, hrun, hended, _, _, rfl, ?_, CRl, hRE.1, hRE.2.1, hRE.2.2.1, hRE.2.2.2.mono (by decide) (by decide)⟩
          · show Steps p.tables e below (T435.setTop (mkF m 198 #[.val (.int p0), .val (.int p1), .val (.int (p0 &&& (3 : Int32))), .val (.int (p1 &&& (3 : Int32))), .val (.ref w_UsageKind_DATA), .val (.ref a425), .val (.ref b427), .unset, .unset] [(.int (p1 &&& (3 : Int32)))])) _
            refine XS.ifNo X435.here hx rfl (hb hby at_198) rfl ((if0 _ _).trans (teq hc436).2) ?_
            show Steps p.tables e below (T435.setTop (mkF m 201 #[.val (.int p0), .val (.int p1), .val (.int (p0 &&& (3 : Int32))), .val (.int (p1 &&& (3 : Int32))), .val (.ref w_UsageKind_DATA), .val (.ref a425), .val (.ref b427), .unset, .unset] [])) _
            refine XS.aload X435.here hx rfl (hb hby at_201) rfl rfl ?_
            show Steps p.tables e below (T435.setTop (mkF m 203 #[.val (.int p0), .val (.int p1), .val (.int (p0 &&& (3 : Int32))), .val (.int (p1 &&& (3 : Int32))), .val (.ref w_UsageKind_DATA), .val (.ref a425), .val (.ref b427), .unset, .unset] [(.ref a425)])) _
            refine XS.astore X435.here hx rfl (hb hby at_203) rfl rfl (l' := #[.val (.int p0), .val (.int p1), .val (.int (p0 &&& (3 : Int32))), .val (.int (p1 &&& (3 : Int32))), .val (.ref w_UsageKind_DATA), .val (.ref a425), .val (.ref b427), .val (.ref a425), .unset]) rfl ?_
            show Steps p.tables e below (T435.setTop (mkF m 205 #[.val (.int p0), .val (.int p1), .val (.int (p0 &&& (3 : Int32))), .val (.int (p1 &&& (3 : Int32))), .val (.ref w_UsageKind_DATA), .val (.ref a425), .val (.ref b427), .val (.ref a425), .unset] [])) _
            refine XS.goto X435.here hx rfl (pc0 := 205) (pc' := 234) rfl (hb hby at_205) (by decide) (by decide) ?_
            show Steps p.tables e below (T435.setTop (mkF m 234 #[.val (.int p0), .val (.int p1), .val (.int (p0 &&& (3 : Int32))), .val (.int (p1 &&& (3 : Int32))), .val (.ref w_UsageKind_DATA), .val (.ref a425), .val (.ref b427), .val (.ref a425), .unset] [])) _
            refine XS.aload X435.here hx rfl (hb hby at_234) rfl rfl ?_
            show Steps p.tables e below (T435.setTop (mkF m 236 #[.val (.int p0), .val (.int p1), .val (.int (p0 &&& (3 : Int32))), .val (.int (p1 &&& (3 : Int32))), .val (.ref w_UsageKind_DATA), .val (.ref a425), .val (.ref b427), .val (.ref a425), .unset] [(.ref a425)])) _
            refine st447 _ ?_
            show Steps p.tables e below (T447.setTop (mkF m 239 #[.val (.int p0), .val (.int p1), .val (.int (p0 &&& (3 : Int32))), .val (.int (p1 &&& (3 : Int32))), .val (.ref w_UsageKind_DATA), .val (.ref a425), .val (.ref b427), .val (.ref a425), .unset] [(.ref w_UsageKind_DATA)])) _
            refine XS.astore X447.here hx rfl (hb hby at_239) rfl rfl (l' := #[.val (.int p0), .val (.int p1), .val (.int (p0 &&& (3 : Int32))), .val (.int (p1 &&& (3 : Int32))), .val (.ref w_UsageKind_DATA), .val (.ref a425), .val (.ref b427), .val (.ref a425), .val (.ref w_UsageKind_DATA)]) rfl ?_
            show Steps p.tables e below (T447.setTop (mkF m 241 #[.val (.int p0), .val (.int p1), .val (.int (p0 &&& (3 : Int32))), .val (.int (p1 &&& (3 : Int32))), .val (.ref w_UsageKind_DATA), .val (.ref a425), .val (.ref b427), .val (.ref a425), .val (.ref w_UsageKind_DATA)] [])) _
            refine XS.aload X447.here hx rfl (hb hby at_241) rfl rfl ?_
            show Steps p.tables e below (T447.setTop (mkF m 243 #[.val (.int p0), .val (.int p1), .val (.int (p0 &&& (3 : Int32))), .val (.int (p1 &&& (3 : Int32))), .val (.ref w_UsageKind_DATA), .val (.ref a425), .val (.ref b427), .val (.ref a425), .val (.ref w_UsageKind_DATA)] [(.ref w_UsageKind_DATA)])) _
            refine XS.aload X447.here hx rfl (hb hby at_243) rfl rfl ?_
            show Steps p.tables e below (T447.setTop (mkF m 245 #[.val (.int p0), .val (.int p1), .val (.int (p0 &&& (3 : Int32))), .val (.int (p1 &&& (3 : Int32))), .val (.ref w_UsageKind_DATA), .val (.ref a425), .val (.ref b427), .val (.ref a425), .val (.ref w_UsageKind_DATA)] [(.ref w_UsageKind_DATA), (.ref w_UsageKind_DATA)])) _
            refine Jvm.RoadKit.acmp (g := (mkF m 245 #[.val (.int p0), .val (.int p1), .val (.int (p0 &&& (3 : Int32))), .val (.int (p1 &&& (3 : Int32))), .val (.ref w_UsageKind_DATA), .val (.ref a425), .val (.ref b427), .val (.ref a425), .val (.ref w_UsageKind_DATA)] [(.ref w_UsageKind_DATA), (.ref w_UsageKind_DATA)])) X447 hx rfl rfl rfl (pc0 := 245) (pc' := 248) (same := true) rfl (hb hby at_245) rfl (decide_eq_true rfl) (by decide) (by decide) ?_
            show Steps p.tables e below (T447.setTop (mkF m 248 #[.val (.int p0), .val (.int p1), .val (.int (p0 &&& (3 : Int32))), .val (.int (p1 &&& (3 : Int32))), .val (.ref w_UsageKind_DATA), .val (.ref a425), .val (.ref b427), .val (.ref a425), .val (.ref w_UsageKind_DATA)] [])) _
            refine XS.aload X447.here hx rfl (hb hby at_248) rfl rfl ?_
            show Steps p.tables e below (T447.setTop (mkF m 250 #[.val (.int p0), .val (.int p1), .val (.int (p0 &&& (3 : Int32))), .val (.int (p1 &&& (3 : Int32))), .val (.ref w_UsageKind_DATA), .val (.ref a425), .val (.ref b427), .val (.ref a425), .val (.ref w_UsageKind_DATA)] [(.ref w_UsageKind_DATA)])) _
            refine st450.trans ?_
            show Steps p.tables e below (T450.setTop (mkF m 253 #[.val (.int p0), .val (.int p1), .val (.int (p0 &&& (3 : Int32))), .val (.int (p1 &&& (3 : Int32))), .val (.ref w_UsageKind_DATA), .val (.ref a425), .val (.ref b427), .val (.ref a425), .val (.ref w_UsageKind_DATA)] [(.ref w_UsageKind_DATA_written)])) _
            refine XS.aload X450.here hx rfl (hb hby at_253) rfl rfl ?_
            show Steps p.tables e below (T450.setTop (mkF m 255 #[.val (.int p0), .val (.int p1), .val (.int (p0 &&& (3 : Int32))), .val (.int (p1 &&& (3 : Int32))), .val (.ref w_UsageKind_DATA), .val (.ref a425), .val (.ref b427), .val (.ref a425), .val (.ref w_UsageKind_DATA)] [(.ref a425), (.ref w_UsageKind_DATA_written)])) _
            refine st462.trans ?_
            show Steps p.tables e below (T462.setTop (mkF m 258 #[.val (.int p0), .val (.int p1), .val (.int (p0 &&& (3 : Int32))), .val (.int (p1 &&& (3 : Int32))), .val (.ref w_UsageKind_DATA), .val (.ref a425), .val (.ref b427), .val (.ref a425), .val (.ref w_UsageKind_DATA)] [(.int (VM [(100 : Int32), (97 : Int32), (116 : Int32), (97 : Int32)] [(100 : Int32), (97 : Int32), (116 : Int32), (97 : Int32)]))])) _
            refine XS.ifNo X462.here hx rfl (hb hby at_258) rfl ((if0 _ _).trans (feq (own_vm0 _ : ¬ ((VM [(100 : Int32), (97 : Int32), (116 : Int32), (97 : Int32)] [(100 : Int32), (97 : Int32), (116 : Int32), (97 : Int32)]) = (0 : Int32)))).1) ?_
            show Steps p.tables e below (T462.setTop (mkF m 261 #[.val (.int p0), .val (.int p1), .val (.int (p0 &&& (3 : Int32))), .val (.int (p1 &&& (3 : Int32))), .val (.ref w_UsageKind_DATA), .val (.ref a425), .val (.ref b427), .val (.ref a425), .val (.ref w_UsageKind_DATA)] [])) _
            refine XS.iconst X462.here hx rfl (hb hby at_261) ?_
            show Steps p.tables e below (T462.setTop (mkF m 262 #[.val (.int p0), .val (.int p1), .val (.int (p0 &&& (3 : Int32))), .val (.int (p1 &&& (3 : Int32))), .val (.ref w_UsageKind_DATA), .val (.ref a425), .val (.ref b427), .val (.ref a425), .val (.ref w_UsageKind_DATA)] [(.int (1 : Int32))])) _
            refine XS.goto X462.here hx rfl (pc0 := 262) (pc' := 266) rfl (hb hby at_262) (by decide) (by decide) ?_
            show Steps p.tables e below (T462.setTop (mkF m 266 #[.val (.int p0), .val (.int p1), .val (.int (p0 &&& (3 : Int32))), .val (.int (p1 &&& (3 : Int32))), .val (.ref w_UsageKind_DATA), .val (.ref a425), .val (.ref b427), .val (.ref a425), .val (.ref w_UsageKind_DATA)] [(.int (1 : Int32))])) _
            exact Jvm.RoadKit.retOut X462 hx Bd.returns rfl (Or.inl ⟨rfl, by simp, _, rfl⟩) (hb hby at_266) hr
          · show Q_rm0 Z p0 p1 w_UsageKind_SMS w_UsageKind_CALL w_UsageKind_DATA w_UsageKind__VALUES w_UsageKind_LOCAL_DATA w_UsageKind_SMS_written w_UsageKind_CALL_written w_UsageKind_DATA_written w_UsageKind_LOCAL_DATA_written w_UsageKind_SMS_written_value w_UsageKind_CALL_written_value w_UsageKind_DATA_written_value w_UsageKind_LOCAL_DATA_written_value k_w_UsageKind__VALUES k_w_UsageKind_SMS_written_value k_w_UsageKind_CALL_written_value k_w_UsageKind_DATA_written_value k_w_UsageKind_LOCAL_DATA_written_value zc h0 n0 _ T462.heap _
            rw [e462]
            unfold Q_rm0
            exact ⟨rfl, N462, K469⟩
        · have S483 : ∀ t, Steps p.tables e below (T435.setTop (mkF m 210 #[.val (.int p0), .val (.int p1), .val (.int (p0 &&& (3 : Int32))), .val (.int (p1 &&& (3 : Int32))), .val (.ref w_UsageKind_DATA), .val (.ref a425), .val (.ref b427), .unset, .unset] [(.int (2 : Int32)), (.int (p1 &&& (3 : Int32)))])) t → Steps p.tables e below (s₁.setTop (entryFrame m #[(.int p0), (.int p1)] maxLocals)) t := fun t k => by
            refine S437 t ?_
            show Steps p.tables e below (T435.setTop (mkF m 198 #[.val (.int p0), .val (.int p1), .val (.int (p0 &&& (3 : Int32))), .val (.int (p1 &&& (3 : Int32))), .val (.ref w_UsageKind_DATA), .val (.ref a425), .val (.ref b427), .unset, .unset] [(.int (p1 &&& (3 : Int32)))])) _
            refine XS.ifYes X435.here hx rfl (pc0 := 198) (pc' := 208) rfl (hb hby at_198) rfl ((if0 _ _).trans (feq hc436).2) (by decide) (by decide) ?_
            show Steps p.tables e below (T435.setTop (mkF m 208 #[.val (.int p0), .val (.int p1), .val (.int (p0 &&& (3 : Int32))), .val (.int (p1 &&& (3 : Int32))), .val (.ref w_UsageKind_DATA), .val (.ref a425), .val (.ref b427), .unset, .unset] [])) _
            refine XS.iloadN X435.here hx rfl (hb hby at_208) rfl ?_
            show Steps p.tables e below (T435.setTop (mkF m 209 #[.val (.int p0), .val (.int p1), .val (.int (p0 &&& (3 : Int32))), .val (.int (p1 &&& (3 : Int32))), .val (.ref w_UsageKind_DATA), .val (.ref a425), .val (.ref b427), .unset, .unset] [(.int (p1 &&& (3 : Int32)))])) _
            refine XS.iconst X435.here hx rfl (hb hby at_209) ?_
            exact k
          by_cases hc482 : (p1 &&& (3 : Int32)) = (2 : Int32)
          · have O485 : Old Z n0 h427 := Old.ext O426 E427
            have O486 : Old Z n0 h429 := Old.wr O485 W429 g_b427
            have O487 : Old Z n0 h431 := Old.wr O486 W431 g_b427
            have O488 : Old Z n0 h433 := Old.wr O487 W433 g_b427
            have O489 : Old Z n0 h435 := Old.wr O488 W435 g_b427
            have c484 : Fld Z h435 w_UsageKind_DATA "com/example/bill_run/billrun/UsageKind" "written" "Ljava/lang/String;" (.ref w_UsageKind_DATA_written) := Fld.ext (O489).2 F_w_UsageKind_DATA_written
            have c491 : Exa Z h435 w_UsageKind_DATA "com/example/bill_run/billrun/UsageKind" := Exa.ext (O489).2 E_w_UsageKind_DATA
            obtain ⟨cq490, kq490, q490a, q490b, q490c⟩ := isOf hZ425 e435 c491
            obtain ⟨_, _, ⟨T490, L490, k490, n490⟩, -, X490, ⟨Lc490, hQ490, l490, y490, z490⟩, st490⟩ := X435.virtualBack hx (y := (⟨"com/example/bill_run/billrun/UsageKind", "toString", "()Ljava/lang/String;"⟩ : MethodName)) (z := (⟨"com/example/bill_run/billrun/UsageKind", "toString", "()Ljava/lang/String;"⟩ : MethodName)) hown425 (mvT hZ425 (hwk hw 69 rfl)) (mvT hZ425 (hwk hw 70 rfl)) (notFace_of_selects (args := #[]) (mvT hZ425 (hwk hw 72 rfl))) (mvT hZ425 (hwk hw 72 rfl)) (mvT hZ425 (hwk hw 71 rfl)) (by decide) (backOf (W := 0) (rm11 l Z a0 hw [] w_UsageKind_DATA w_UsageKind_DATA_written h435 n0 O489 c484) hZ425 (hwk hw 73 rfl) (hwk hw 1 rfl) (by decide) (by decide)) q490a q490c (g := (mkF m 215 #[.val (.int p0), .val (.int p1), .val (.int (p0 &&& (3 : Int32))), .val (.int (p1 &&& (3 : Int32))), .val (.ref w_UsageKind_DATA), .val (.ref a425), .val (.ref b427), .unset, .unset] [(.ref w_UsageKind_DATA)])) rfl (by rw [hml]; rfl) (Steps.refl _) (argsL := []) (rest := []) (lenOf pd_3 rfl) rfl (by show 2 * 0 + _ ≤ _; exact Nat.le_of_eq rfl) (hb hby at_215) (fun _ _ => ⟨rfl, e435, (by decide : 3 + 0 ≤ _), (by decide : 24 + 0 ≤ _)⟩)
            dsimp only [Pt.U, Pt.locs, Pt.cells, Pt.slots] at X490 l490 y490 z490 st490 hQ490
            subst l490 y490 z490
            unfold Q_rm11 at hQ490
            obtain ⟨rfl, N490q, e490⟩ := hQ490
            have N490 := Fr.app N435 N490q
            have c492 : Exa Z h435 w_UsageKind_DATA_written "java/lang/String" := Exa.ext (O489).2 E_w_UsageKind_DATA_written
            have c493 : Fld Z h435 w_UsageKind_DATA_written "java/lang/String" "value" "[B" (.ref w_UsageKind_DATA_written_value) := Fld.ext (O489).2 F_w_UsageKind_DATA_written_value
            have c494 : Fld Z h435 w_UsageKind_DATA_written "java/lang/String" "coder" "B" (.int (0 : Int32)) := Fld.ext (O489).2 F_w_UsageKind_DATA_written_coder
            have c495 : Arv Z h435 w_UsageKind_DATA_written_value k_w_UsageKind_DATA_written_value .byte (4 : Int32) [(.int (100 : Int32)), (.int (97 : Int32)), (.int (116 : Int32)), (.int (97 : Int32))] (.int (0 : Int32)) := V_w_UsageKind_DATA_written_value.ext O489.2
            obtain ⟨_, _, ⟨T496, L496, k496, n496⟩, -, X496, ⟨Lc496, hQ496, l496, y496, z496⟩, st496⟩ := Jvm.LawKit.callS X490 hx (y := (⟨"com/example/bill_run/billrun/UsageKind", "named", "(Ljava/lang/String;)Lcom/example/bill_run/billrun/UsageKind;"⟩ : MethodName)) hown425 (mvT hZ425 (hwk hw 36 rfl)) (mvT hZ425 (hwk hw 37 rfl)) (mvT hZ425 (hwk hw 1 rfl)) (mvT hZ425 (hwk hw 38 rfl)) (by decide) (backOf (W := 0) (rn2 l Z a0 hw [] w_UsageKind_DATA_written w_UsageKind_DATA_written_value k_w_UsageKind_DATA_written_value (4 : Int32) ([(.int (100 : Int32)), (.int (97 : Int32)), (.int (116 : Int32)), (.int (97 : Int32))]) w_UsageKind_SMS w_UsageKind_CALL w_UsageKind_DATA w_UsageKind__VALUES w_UsageKind_LOCAL_DATA w_UsageKind_SMS_written w_UsageKind_CALL_written w_UsageKind_DATA_written w_UsageKind_SMS_written_value w_UsageKind_CALL_written_value w_UsageKind_DATA_written_value k_w_UsageKind__VALUES k_w_UsageKind_SMS_written_value k_w_UsageKind_CALL_written_value k_w_UsageKind_DATA_written_value zc h435 n0 O489 c492 c493 c494 c495 own_os2 E_w_UsageKind_SMS E_w_UsageKind_CALL E_w_UsageKind_DATA S_UsageKind__VALUES E_w_UsageKind__VALUES V_w_UsageKind__VALUES F_w_UsageKind_SMS_written E_w_UsageKind_SMS_written F_w_UsageKind_CALL_written E_w_UsageKind_CALL_written F_w_UsageKind_DATA_written E_w_UsageKind_DATA_written F_w_UsageKind_SMS_written_value F_w_UsageKind_CALL_written_value F_w_UsageKind_DATA_written_value F_w_UsageKind_CALL_written_coder F_w_UsageKind_SMS_written_coder F_w_UsageKind_DATA_written_coder V_w_UsageKind_SMS_written_value V_w_UsageKind_CALL_written_value V_w_UsageKind_DATA_written_value SZ PZ) hZ425 (hwk hw 38 rfl) (hwk hw 1 rfl) (by decide) (by decide)) (g := (mkF m 236 #[.val (.int p0), .val (.int p1), .val (.int (p0 &&& (3 : Int32))), .val (.int (p1 &&& (3 : Int32))), .val (.ref w_UsageKind_DATA), .val (.ref a425), .val (.ref b427), .val (.ref w_UsageKind_DATA_written), .unset] [(.ref w_UsageKind_DATA_written)])) rfl (by rw [hml]; rfl) (argsL := [(.ref w_UsageKind_DATA_written)]) (rest := []) (lenOf pd_2 rfl) rfl (by show 2 * 0 + _ ≤ _; exact Nat.le_of_eq rfl) (hb hby at_236) (fun _ _ => ⟨rfl, e490, (by decide : 3 + 1 ≤ _), (by decide : 24 + 4 ≤ _)⟩)
            dsimp only [Pt.U, Pt.locs, Pt.cells, Pt.slots] at X496 l496 y496 z496 st496 hQ496
            subst l496 y496 z496
            unfold Q_rn2 at hQ496
            obtain ⟨rfl, N496q, K496⟩ := hQ496
            have N496 := Fr.app N490 N496q
            have O498 : Old Z n0 T496.heap := Old.keep O489 K496 all0
            have c497 : Fld Z T496.heap w_UsageKind_DATA "com/example/bill_run/billrun/UsageKind" "written" "Ljava/lang/String;" (.ref w_UsageKind_DATA_written) := Fld.ext (O498).2 F_w_UsageKind_DATA_written
            have c500 : Exa Z T496.heap w_UsageKind_DATA "com/example/bill_run/billrun/UsageKind" := Exa.ext (O498).2 E_w_UsageKind_DATA
            obtain ⟨cq499, kq499, q499a, q499b, q499c⟩ := isOf hZ425 (rfl : T496.heap = T496.heap) c500
            obtain ⟨_, _, ⟨T499, L499, k499, n499⟩, -, X499, ⟨Lc499, hQ499, l499, y499, z499⟩, st499⟩ := X496.virtualBack hx (y := (⟨"com/example/bill_run/billrun/UsageKind", "toString", "()Ljava/lang/String;"⟩ : MethodName)) (z := (⟨"com/example/bill_run/billrun/UsageKind", "toString", "()Ljava/lang/String;"⟩ : MethodName)) hown425 (mvT hZ425 (hwk hw 69 rfl)) (mvT hZ425 (hwk hw 70 rfl)) (notFace_of_selects (args := #[]) (mvT hZ425 (hwk hw 72 rfl))) (mvT hZ425 (hwk hw 72 rfl)) (mvT hZ425 (hwk hw 71 rfl)) (by decide) (backOf (W := 0) (rm11 l Z a0 hw [] w_UsageKind_DATA w_UsageKind_DATA_written T496.heap n0 O498 c497) hZ425 (hwk hw 73 rfl) (hwk hw 1 rfl) (by decide) (by decide)) q499a q499c (g := (mkF m 250 #[.val (.int p0), .val (.int p1), .val (.int (p0 &&& (3 : Int32))), .val (.int (p1 &&& (3 : Int32))), .val (.ref w_UsageKind_DATA), .val (.ref a425), .val (.ref b427), .val (.ref w_UsageKind_DATA_written), .val (.ref w_UsageKind_DATA)] [(.ref w_UsageKind_DATA)])) rfl (by rw [hml]; rfl) (Steps.refl _) (argsL := []) (rest := []) (lenOf pd_3 rfl) rfl (by show 2 * 0 + _ ≤ _; exact Nat.le_of_eq rfl) (hb hby at_250) (fun _ _ => ⟨rfl, (rfl : T496.heap = T496.heap), (by decide : 4 + 0 ≤ _), (by decide : 28 + 0 ≤ _)⟩)
            dsimp only [Pt.U, Pt.locs, Pt.cells, Pt.slots] at X499 l499 y499 z499 st499 hQ499
            subst l499 y499 z499
            unfold Q_rm11 at hQ499
            obtain ⟨rfl, N499q, e499⟩ := hQ499
            have N499 := Fr.app N496 N499q
            have hws501 : ∀ d ∈ StrChars.Road.wordsEq, d.before a0 Z = true := fun d hd => hw d ((by decide +kernel : ∀ d ∈ StrChars.Road.wordsEq, d ∈ tables_1) d hd)
            have c502 : Exa Z T496.heap w_UsageKind_DATA_written "java/lang/String" := Exa.ext (O498).2 E_w_UsageKind_DATA_written
            have c503 : Fld Z T496.heap w_UsageKind_DATA_written "java/lang/String" "value" "[B" (.ref w_UsageKind_DATA_written_value) := Fld.ext (O498).2 F_w_UsageKind_DATA_written_value
            have c504 : Fld Z T496.heap w_UsageKind_DATA_written "java/lang/String" "coder" "B" (.int (0 : Int32)) := Fld.ext (O498).2 F_w_UsageKind_DATA_written_coder
            have c505 : Arv Z T496.heap w_UsageKind_DATA_written_value k_w_UsageKind_DATA_written_value .byte (4 : Int32) [(.int (100 : Int32)), (.int (97 : Int32)), (.int (116 : Int32)), (.int (97 : Int32))] (.int (0 : Int32)) := V_w_UsageKind_DATA_written_value.ext O498.2
            have c506 : Exa Z T496.heap a425 "java/lang/String" := (Exa.keep (Exa.wr W435 (Exa.wr W433 (Exa.wr W431 (Exa.wr W429 (Exa.ext E427 Ex425))))) K496)
            have c507 : Fld Z T496.heap a425 "java/lang/String" "value" "[B" (.ref b425) := (Fld.keep (Fld.other W435 (Fld.other W433 (Fld.other W431 (Fld.other W429 (Fld.ext E427 Fv425) (Or.inl (Nat.ne_of_lt (Nat.lt_of_lt_of_le (Ex425).lt (Nat.le_of_eq g427.symm))))) (Or.inl (Nat.ne_of_lt (Nat.lt_of_lt_of_le (Ex425).lt (Nat.le_of_eq g427.symm))))) (Or.inl (Nat.ne_of_lt (Nat.lt_of_lt_of_le (Ex425).lt (Nat.le_of_eq g427.symm))))) (Or.inl (Nat.ne_of_lt (Nat.lt_of_lt_of_le (Ex425).lt (Nat.le_of_eq g427.symm))))) K496 nin0)
            have c508 : Fld Z T496.heap a425 "java/lang/String" "coder" "B" (.int (0 : Int32)) := (Fld.keep (Fld.other W435 (Fld.other W433 (Fld.other W431 (Fld.other W429 (Fld.ext E427 Fc425) (Or.inl (Nat.ne_of_lt (Nat.lt_of_lt_of_le (Ex425).lt (Nat.le_of_eq g427.symm))))) (Or.inl (Nat.ne_of_lt (Nat.lt_of_lt_of_le (Ex425).lt (Nat.le_of_eq g427.symm))))) (Or.inl (Nat.ne_of_lt (Nat.lt_of_lt_of_le (Ex425).lt (Nat.le_of_eq g427.symm))))) (Or.inl (Nat.ne_of_lt (Nat.lt_of_lt_of_le (Ex425).lt (Nat.le_of_eq g427.symm))))) K496 nin0)
            have c509 : Arv Z T496.heap b425 kc425 .byte (4 : Int32) [(.int (100 : Int32)), (.int (97 : Int32)), (.int (116 : Int32)), (.int (97 : Int32))] (.int 0) := (Arv.keep (Arv.other (Arv.other (Arv.other (Arv.other (Av425.ext E427) W429 (Nat.ne_of_lt (Nat.lt_of_lt_of_le (Av425).lt (Nat.le_of_eq g427.symm)))) W431 (Nat.ne_of_lt (Nat.lt_of_lt_of_le (Av425).lt (Nat.le_of_eq g427.symm)))) W433 (Nat.ne_of_lt (Nat.lt_of_lt_of_le (Av425).lt (Nat.le_of_eq g427.symm)))) W435 (Nat.ne_of_lt (Nat.lt_of_lt_of_le (Av425).lt (Nat.le_of_eq g427.symm)))) K496 nin0)
            have c510 : Sta Z T496.heap "java/lang/String" "COMPACT_STRINGS" "Z" (.int zc) := Sta.ext (O498).2 SZ
            obtain ⟨cq511, kq511, q511a, q511b, q511c⟩ := isOf hZ425 e499 c502
            obtain ⟨_, _, ⟨T511, L511, k511, n511⟩, -, X511, ⟨Lc511, hQ511, l511, y511, z511⟩, st511⟩ := X499.virtualBack hx (y := (⟨"java/lang/String", "equals", "(Ljava/lang/Object;)Z"⟩ : MethodName)) (z := (⟨"java/lang/String", "equals", "(Ljava/lang/Object;)Z"⟩ : MethodName)) hown425 (mvT hZ425 (hwk hw 74 rfl)) (mvT hZ425 (hwk hw 60 rfl)) (notFace_of_selects (args := #[]) (mvT hZ425 (hwk hw 62 rfl))) (mvT hZ425 (hwk hw 62 rfl)) (mvT hZ425 (hwk hw 61 rfl)) (by decide) (StrChars.Road.eqW (W := 0) hZ425 hws501 (kI := 4) (hwk hw 5 rfl) c502 c503 c504 c505 own_os2.1 own_os2.2.1 own_os2.2.2 c506 c507 c508 c509 own_os2.1 own_os2.2.1 own_os2.2.2 c510 PZ (by decide) (by decide)) q511a q511c (g := (mkF m 255 #[.val (.int p0), .val (.int p1), .val (.int (p0 &&& (3 : Int32))), .val (.int (p1 &&& (3 : Int32))), .val (.ref w_UsageKind_DATA), .val (.ref a425), .val (.ref b427), .val (.ref w_UsageKind_DATA_written), .val (.ref w_UsageKind_DATA)] [(.ref a425), (.ref w_UsageKind_DATA_written)])) rfl (by rw [hml]; rfl) (Steps.refl _) (argsL := [(.ref a425)]) (rest := []) (lenOf pd_1 rfl) rfl (by show 2 * 0 + _ ≤ _; exact Nat.le_of_eq rfl) (hb hby at_255) (fun _ _ => ⟨rfl, e499, (by decide : 4 + 0 ≤ _), (by decide : 28 + 0 ≤ _)⟩)
            dsimp only [Pt.U, Pt.locs, Pt.cells, Pt.slots] at X511 l511 y511 z511 st511 hQ511
            subst l511 y511 z511
            obtain ⟨hv511, hl511, e511⟩ := hQ511
            cases own_vm hv511
            have N511 := Fr.app N499 (own_frnil hl511)
            have K512 : Keep h0 h425 [] := Keep.ext (Keep.refl h0 []) E425
            have K513 : Keep h0 h427 [] := Keep.ext K512 E427
            have K514 : Keep h0 h429 [] := Keep.wr K513 W429 (Or.inr (Nat.le_trans (Nat.le_trans (Nat.le_refl _) E425.1) (Nat.le_of_eq g427.symm)))
            have K515 : Keep h0 h431 [] := Keep.wr K514 W431 (Or.inr (Nat.le_trans (Nat.le_trans (Nat.le_refl _) E425.1) (Nat.le_of_eq g427.symm)))
            have K516 : Keep h0 h433 [] := Keep.wr K515 W433 (Or.inr (Nat.le_trans (Nat.le_trans (Nat.le_refl _) E425.1) (Nat.le_of_eq g427.symm)))
            have K517 : Keep h0 h435 [] := Keep.wr K516 W435 (Or.inr (Nat.le_trans (Nat.le_trans (Nat.le_refl _) E425.1) (Nat.le_of_eq g427.symm)))
            have K518 : Keep h0 T496.heap [] := Keep.trans K517 K496 all0
            have CR519 : CHr Z consts_1 s.vm h0 T425.vm h425 := CHr.trans CR0 CX425
            have CR520 : CHr Z consts_1 s.vm h0 T425.vm h427 := CHr.trans CR519 (CHr.ext E427 CR519.1)
            have Sf521 : Safe Z consts_1 T425.vm h425 b427 := Safe.new (Nat.le_of_eq g427.symm)
            have Sf522 : Safe Z consts_1 T425.vm h427 b427 := (Safe.ext E427 CR519.1 Sf521)
            have CR523 : CHr Z consts_1 s.vm h0 T425.vm h429 := CHr.trans CR520 (CHr.wr W429 Sf522 CR520.1)
            have Sf524 : Safe Z consts_1 T425.vm h429 b427 := (Safe.wr W429 Sf522 CR520.1 Sf522)
            have CR525 : CHr Z consts_1 s.vm h0 T425.vm h431 := CHr.trans CR523 (CHr.wr W431 Sf524 CR523.1)
            have Sf526 : Safe Z consts_1 T425.vm h431 b427 := (Safe.wr W431 Sf524 CR523.1 Sf524)
            have CR527 : CHr Z consts_1 s.vm h0 T425.vm h433 := CHr.trans CR525 (CHr.wr W433 Sf526 CR525.1)
            have Sf528 : Safe Z consts_1 T425.vm h433 b427 := (Safe.wr W433 Sf526 CR525.1 Sf526)
            have CR529 : CHr Z consts_1 s.vm h0 T425.vm h435 := CHr.trans CR527 (CHr.wr W435 Sf528 CR527.1)
            have CR530 : CHr Z consts_1 s.vm h0 T425.vm T496.heap := CHr.trans CR529 (CHr.keep K496 all0 CR529.1)
            obtain ⟨fs, hr, hrun, hended, hRE⟩ := X511.leaveW hS425 (show _ ≤ T511.heap.size from by rw [e511]; exact (Nat.le_trans hk425 (Nat.le_trans (Nat.le_trans (Nat.le_trans (Nat.le_trans (Nat.le_trans (Nat.le_trans (Nat.le_refl _) E427.1) (Nat.le_of_eq W429.size.symm)) (Nat.le_of_eq W431.size.symm)) (Nat.le_of_eq W433.size.symm)) (Nat.le_of_eq W435.size.symm)) K496.1))) (v := some (.int (1 : Int32))) (fun h => by rw [Bd.returns] at h; cases h)
            have CRl : CHr Z consts_1 s.vm s.heap (T511.setFrames fs).vm (T511.setFrames fs).heap := by
              have q := CHr.trans CR530 (CHv.at X511 hZ425 hEL CR530.1)
              rw [← hh, ← e511] at q
              exact q
            refine ⟨_, _, S483 _ ?_, hrun, hended, _, _, rfl, ?_, CRl, hRE.1, hRE.2.1, hRE.2.2.1, hRE.2.2.2.mono (by decide) (by decide)⟩
            · show Steps p.tables e below (T435.setTop (mkF m 210 #[.val (.int p0), .val (.int p1), .val (.int (p0 &&& (3 : Int32))), .val (.int (p1 &&& (3 : Int32))), .val (.ref w_UsageKind_DATA), .val (.ref a425), .val (.ref b427), .unset, .unset] [(.int (2 : Int32)), (.int (p1 &&& (3 : Int32)))])) _
              refine XS.icmpNo X435.here hx rfl (hb hby at_210) rfl (teq hc482).2 ?_
              show Steps p.tables e below (T435.setTop (mkF m 213 #[.val (.int p0), .val (.int p1), .val (.int (p0 &&& (3 : Int32))), .val (.int (p1 &&& (3 : Int32))), .val (.ref w_UsageKind_DATA), .val (.ref a425), .val (.ref b427), .unset, .unset] [])) _
              refine XS.aload X435.here hx rfl (hb hby at_213) rfl rfl ?_
              show Steps p.tables e below (T435.setTop (mkF m 215 #[.val (.int p0), .val (.int p1), .val (.int (p0 &&& (3 : Int32))), .val (.int (p1 &&& (3 : Int32))), .val (.ref w_UsageKind_DATA), .val (.ref a425), .val (.ref b427), .unset, .unset] [(.ref w_UsageKind_DATA)])) _
              refine st490.trans ?_
              show Steps p.tables e below (T490.setTop (mkF m 218 #[.val (.int p0), .val (.int p1), .val (.int (p0 &&& (3 : Int32))), .val (.int (p1 &&& (3 : Int32))), .val (.ref w_UsageKind_DATA), .val (.ref a425), .val (.ref b427), .unset, .unset] [(.ref w_UsageKind_DATA_written)])) _
              refine XS.astore X490.here hx rfl (hb hby at_218) rfl rfl (l' := #[.val (.int p0), .val (.int p1), .val (.int (p0 &&& (3 : Int32))), .val (.int (p1 &&& (3 : Int32))), .val (.ref w_UsageKind_DATA), .val (.ref a425), .val (.ref b427), .val (.ref w_UsageKind_DATA_written), .unset]) rfl ?_
              show Steps p.tables e below (T490.setTop (mkF m 220 #[.val (.int p0), .val (.int p1), .val (.int (p0 &&& (3 : Int32))), .val (.int (p1 &&& (3 : Int32))), .val (.ref w_UsageKind_DATA), .val (.ref a425), .val (.ref b427), .val (.ref w_UsageKind_DATA_written), .unset] [])) _
              refine XS.goto X490.here hx rfl (pc0 := 220) (pc' := 234) rfl (hb hby at_220) (by decide) (by decide) ?_
              show Steps p.tables e below (T490.setTop (mkF m 234 #[.val (.int p0), .val (.int p1), .val (.int (p0 &&& (3 : Int32))), .val (.int (p1 &&& (3 : Int32))), .val (.ref w_UsageKind_DATA), .val (.ref a425), .val (.ref b427), .val (.ref w_UsageKind_DATA_written), .unset] [])) _
              refine XS.aload X490.here hx rfl (hb hby at_234) rfl rfl ?_
              show Steps p.tables e below (T490.setTop (mkF m 236 #[.val (.int p0), .val (.int p1), .val (.int (p0 &&& (3 : Int32))), .val (.int (p1 &&& (3 : Int32))), .val (.ref w_UsageKind_DATA), .val (.ref a425), .val (.ref b427), .val (.ref w_UsageKind_DATA_written), .unset] [(.ref w_UsageKind_DATA_written)])) _
              refine st496 _ ?_
              show Steps p.tables e below (T496.setTop (mkF m 239 #[.val (.int p0), .val (.int p1), .val (.int (p0 &&& (3 : Int32))), .val (.int (p1 &&& (3 : Int32))), .val (.ref w_UsageKind_DATA), .val (.ref a425), .val (.ref b427), .val (.ref w_UsageKind_DATA_written), .unset] [(.ref w_UsageKind_DATA)])) _
              refine XS.astore X496.here hx rfl (hb hby at_239) rfl rfl (l' := #[.val (.int p0), .val (.int p1), .val (.int (p0 &&& (3 : Int32))), .val (.int (p1 &&& (3 : Int32))), .val (.ref w_UsageKind_DATA), .val (.ref a425), .val (.ref b427), .val (.ref w_UsageKind_DATA_written), .val (.ref w_UsageKind_DATA)]) rfl ?_
              show Steps p.tables e below (T496.setTop (mkF m 241 #[.val (.int p0), .val (.int p1), .val (.int (p0 &&& (3 : Int32))), .val (.int (p1 &&& (3 : Int32))), .val (.ref w_UsageKind_DATA), .val (.ref a425), .val (.ref b427), .val (.ref w_UsageKind_DATA_written), .val (.ref w_UsageKind_DATA)] [])) _
              refine XS.aload X496.here hx rfl (hb hby at_241) rfl rfl ?_
              show Steps p.tables e below (T496.setTop (mkF m 243 #[.val (.int p0), .val (.int p1), .val (.int (p0 &&& (3 : Int32))), .val (.int (p1 &&& (3 : Int32))), .val (.ref w_UsageKind_DATA), .val (.ref a425), .val (.ref b427), .val (.ref w_UsageKind_DATA_written), .val (.ref w_UsageKind_DATA)] [(.ref w_UsageKind_DATA)])) _
              refine XS.aload X496.here hx rfl (hb hby at_243) rfl rfl ?_
              show Steps p.tables e below (T496.setTop (mkF m 245 #[.val (.int p0), .val (.int p1), .val (.int (p0 &&& (3 : Int32))), .val (.int (p1 &&& (3 : Int32))), .val (.ref w_UsageKind_DATA), .val (.ref a425), .val (.ref b427), .val (.ref w_UsageKind_DATA_written), .val (.ref w_UsageKind_DATA)] [(.ref w_UsageKind_DATA), (.ref w_UsageKind_DATA)])) _
              refine Jvm.RoadKit.acmp (g := (mkF m 245 #[.val (.int p0), .val (.int p1), .val (.int (p0 &&& (3 : Int32))), .val (.int (p1 &&& (3 : Int32))), .val (.ref w_UsageKind_DATA), .val (.ref a425), .val (.ref b427), .val (.ref w_UsageKind_DATA_written), .val (.ref w_UsageKind_DATA)] [(.ref w_UsageKind_DATA), (.ref w_UsageKind_DATA)])) X496 hx rfl rfl rfl (pc0 := 245) (pc' := 248) (same := true) rfl (hb hby at_245) rfl (decide_eq_true rfl) (by decide) (by decide) ?_
              show Steps p.tables e below (T496.setTop (mkF m 248 #[.val (.int p0), .val (.int p1), .val (.int (p0 &&& (3 : Int32))), .val (.int (p1 &&& (3 : Int32))), .val (.ref w_UsageKind_DATA), .val (.ref a425), .val (.ref b427), .val (.ref w_UsageKind_DATA_written), .val (.ref w_UsageKind_DATA)] [])) _
              refine XS.aload X496.here hx rfl (hb hby at_248) rfl rfl ?_
              show Steps p.tables e below (T496.setTop (mkF m 250 #[.val (.int p0), .val (.int p1), .val (.int (p0 &&& (3 : Int32))), .val (.int (p1 &&& (3 : Int32))), .val (.ref w_UsageKind_DATA), .val (.ref a425), .val (.ref b427), .val (.ref w_UsageKind_DATA_written), .val (.ref w_UsageKind_DATA)] [(.ref w_UsageKind_DATA)])) _
              refine st499.trans ?_
              show Steps p.tables e below (T499.setTop (mkF m 253 #[.val (.int p0), .val (.int p1), .val (.int (p0 &&& (3 : Int32))), .val (.int (p1 &&& (3 : Int32))), .val (.ref w_UsageKind_DATA), .val (.ref a425), .val (.ref b427), .val (.ref w_UsageKind_DATA_written), .val (.ref w_UsageKind_DATA)] [(.ref w_UsageKind_DATA_written)])) _
              refine XS.aload X499.here hx rfl (hb hby at_253) rfl rfl ?_
              show Steps p.tables e below (T499.setTop (mkF m 255 #[.val (.int p0), .val (.int p1), .val (.int (p0 &&& (3 : Int32))), .val (.int (p1 &&& (3 : Int32))), .val (.ref w_UsageKind_DATA), .val (.ref a425), .val (.ref b427), .val (.ref w_UsageKind_DATA_written), .val (.ref w_UsageKind_DATA)] [(.ref a425), (.ref w_UsageKind_DATA_written)])) _
              refine st511.trans ?_
              show Steps p.tables e below (T511.setTop (mkF m 258 #[.val (.int p0), .val (.int p1), .val (.int (p0 &&& (3 : Int32))), .val (.int (p1 &&& (3 : Int32))), .val (.ref w_UsageKind_DATA), .val (.ref a425), .val (.ref b427), .val (.ref w_UsageKind_DATA_written), .val (.ref w_UsageKind_DATA)] [(.int (VM [(100 : Int32), (97 : Int32), (116 : Int32), (97 : Int32)] [(100 : Int32), (97 : Int32), (116 : Int32), (97 : Int32)]))])) _
              refine XS.ifNo X511.here hx rfl (hb hby at_258) rfl ((if0 _ _).trans (feq (own_vm0 _ : ¬ ((VM [(100 : Int32), (97 : Int32), (116 : Int32), (97 : Int32)] [(100 : Int32), (97 : Int32), (116 : Int32), (97 : Int32)]) = (0 : Int32)))).1) ?_
              show Steps p.tables e below (T511.setTop (mkF m 261 #[.val (.int p0), .val (.int p1), .val (.int (p0 &&& (3 : Int32))), .val (.int (p1 &&& (3 : Int32))), .val (.ref w_UsageKind_DATA), .val (.ref a425), .val (.ref b427), .val (.ref w_UsageKind_DATA_written), .val (.ref w_UsageKind_DATA)] [])) _
              refine XS.iconst X511.here hx rfl (hb hby at_261) ?_
              show Steps p.tables e below (T511.setTop (mkF m 262 #[.val (.int p0), .val (.int p1), .val (.int (p0 &&& (3 : Int32))), .val (.int (p1 &&& (3 : Int32))), .val (.ref w_UsageKind_DATA), .val (.ref a425), .val (.ref b427), .val (.ref w_UsageKind_DATA_written), .val (.ref w_UsageKind_DATA)] [(.int (1 : Int32))])) _
              refine XS.goto X511.here hx rfl (pc0 := 262) (pc' := 266) rfl (hb hby at_262) (by decide) (by decide) ?_
              show Steps p.tables e below (T511.setTop (mkF m 266 #[.val (.int p0), .val (.int p1), .val (.int (p0 &&& (3 : Int32))), .val (.int (p1 &&& (3 : Int32))), .val (.ref w_UsageKind_DATA), .val (.ref a425), .val (.ref b427), .val (.ref w_UsageKind_DATA_written), .val (.ref w_UsageKind_DATA)] [(.int (1 : Int32))])) _
              exact Jvm.RoadKit.retOut X511 hx Bd.returns rfl (Or.inl ⟨rfl, by simp, _, rfl⟩) (hb hby at_266) hr
            · show Q_rm0 Z p0 p1 w_UsageKind_SMS w_UsageKind_CALL w_UsageKind_DATA w_UsageKind__VALUES w_UsageKind_LOCAL_DATA w_UsageKind_SMS_written w_UsageKind_CALL_written w_UsageKind_DATA_written w_UsageKind_LOCAL_DATA_written w_UsageKind_SMS_written_value w_UsageKind_CALL_written_value w_UsageKind_DATA_written_value w_UsageKind_LOCAL_DATA_written_value k_w_UsageKind__VALUES k_w_UsageKind_SMS_written_value k_w_UsageKind_CALL_written_value k_w_UsageKind_DATA_written_value k_w_UsageKind_LOCAL_DATA_written_value zc h0 n0 _ T511.heap _
              rw [e511]
              unfold Q_rm0
              exact ⟨rfl, N511, K518⟩
          · have O531 : Old Z n0 h427 := Old.ext O426 E427
            have O532 : Old Z n0 h429 := Old.wr O531 W429 g_b427
            have O533 : Old Z n0 h431 := Old.wr O532 W431 g_b427
            have O534 : Old Z n0 h433 := Old.wr O533 W433 g_b427
            have O535 : Old Z n0 h435 := Old.wr O534 W435 g_b427
            obtain ⟨T536, h536, X536, e536, E536, A536, D536, -, st536⟩ := newO X435 hx hZ425 hown425 (hwk hw 12 rfl) (hwk hw 5 rfl) (hwk hw 4 rfl) e435 (g := (mkF m 223 #[.val (.int p0), .val (.int p1), .val (.int (p0 &&& (3 : Int32))), .val (.int (p1 &&& (3 : Int32))), .val (.ref w_UsageKind_DATA), .val (.ref a425), .val (.ref b427), .unset, .unset] [])) rfl (hb hby at_223) (by decide) (by decide)
            obtain ⟨b536, g536⟩ : ∃ z, z = h435.size := ⟨_, rfl⟩
            rw [← g536] at A536 D536 st536
            have g_b536 : n0 ≤ b536 := Nat.le_trans (old_le O535) (Nat.le_of_eq g536.symm)
            have hp537 : ∀ c ∈ ([(nar .char (100 : Int32)), (nar .char (97 : Int32)), (nar .char (116 : Int32)), (nar .char (97 : Int32))] : List Int32), ¬ c < 0 ∧ ¬ (255 : Int32) < c := by decide
            have hws538 : ∀ d ∈ StrChars.Road.words, d.before a0 Z = true := fun d hd => hw d ((by decide +kernel : ∀ d ∈ StrChars.Road.words, d ∈ tables_1) d hd)
            have O539 : Old Z n0 h536 := Old.ext O535 E536
            have c540 : Arv Z h536 b427 k427 .char (4 : Int32) [(.int (nar .char (100 : Int32))), (.int (nar .char (97 : Int32))), (.int (nar .char (116 : Int32))), (.int (nar .char (97 : Int32)))] (.int (0 : Int32)) := (V435.ext E536)
            have c541 : Sta Z h536 "java/lang/String" "COMPACT_STRINGS" "Z" (.int zc) := Sta.ext (O539).2 SZ
            obtain ⟨_, _, ⟨T542, L542, k542, n542⟩, -, X542, ⟨Lc542, hQ542, l542, y542, z542⟩, st542⟩ := X536.specialBack hx (y := (⟨"java/lang/String", "<init>", "([C)V"⟩ : MethodName)) rfl hown425 (mvT hZ425 (hwk hw 13 rfl)) (mvT hZ425 (hwk hw 14 rfl)) (mvT hZ425 (hwk hw 15 rfl)) (by decide) (StrChars.Road.backV (W := 1) hZ425 hws538 (kI := 4) (hwk hw 5 rfl) (cs := ([(nar .char (100 : Int32)), (nar .char (97 : Int32)), (nar .char (116 : Int32)), (nar .char (97 : Int32))] : List Int32)) (bs := (([(nar .char (100 : Int32)), (nar .char (97 : Int32)), (nar .char (116 : Int32)), (nar .char (97 : Int32))] : List Int32)).map (fun c => c.toInt8.toInt32)) (n := 4) g_b536 (old_le O539) A536 (show Fld Z h536 b536 "java/lang/String" "value" "[B" .null from D536 (Or.inr (hwk hw 7 rfl)) (ty := (.array .byte)) (by decide)) (show Fld Z h536 b536 "java/lang/String" "coder" "B" (.int (0 : Int32)) from D536 (Or.inr (hwk hw 8 rfl)) (ty := .byte) (by decide)) c540 c541 PZ rfl rfl (by decide) (by decide) hp537 rfl (by decide) (by decide)) (g := (mkF m 229 #[.val (.int p0), .val (.int p1), .val (.int (p0 &&& (3 : Int32))), .val (.int (p1 &&& (3 : Int32))), .val (.ref w_UsageKind_DATA), .val (.ref a425), .val (.ref b427), .unset, .unset] [(.ref b427), (.ref b536), (.ref b536)])) rfl (by rw [hml]; rfl) (Steps.refl _) (a := b536) (argsL := [(.ref b427)]) (rest := [(.ref b536)]) (lenOf pd_4 rfl) rfl (by show 2 * 0 + _ ≤ _; exact Nat.le_of_eq rfl) (hb hby at_229) (fun _ _ => ⟨rfl, e536, (by decide : 4 + 1 ≤ _), (by decide : 28 + 4 ≤ _)⟩)
            dsimp only [Pt.U, Pt.locs, Pt.cells, Pt.slots] at X542 l542 y542 z542 st542 hQ542
            subst l542 y542 z542
            unfold StrChars.Road.QV at hQ542
            obtain ⟨rfl, N542q, K542, E542x, C542, t542, kb542, g_t542, ge_t542, ne542, V542, A542⟩ := hQ542
            have N542 := Fr.app N435 N542q
            have OS543 : OwnStr [(100 : Int32), (97 : Int32), (116 : Int32), (97 : Int32)] (4 : Int32) (((([(nar .char (100 : Int32)), (nar .char (97 : Int32)), (nar .char (116 : Int32)), (nar .char (97 : Int32))] : List Int32)).map (fun c => c.toInt8.toInt32)).map Value.int) := own_s255c hp537 (by decide) (by decide)
            have O544 : Old Z n0 T542.heap := Old.keep O539 K542 (allS g_b536 all0)
            obtain ⟨_, _, ⟨T545, L545, k545, n545⟩, -, X545, ⟨Lc545, hQ545, l545, y545, z545⟩, st545⟩ := Jvm.LawKit.callS X542 hx (y := (⟨"com/example/bill_run/billrun/UsageKind", "named", "(Ljava/lang/String;)Lcom/example/bill_run/billrun/UsageKind;"⟩ : MethodName)) hown425 (mvT hZ425 (hwk hw 36 rfl)) (mvT hZ425 (hwk hw 37 rfl)) (mvT hZ425 (hwk hw 1 rfl)) (mvT hZ425 (hwk hw 38 rfl)) (by decide) (backOf (W := 0) (rn2 l Z a0 hw [] b536 t542 kb542 (4 : Int32) (((([(nar .char (100 : Int32)), (nar .char (97 : Int32)), (nar .char (116 : Int32)), (nar .char (97 : Int32))] : List Int32)).map (fun c => c.toInt8.toInt32)).map Value.int) w_UsageKind_SMS w_UsageKind_CALL w_UsageKind_DATA w_UsageKind__VALUES w_UsageKind_LOCAL_DATA w_UsageKind_SMS_written w_UsageKind_CALL_written w_UsageKind_DATA_written w_UsageKind_SMS_written_value w_UsageKind_CALL_written_value w_UsageKind_DATA_written_value k_w_UsageKind__VALUES k_w_UsageKind_SMS_written_value k_w_UsageKind_CALL_written_value k_w_UsageKind_DATA_written_value zc T542.heap n0 O544 E542x V542 C542 A542 OS543 E_w_UsageKind_SMS E_w_UsageKind_CALL E_w_UsageKind_DATA S_UsageKind__VALUES E_w_UsageKind__VALUES V_w_UsageKind__VALUES F_w_UsageKind_SMS_written E_w_UsageKind_SMS_written F_w_UsageKind_CALL_written E_w_UsageKind_CALL_written F_w_UsageKind_DATA_written E_w_UsageKind_DATA_written F_w_UsageKind_SMS_written_value F_w_UsageKind_CALL_written_value F_w_UsageKind_DATA_written_value F_w_UsageKind_CALL_written_coder F_w_UsageKind_SMS_written_coder F_w_UsageKind_DATA_written_coder V_w_UsageKind_SMS_written_value V_w_UsageKind_CALL_written_value V_w_UsageKind_DATA_written_value SZ PZ) hZ425 (hwk hw 38 rfl) (hwk hw 1 rfl) (by decide) (by decide)) (g := (mkF m 236 #[.val (.int p0), .val (.int p1), .val (.int (p0 &&& (3 : Int32))), .val (.int (p1 &&& (3 : Int32))), .val (.ref w_UsageKind_DATA), .val (.ref a425), .val (.ref b427), .val (.ref b536), .unset] [(.ref b536)])) rfl (by rw [hml]; rfl) (argsL := [(.ref b536)]) (rest := []) (lenOf pd_2 rfl) rfl (by show 2 * 0 + _ ≤ _; exact Nat.le_of_eq rfl) (hb hby at_236) (fun _ _ => ⟨rfl, (rfl : T542.heap = T542.heap), (by decide : 5 + 1 ≤ _), (by decide : 32 + 4 ≤ _)⟩)
            dsimp only [Pt.U, Pt.locs, Pt.cells, Pt.slots] at X545 l545 y545 z545 st545 hQ545
            subst l545 y545 z545
            unfold Q_rn2 at hQ545
            obtain ⟨rfl, N545q, K545⟩ := hQ545
            have N545 := Fr.app N542 N545q
            have O547 : Old Z n0 T545.heap := Old.keep O544 K545 all0
            have c546 : Fld Z T545.heap w_UsageKind_DATA "com/example/bill_run/billrun/UsageKind" "written" "Ljava/lang/String;" (.ref w_UsageKind_DATA_written) := Fld.ext (O547).2 F_w_UsageKind_DATA_written
            have c549 : Exa Z T545.heap w_UsageKind_DATA "com/example/bill_run/billrun/UsageKind" := Exa.ext (O547).2 E_w_UsageKind_DATA
            obtain ⟨cq548, kq548, q548a, q548b, q548c⟩ := isOf hZ425 (rfl : T545.heap = T545.heap) c549
            obtain ⟨_, _, ⟨T548, L548, k548, n548⟩, -, X548, ⟨Lc548, hQ548, l548, y548, z548⟩, st548⟩ := X545.virtualBack hx (y := (⟨"com/example/bill_run/billrun/UsageKind", "toString", "()Ljava/lang/String;"⟩ : MethodName)) (z := (⟨"com/example/bill_run/billrun/UsageKind", "toString", "()Ljava/lang/String;"⟩ : MethodName)) hown425 (mvT hZ425 (hwk hw 69 rfl)) (mvT hZ425 (hwk hw 70 rfl)) (notFace_of_selects (args := #[]) (mvT hZ425 (hwk hw 72 rfl))) (mvT hZ425 (hwk hw 72 rfl)) (mvT hZ425 (hwk hw 71 rfl)) (by decide) (backOf (W := 0) (rm11 l Z a0 hw [] w_UsageKind_DATA w_UsageKind_DATA_written T545.heap n0 O547 c546) hZ425 (hwk hw 73 rfl) (hwk hw 1 rfl) (by decide) (by decide)) q548a q548c (g := (mkF m 250 #[.val (.int p0), .val (.int p1), .val (.int (p0 &&& (3 : Int32))), .val (.int (p1 &&& (3 : Int32))), .val (.ref w_UsageKind_DATA), .val (.ref a425), .val (.ref b427), .val (.ref b536), .val (.ref w_UsageKind_DATA)] [(.ref w_UsageKind_DATA)])) rfl (by rw [hml]; rfl) (Steps.refl _) (argsL := []) (rest := []) (lenOf pd_3 rfl) rfl (by show 2 * 0 + _ ≤ _; exact Nat.le_of_eq rfl) (hb hby at_250) (fun _ _ => ⟨rfl, (rfl : T545.heap = T545.heap), (by decide : 6 + 0 ≤ _), (by decide : 36 + 0 ≤ _)⟩)
            dsimp only [Pt.U, Pt.locs, Pt.cells, Pt.slots] at X548 l548 y548 z548 st548 hQ548
            subst l548 y548 z548
            unfold Q_rm11 at hQ548
            obtain ⟨rfl, N548q, e548⟩ := hQ548
            have N548 := Fr.app N545 N548q
            have hws550 : ∀ d ∈ StrChars.Road.wordsEq, d.before a0 Z = true := fun d hd => hw d ((by decide +kernel : ∀ d ∈ StrChars.Road.wordsEq, d ∈ tables_1) d hd)
            have c551 : Exa Z T545.heap w_UsageKind_DATA_written "java/lang/String" := Exa.ext (O547).2 E_w_UsageKind_DATA_written
            have c552 : Fld Z T545.heap w_UsageKind_DATA_written "java/lang/String" "value" "[B" (.ref w_UsageKind_DATA_written_value) := Fld.ext (O547).2 F_w_UsageKind_DATA_written_value
            have c553 : Fld Z T545.heap w_UsageKind_DATA_written "java/lang/String" "coder" "B" (.int (0 : Int32)) := Fld.ext (O547).2 F_w_UsageKind_DATA_written_coder
            have c554 : Arv Z T545.heap w_UsageKind_DATA_written_value k_w_UsageKind_DATA_written_value .byte (4 : Int32) [(.int (100 : Int32)), (.int (97 : Int32)), (.int (116 : Int32)), (.int (97 : Int32))] (.int (0 : Int32)) := V_w_UsageKind_DATA_written_value.ext O547.2
            have c555 : Exa Z T545.heap a425 "java/lang/String" := (Exa.keep (Exa.keep (Exa.ext E536 (Exa.wr W435 (Exa.wr W433 (Exa.wr W431 (Exa.wr W429 (Exa.ext E427 Ex425)))))) K542) K545)
            have c556 : Exa Z h435 a425 "java/lang/String" := (Exa.wr W435 (Exa.wr W433 (Exa.wr W431 (Exa.wr W429 (Exa.ext E427 Ex425)))))
            have c557 : Fld Z T545.heap a425 "java/lang/String" "value" "[B" (.ref b425) := (Fld.keep (Fld.keep (Fld.ext E536 (Fld.other W435 (Fld.other W433 (Fld.other W431 (Fld.other W429 (Fld.ext E427 Fv425) (Or.inl (Nat.ne_of_lt (Nat.lt_of_lt_of_le (Ex425).lt (Nat.le_of_eq g427.symm))))) (Or.inl (Nat.ne_of_lt (Nat.lt_of_lt_of_le (Ex425).lt (Nat.le_of_eq g427.symm))))) (Or.inl (Nat.ne_of_lt (Nat.lt_of_lt_of_le (Ex425).lt (Nat.le_of_eq g427.symm))))) (Or.inl (Nat.ne_of_lt (Nat.lt_of_lt_of_le (Ex425).lt (Nat.le_of_eq g427.symm)))))) K542 (ninS (Nat.ne_of_lt (Nat.lt_of_lt_of_le (c556).lt (Nat.le_of_eq g536.symm))) nin0)) K545 nin0)
            have c558 : Fld Z T545.heap a425 "java/lang/String" "coder" "B" (.int (0 : Int32)) := (Fld.keep (Fld.keep (Fld.ext E536 (Fld.other W435 (Fld.other W433 (Fld.other W431 (Fld.other W429 (Fld.ext E427 Fc425) (Or.inl (Exa.neArv c556 V435 (hwk hw 5 rfl)))) (Or.inl (Exa.neArv c556 V435 (hwk hw 5 rfl)))) (Or.inl (Exa.neArv c556 V435 (hwk hw 5 rfl)))) (Or.inl (Exa.neArv c556 V435 (hwk hw 5 rfl))))) K542 (ninS (Nat.ne_of_lt (Nat.lt_of_lt_of_le (c556).lt (Nat.le_of_eq g536.symm))) nin0)) K545 nin0)
            have c559 : Arv Z h435 b425 kc425 .byte (4 : Int32) [(.int (100 : Int32)), (.int (97 : Int32)), (.int (116 : Int32)), (.int (97 : Int32))] (.int 0) := (Arv.other (Arv.other (Arv.other (Arv.other (Av425.ext E427) W429 (Nat.ne_of_lt (Nat.lt_of_lt_of_le (Av425).lt (Nat.le_of_eq g427.symm)))) W431 (Nat.ne_of_lt (Nat.lt_of_lt_of_le (Av425).lt (Nat.le_of_eq g427.symm)))) W433 (Nat.ne_of_lt (Nat.lt_of_lt_of_le (Av425).lt (Nat.le_of_eq g427.symm)))) W435 (Nat.ne_of_lt (Nat.lt_of_lt_of_le (Av425).lt (Nat.le_of_eq g427.symm))))
            have c560 : Arv Z T545.heap b425 kc425 .byte (4 : Int32) [(.int (100 : Int32)), (.int (97 : Int32)), (.int (116 : Int32)), (.int (97 : Int32))] (.int 0) := (Arv.keep (Arv.keep ((Arv.other (Arv.other (Arv.other (Arv.other (Av425.ext E427) W429 (Nat.ne_of_lt (Nat.lt_of_lt_of_le (Av425).lt (Nat.le_of_eq g427.symm)))) W431 (Nat.ne_of_lt (Nat.lt_of_lt_of_le (Av425).lt (Nat.le_of_eq g427.symm)))) W433 (Nat.ne_of_lt (Nat.lt_of_lt_of_le (Av425).lt (Nat.le_of_eq g427.symm)))) W435 (Nat.ne_of_lt (Nat.lt_of_lt_of_le (Av425).lt (Nat.le_of_eq g427.symm)))).ext E536) K542 (ninS (Nat.ne_of_lt (Nat.lt_of_lt_of_le (c559).lt (Nat.le_of_eq g536.symm))) nin0)) K545 nin0)
            have c561 : Sta Z T545.heap "java/lang/String" "COMPACT_STRINGS" "Z" (.int zc) := Sta.ext (O547).2 SZ
            obtain ⟨cq562, kq562, q562a, q562b, q562c⟩ := isOf hZ425 e548 c551
            obtain ⟨_, _, ⟨T562, L562, k562, n562⟩, -, X562, ⟨Lc562, hQ562, l562, y562, z562⟩, st562⟩ := X548.virtualBack hx (y := (⟨"java/lang/String", "equals", "(Ljava/lang/Object;)Z"⟩ : MethodName)) (z := (⟨"java/lang/String", "equals", "(Ljava/lang/Object;)Z"⟩ : MethodName)) hown425 (mvT hZ425 (hwk hw 74 rfl)) (mvT hZ425 (hwk hw 60 rfl)) (notFace_of_selects (args := #[]) (mvT hZ425 (hwk hw 62 rfl))) (mvT hZ425 (hwk hw 62 rfl)) (mvT hZ425 (hwk hw 61 rfl)) (by decide) (StrChars.Road.eqW (W := 0) hZ425 hws550 (kI := 4) (hwk hw 5 rfl) c551 c552 c553 c554 own_os2.1 own_os2.2.1 own_os2.2.2 c555 c557 c558 c560 own_os2.1 own_os2.2.1 own_os2.2.2 c561 PZ (by decide) (by decide)) q562a q562c (g := (mkF m 255 #[.val (.int p0), .val (.int p1), .val (.int (p0 &&& (3 : Int32))), .val (.int (p1 &&& (3 : Int32))), .val (.ref w_UsageKind_DATA), .val (.ref a425), .val (.ref b427), .val (.ref b536), .val (.ref w_UsageKind_DATA)] [(.ref a425), (.ref w_UsageKind_DATA_written)])) rfl (by rw [hml]; rfl) (Steps.refl _) (argsL := [(.ref a425)]) (rest := []) (lenOf pd_1 rfl) rfl (by show 2 * 0 + _ ≤ _; exact Nat.le_of_eq rfl) (hb hby at_255) (fun _ _ => ⟨rfl, e548, (by decide : 6 + 0 ≤ _), (by decide : 36 + 0 ≤ _)⟩)
            dsimp only [Pt.U, Pt.locs, Pt.cells, Pt.slots] at X562 l562 y562 z562 st562 hQ562
            subst l562 y562 z562
            obtain ⟨hv562, hl562, e562⟩ := hQ562
            cases own_vm hv562
            have N562 := Fr.app N548 (own_frnil hl562)
            have K563 : Keep h0 h425 [] := Keep.ext (Keep.refl h0 []) E425
            have K564 : Keep h0 h427 [] := Keep.ext K563 E427
            have K565 : Keep h0 h429 [] := Keep.wr K564 W429 (Or.inr (Nat.le_trans (Nat.le_trans (Nat.le_refl _) E425.1) (Nat.le_of_eq g427.symm)))
            have K566 : Keep h0 h431 [] := Keep.wr K565 W431 (Or.inr (Nat.le_trans (Nat.le_trans (Nat.le_refl _) E425.1) (Nat.le_of_eq g427.symm)))
            have K567 : Keep h0 h433 [] := Keep.wr K566 W433 (Or.inr (Nat.le_trans (Nat.le_trans (Nat.le_refl _) E425.1) (Nat.le_of_eq g427.symm)))
            have K568 : Keep h0 h435 [] := Keep.wr K567 W435 (Or.inr (Nat.le_trans (Nat.le_trans (Nat.le_refl _) E425.1) (Nat.le_of_eq g427.symm)))
            have K569 : Keep h0 h536 [] := Keep.ext K568 E536
            have K570 : Keep h0 T542.heap [] := Keep.trans K569 K542 (allS (Or.inr (Nat.le_trans (Nat.le_trans (Nat.le_trans (Nat.le_trans (Nat.le_trans (Nat.le_trans (Nat.le_trans (Nat.le_refl _) E425.1) E427.1) (Nat.le_of_eq W429.size.symm)) (Nat.le_of_eq W431.size.symm)) (Nat.le_of_eq W433.size.symm)) (Nat.le_of_eq W435.size.symm)) (Nat.le_of_eq g536.symm))) all0)
            have K571 : Keep h0 T545.heap [] := Keep.trans K570 K545 all0
            have CR572 : CHr Z consts_1 s.vm h0 T425.vm h425 := CHr.trans CR0 CX425
            have CR573 : CHr Z consts_1 s.vm h0 T425.vm h427 := CHr.trans CR572 (CHr.ext E427 CR572.1)
            have Sf574 : Safe Z consts_1 T425.vm h425 b427 := Safe.new (Nat.le_of_eq g427.symm)
            have Sf575 : Safe Z consts_1 T425.vm h427 b427 := (Safe.ext E427 CR572.1 Sf574)
            have CR576 : CHr Z consts_1 s.vm h0 T425.vm h429 := CHr.trans CR573 (CHr.wr W429 Sf575 CR573.1)
            have Sf577 : Safe Z consts_1 T425.vm h429 b427 := (Safe.wr W429 Sf575 CR573.1 Sf575)
            have CR578 : CHr Z consts_1 s.vm h0 T425.vm h431 := CHr.trans CR576 (CHr.wr W431 Sf577 CR576.1)
            have Sf579 : Safe Z consts_1 T425.vm h431 b427 := (Safe.wr W431 Sf577 CR576.1 Sf577)
            have CR580 : CHr Z consts_1 s.vm h0 T425.vm h433 := CHr.trans CR578 (CHr.wr W433 Sf579 CR578.1)
            have Sf581 : Safe Z consts_1 T425.vm h433 b427 := (Safe.wr W433 Sf579 CR578.1 Sf579)
            have CR582 : CHr Z consts_1 s.vm h0 T425.vm h435 := CHr.trans CR580 (CHr.wr W435 Sf581 CR580.1)
            have CR583 : CHr Z consts_1 s.vm h0 T425.vm h536 := CHr.trans CR582 (CHr.ext E536 CR582.1)
            have Sf584 : Safe Z consts_1 T425.vm h435 b536 := Safe.new (Nat.le_of_eq g536.symm)
            have Sf585 : Safe Z consts_1 T425.vm h536 b536 := (Safe.ext E536 CR582.1 Sf584)
            have CR586 : CHr Z consts_1 s.vm h0 T425.vm T542.heap := CHr.trans CR583 (CHr.keep K542 (allS Sf585 all0) CR583.1)
            have CR587 : CHr Z consts_1 s.vm h0 T425.vm T545.heap := CHr.trans CR586 (CHr.keep K545 all0 CR586.1)
            obtain ⟨fs, hr, hrun, hended, hRE⟩ := X562.leaveW hS425 (show _ ≤ T562.heap.size from by rw [e562]; exact (Nat.le_trans hk425 (Nat.le_trans (Nat.le_trans (Nat.le_trans (Nat.le_trans (Nat.le_trans (Nat.le_trans (Nat.le_trans (Nat.le_trans (Nat.le_refl _) E427.1) (Nat.le_of_eq W429.size.symm)) (Nat.le_of_eq W431.size.symm)) (Nat.le_of_eq W433.size.symm)) (Nat.le_of_eq W435.size.symm)) E536.1) K542.1) K545.1))) (v := some (.int (1 : Int32))) (fun h => by rw [Bd.returns] at h; cases h)
            have CRl : CHr Z consts_1 s.vm s.heap (T562.setFrames fs).vm (T562.setFrames fs).heap := by
              have q := CHr.trans CR587 (CHv.at X562 hZ425 hEL CR587.1)
              rw [← hh, ← e562] at q
              exact q
            refine ⟨_, _, S483 _ ?_, hrun, hended, _, _, rfl, ?_, CRl, hRE.1, hRE.2.1, hRE.2.2.1, hRE.2.2.2.mono (by decide) (by decide)⟩
            · show Steps p.tables e below (T435.setTop (mkF m 210 #[.val (.int p0), .val (.int p1), .val (.int (p0 &&& (3 : Int32))), .val (.int (p1 &&& (3 : Int32))), .val (.ref w_UsageKind_DATA), .val (.ref a425), .val (.ref b427), .unset, .unset] [(.int (2 : Int32)), (.int (p1 &&& (3 : Int32)))])) _
              refine XS.icmpYes X435.here hx rfl (pc0 := 210) (pc' := 223) rfl (hb hby at_210) rfl (feq hc482).2 (by decide) (by decide) ?_
              show Steps p.tables e below (T435.setTop (mkF m 223 #[.val (.int p0), .val (.int p1), .val (.int (p0 &&& (3 : Int32))), .val (.int (p1 &&& (3 : Int32))), .val (.ref w_UsageKind_DATA), .val (.ref a425), .val (.ref b427), .unset, .unset] [])) _
              refine st536 _ ?_
              show Steps p.tables e below (T536.setTop (mkF m 226 #[.val (.int p0), .val (.int p1), .val (.int (p0 &&& (3 : Int32))), .val (.int (p1 &&& (3 : Int32))), .val (.ref w_UsageKind_DATA), .val (.ref a425), .val (.ref b427), .unset, .unset] [(.ref b536)])) _
              refine XS.dup X536.here hx rfl (hb hby at_226) rfl rfl ?_
              show Steps p.tables e below (T536.setTop (mkF m 227 #[.val (.int p0), .val (.int p1), .val (.int (p0 &&& (3 : Int32))), .val (.int (p1 &&& (3 : Int32))), .val (.ref w_UsageKind_DATA), .val (.ref a425), .val (.ref b427), .unset, .unset] [(.ref b536), (.ref b536)])) _
              refine XS.aload X536.here hx rfl (hb hby at_227) rfl rfl ?_
              show Steps p.tables e below (T536.setTop (mkF m 229 #[.val (.int p0), .val (.int p1), .val (.int (p0 &&& (3 : Int32))), .val (.int (p1 &&& (3 : Int32))), .val (.ref w_UsageKind_DATA), .val (.ref a425), .val (.ref b427), .unset, .unset] [(.ref b427), (.ref b536), (.ref b536)])) _
              refine st542.trans ?_
              show Steps p.tables e below (T542.setTop (mkF m 232 #[.val (.int p0), .val (.int p1), .val (.int (p0 &&& (3 : Int32))), .val (.int (p1 &&& (3 : Int32))), .val (.ref w_UsageKind_DATA), .val (.ref a425), .val (.ref b427), .unset, .unset] [(.ref b536)])) _
              refine XS.astore X542.here hx rfl (hb hby at_232) rfl rfl (l' := #[.val (.int p0), .val (.int p1), .val (.int (p0 &&& (3 : Int32))), .val (.int (p1 &&& (3 : Int32))), .val (.ref w_UsageKind_DATA), .val (.ref a425), .val (.ref b427), .val (.ref b536), .unset]) rfl ?_
              show Steps p.tables e below (T542.setTop (mkF m 234 #[.val (.int p0), .val (.int p1), .val (.int (p0 &&& (3 : Int32))), .val (.int (p1 &&& (3 : Int32))), .val (.ref w_UsageKind_DATA), .val (.ref a425), .val (.ref b427), .val (.ref b536), .unset] [])) _
              refine XS.aload X542.here hx rfl (hb hby at_234) rfl rfl ?_
              show Steps p.tables e below (T542.setTop (mkF m 236 #[.val (.int p0), .val (.int p1), .val (.int (p0 &&& (3 : Int32))), .val (.int (p1 &&& (3 : Int32))), .val (.ref w_UsageKind_DATA), .val (.ref a425), .val (.ref b427), .val (.ref b536), .unset] [(.ref b536)])) _
              refine st545 _ ?_
              show Steps p.tables e below (T545.setTop (mkF m 239 #[.val (.int p0), .val (.int p1), .val (.int (p0 &&& (3 : Int32))), .val (.int (p1 &&& (3 : Int32))), .val (.ref w_UsageKind_DATA), .val (.ref a425), .val (.ref b427), .val (.ref b536), .unset] [(.ref w_UsageKind_DATA)])) _
              refine XS.astore X545.here hx rfl (hb hby at_239) rfl rfl (l' := #[.val (.int p0), .val (.int p1), .val (.int (p0 &&& (3 : Int32))), .val (.int (p1 &&& (3 : Int32))), .val (.ref w_UsageKind_DATA), .val (.ref a425), .val (.ref b427), .val (.ref b536), .val (.ref w_UsageKind_DATA)]) rfl ?_
              show Steps p.tables e below (T545.setTop (mkF m 241 #[.val (.int p0), .val (.int p1), .val (.int (p0 &&& (3 : Int32))), .val (.int (p1 &&& (3 : Int32))), .val (.ref w_UsageKind_DATA), .val (.ref a425), .val (.ref b427), .val (.ref b536), .val (.ref w_UsageKind_DATA)] [])) _
              refine XS.aload X545.here hx rfl (hb hby at_241) rfl rfl ?_
              show Steps p.tables e below (T545.setTop (mkF m 243 #[.val (.int p0), .val (.int p1), .val (.int (p0 &&& (3 : Int32))), .val (.int (p1 &&& (3 : Int32))), .val (.ref w_UsageKind_DATA), .val (.ref a425), .val (.ref b427), .val (.ref b536), .val (.ref w_UsageKind_DATA)] [(.ref w_UsageKind_DATA)])) _
              refine XS.aload X545.here hx rfl (hb hby at_243) rfl rfl ?_
              show Steps p.tables e below (T545.setTop (mkF m 245 #[.val (.int p0), .val (.int p1), .val (.int (p0 &&& (3 : Int32))), .val (.int (p1 &&& (3 : Int32))), .val (.ref w_UsageKind_DATA), .val (.ref a425), .val (.ref b427), .val (.ref b536), .val (.ref w_UsageKind_DATA)] [(.ref w_UsageKind_DATA), (.ref w_UsageKind_DATA)])) _
              refine Jvm.RoadKit.acmp (g := (mkF m 245 #[.val (.int p0), .val (.int p1), .val (.int (p0 &&& (3 : Int32))), .val (.int (p1 &&& (3 : Int32))), .val (.ref w_UsageKind_DATA), .val (.ref a425), .val (.ref b427), .val (.ref b536), .val (.ref w_UsageKind_DATA)] [(.ref w_UsageKind_DATA), (.ref w_UsageKind_DATA)])) X545 hx rfl rfl rfl (pc0 := 245) (pc' := 248) (same := true) rfl (hb hby at_245) rfl (decide_eq_true rfl) (by decide) (by decide) ?_
              show Steps p.tables e below (T545.setTop (mkF m 248 #[.val (.int p0), .val (.int p1), .val (.int (p0 &&& (3 : Int32))), .val (.int (p1 &&& (3 : Int32))), .val (.ref w_UsageKind_DATA), .val (.ref a425), .val (.ref b427), .val (.ref b536), .val (.ref w_UsageKind_DATA)] [])) _
              refine XS.aload X545.here hx rfl (hb hby at_248) rfl rfl ?_
              show Steps p.tables e below (T545.setTop (mkF m 250 #[.val (.int p0), .val (.int p1), .val (.int (p0 &&& (3 : Int32))), .val (.int (p1 &&& (3 : Int32))), .val (.ref w_UsageKind_DATA), .val (.ref a425), .val (.ref b427), .val (.ref b536), .val (.ref w_UsageKind_DATA)] [(.ref w_UsageKind_DATA)])) _
              refine st548.trans ?_
              show Steps p.tables e below (T548.setTop (mkF m 253 #[.val (.int p0), .val (.int p1), .val (.int (p0 &&& (3 : Int32))), .val (.int (p1 &&& (3 : Int32))), .val (.ref w_UsageKind_DATA), .val (.ref a425), .val (.ref b427), .val (.ref b536), .val (.ref w_UsageKind_DATA)] [(.ref w_UsageKind_DATA_written)])) _
              refine XS.aload X548.here hx rfl (hb hby at_253) rfl rfl ?_
              show Steps p.tables e below (T548.setTop (mkF m 255 #[.val (.int p0), .val (.int p1), .val (.int (p0 &&& (3 : Int32))), .val (.int (p1 &&& (3 : Int32))), .val (.ref w_UsageKind_DATA), .val (.ref a425), .val (.ref b427), .val (.ref b536), .val (.ref w_UsageKind_DATA)] [(.ref a425), (.ref w_UsageKind_DATA_written)])) _
              refine st562.trans ?_
              show Steps p.tables e below (T562.setTop (mkF m 258 #[.val (.int p0), .val (.int p1), .val (.int (p0 &&& (3 : Int32))), .val (.int (p1 &&& (3 : Int32))), .val (.ref w_UsageKind_DATA), .val (.ref a425), .val (.ref b427), .val (.ref b536), .val (.ref w_UsageKind_DATA)] [(.int (VM [(100 : Int32), (97 : Int32), (116 : Int32), (97 : Int32)] [(100 : Int32), (97 : Int32), (116 : Int32), (97 : Int32)]))])) _
              refine XS.ifNo X562.here hx rfl (hb hby at_258) rfl ((if0 _ _).trans (feq (own_vm0 _ : ¬ ((VM [(100 : Int32), (97 : Int32), (116 : Int32), (97 : Int32)] [(100 : Int32), (97 : Int32), (116 : Int32), (97 : Int32)]) = (0 : Int32)))).1) ?_
              show Steps p.tables e below (T562.setTop (mkF m 261 #[.val (.int p0), .val (.int p1), .val (.int (p0 &&& (3 : Int32))), .val (.int (p1 &&& (3 : Int32))), .val (.ref w_UsageKind_DATA), .val (.ref a425), .val (.ref b427), .val (.ref b536), .val (.ref w_UsageKind_DATA)] [])) _
              refine XS.iconst X562.here hx rfl (hb hby at_261) ?_
              show Steps p.tables e below (T562.setTop (mkF m 262 #[.val (.int p0), .val (.int p1), .val (.int (p0 &&& (3 : Int32))), .val (.int (p1 &&& (3 : Int32))), .val (.ref w_UsageKind_DATA), .val (.ref a425), .val (.ref b427), .val (.ref b536), .val (.ref w_UsageKind_DATA)] [(.int (1 : Int32))])) _
              refine XS.goto X562.here hx rfl (pc0 := 262) (pc' := 266) rfl (hb hby at_262) (by decide) (by decide) ?_
              show Steps p.tables e below (T562.setTop (mkF m 266 #[.val (.int p0), .val (.int p1), .val (.int (p0 &&& (3 : Int32))), .val (.int (p1 &&& (3 : Int32))), .val (.ref w_UsageKind_DATA), .val (.ref a425), .val (.ref b427), .val (.ref b536), .val (.ref w_UsageKind_DATA)] [(.int (1 : Int32))])) _
              exact Jvm.RoadKit.retOut X562 hx Bd.returns rfl (Or.inl ⟨rfl, by simp, _, rfl⟩) (hb hby at_266) hr
            · show Q_rm0 Z p0 p1 w_UsageKind_SMS w_UsageKind_CALL w_UsageKind_DATA w_UsageKind__VALUES w_UsageKind_LOCAL_DATA w_UsageKind_SMS_written w_UsageKind_CALL_written w_UsageKind_DATA_written w_UsageKind_LOCAL_DATA_written w_UsageKind_SMS_written_value w_UsageKind_CALL_written_value w_UsageKind_DATA_written_value w_UsageKind_LOCAL_DATA_written_value k_w_UsageKind__VALUES k_w_UsageKind_SMS_written_value k_w_UsageKind_CALL_written_value k_w_UsageKind_DATA_written_value k_w_UsageKind_LOCAL_DATA_written_value zc h0 n0 _ T562.heap _
              rw [e562]
              unfold Q_rm0
              exact ⟨rfl, N562, K571⟩
      · have c588 : Sta Z h0 "com/example/bill_run/billrun/UsageKind" "LOCAL_DATA" "Lcom/example/bill_run/billrun/UsageKind;" (.ref w_UsageKind_LOCAL_DATA) := Sta.ext (O0).2 S_UsageKind_LOCAL_DATA
        obtain ⟨T589, X589, e589, st589⟩ := getS2 X0 hx hZ hown (host := "") (Or.inl (hwk hw 79 rfl)) Via.refl e0 c588 (g := (mkF m 128 #[.val (.int p0), .val (.int p1), .val (.int (p0 &&& (3 : Int32))), .val (.int (p1 &&& (3 : Int32))), .unset, .unset, .unset, .unset, .unset] [])) rfl (hb hby at_128)
        obtain ⟨a590, T590, h590, k590, b590, kc590, X590, e590, E590, hS590, hk590, hZ590, hown590, Ex590, Fc590, Fv590, Av590, la590, lb590, CX590, Lt590, Sn590, st590⟩ := ldcCH X589 hx hZ hown (hwk hw 80 rfl) hstr e589 hS0 (Nat.le_refl _) hEL (by decide) CR0.1 (vs := [(.int (108 : Int32)), (.int (111 : Int32)), (.int (99 : Int32)), (.int (97 : Int32)), (.int (108 : Int32)), (.int (45 : Int32)), (.int (100 : Int32)), (.int (97 : Int32)), (.int (116 : Int32)), (.int (97 : Int32))]) (z := (10 : Int32)) ⟨by decide, by decide⟩ (by decide) rfl (g := (mkF m 133 #[.val (.int p0), .val (.int p1), .val (.int (p0 &&& (3 : Int32))), .val (.int (p1 &&& (3 : Int32))), .val (.ref w_UsageKind_LOCAL_DATA), .unset, .unset, .unset, .unset] [])) rfl (hb hby at_133) (n := 40) (by decide) (by decide) (by decide) (by decide)
        have O591 : Old Z n0 h590 := Old.ext O0 E590
        obtain ⟨T592, h592, k592, X592, e592, E592, A592, st592⟩ := newP X590 hx hZ590 (hwk hw 11 rfl) e590 (g := (mkF m 139 #[.val (.int p0), .val (.int p1), .val (.int (p0 &&& (3 : Int32))), .val (.int (p1 &&& (3 : Int32))), .val (.ref w_UsageKind_LOCAL_DATA), .val (.ref a590), .unset, .unset, .unset] [(.int (10 : Int32))])) rfl (hb hby at_139) rfl (by decide) (cap := 10) (by decide) (by decide) (by decide) (by decide)
        obtain ⟨b592, g592⟩ : ∃ z, z = h590.size := ⟨_, rfl⟩
        rw [← g592] at A592 st592
        have g_b592 : n0 ≤ b592 := Nat.le_trans (old_le O591) (Nat.le_of_eq g592.symm)
        have V592 : Arv Z h592 b592 k592 .char (10 : Int32) [(.int (0 : Int32)), (.int (0 : Int32)), (.int (0 : Int32)), (.int (0 : Int32)), (.int (0 : Int32)), (.int (0 : Int32)), (.int (0 : Int32)), (.int (0 : Int32)), (.int (0 : Int32)), (.int (0 : Int32))] (.int (0 : Int32)) := (Arv.new A592 (by decide)).pad (pad_rep [] (.int (0 : Int32)) 10)
        obtain ⟨clq593, Arq593, kqq593, Szq593, Nnq593, Hsq593, Gsq593⟩ := id V592
        have hinq593 : ¬ ((0 : Int32) < 0 ∨ clq593.slots.size ≤ ((0 : Int32)).toNatClampNeg) := inb_of Szq593 ⟨by decide, by decide⟩
        obtain ⟨T594, h594, X594, e594, W594, st594⟩ := stC X592 hx hZ590 e592 Arq593 (j := (0 : Int32)) hinq593 (g := (mkF m 145 #[.val (.int p0), .val (.int p1), .val (.int (p0 &&& (3 : Int32))), .val (.int (p1 &&& (3 : Int32))), .val (.ref w_UsageKind_LOCAL_DATA), .val (.ref a590), .unset, .unset, .unset] [(.int (108 : Int32)), (.int (0 : Int32)), (.ref b592), (.ref b592)])) rfl rfl (hb hby at_145)
        have V594 : Arv Z h594 b592 k592 .char (10 : Int32) [(.int (nar .char (108 : Int32))), (.int (0 : Int32)), (.int (0 : Int32)), (.int (0 : Int32)), (.int (0 : Int32)), (.int (0 : Int32)), (.int (0 : Int32)), (.int (0 : Int32)), (.int (0 : Int32)), (.int (0 : Int32))] (.int (0 : Int32)) := Arv.set Arq593 kqq593 Szq593 Nnq593 Hsq593 Gsq593 (fits_nar_char _) W594 0 rfl (Nat.le_of_ble_eq_true rfl)
        have N594 := Fr.snoc X594 N0 g_b592
        obtain ⟨clq595, Arq595, kqq595, Szq595, Nnq595, Hsq595, Gsq595⟩ := id V594
        have hinq595 : ¬ ((1 : Int32) < 0 ∨ clq595.slots.size ≤ ((1 : Int32)).toNatClampNeg) := inb_of Szq595 ⟨by decide, by decide⟩
        obtain ⟨T596, h596, X596, e596, W596, st596⟩ := stC X594 hx hZ590 e594 Arq595 (j := (1 : Int32)) hinq595 (g := (mkF m 150 #[.val (.int p0), .val (.int p1), .val (.int (p0 &&& (3 : Int32))), .val (.int (p1 &&& (3 : Int32))), .val (.ref w_UsageKind_LOCAL_DATA), .val (.ref a590), .unset, .unset, .unset] [(.int (111 : Int32)), (.int (1 : Int32)), (.ref b592), (.ref b592)])) rfl rfl (hb hby at_150)
        have V596 : Arv Z h596 b592 k592 .char (10 : Int32) [(.int (nar .char (108 : Int32))), (.int (nar .char (111 : Int32))), (.int (0 : Int32)), (.int (0 : Int32)), (.int (0 : Int32)), (.int (0 : Int32)), (.int (0 : Int32)), (.int (0 : Int32)), (.int (0 : Int32)), (.int (0 : Int32))] (.int (0 : Int32)) := Arv.set Arq595 kqq595 Szq595 Nnq595 Hsq595 Gsq595 (fits_nar_char _) W596 1 rfl (Nat.le_of_ble_eq_true rfl)
        have N596 := Fr.snoc X596 N594 g_b592
        obtain ⟨clq597, Arq597, kqq597, Szq597, Nnq597, Hsq597, Gsq597⟩ := id V596
        have hinq597 : ¬ ((2 : Int32) < 0 ∨ clq597.slots.size ≤ ((2 : Int32)).toNatClampNeg) := inb_of Szq597 ⟨by decide, by decide⟩
        obtain ⟨T598, h598, X598, e598, W598, st598⟩ := stC X596 hx hZ590 e596 Arq597 (j := (2 : Int32)) hinq597 (g := (mkF m 155 #[.val (.int p0), .val (.int p1), .val (.int (p0 &&& (3 : Int32))), .val (.int (p1 &&& (3 : Int32))), .val (.ref w_UsageKind_LOCAL_DATA), .val (.ref a590), .unset, .unset, .unset] [(.int (99 : Int32)), (.int (2 : Int32)), (.ref b592), (.ref b592)])) rfl rfl (hb hby at_155)
        have V598 : Arv Z h598 b592 k592 .char (10 : Int32) [(.int (nar .char (108 : Int32))), (.int (nar .char (111 : Int32))), (.int (nar .char (99 : Int32))), (.int (0 : Int32)), (.int (0 : Int32)), (.int (0 : Int32)), (.int (0 : Int32)), (.int (0 : Int32)), (.int (0 : Int32)), (.int (0 : Int32))] (.int (0 : Int32)) := Arv.set Arq597 kqq597 Szq597 Nnq597 Hsq597 Gsq597 (fits_nar_char _) W598 2 rfl (Nat.le_of_ble_eq_true rfl)
        have N598 := Fr.snoc X598 N596 g_b592
        obtain ⟨clq599, Arq599, kqq599, Szq599, Nnq599, Hsq599, Gsq599⟩ := id V598
        have hinq599 : ¬ ((3 : Int32) < 0 ∨ clq599.slots.size ≤ ((3 : Int32)).toNatClampNeg) := inb_of Szq599 ⟨by decide, by decide⟩
        obtain ⟨T600, h600, X600, e600, W600, st600⟩ := stC X598 hx hZ590 e598 Arq599 (j := (3 : Int32)) hinq599 (g := (mkF m 160 #[.val (.int p0), .val (.int p1), .val (.int (p0 &&& (3 : Int32))), .val (.int (p1 &&& (3 : Int32))), .val (.ref w_UsageKind_LOCAL_DATA), .val (.ref a590), .unset, .unset, .unset] [(.int (97 : Int32)), (.int (3 : Int32)), (.ref b592), (.ref b592)])) rfl rfl (hb hby at_160)
        have V600 : Arv Z h600 b592 k592 .char (10 : Int32) [(.int (nar .char (108 : Int32))), (.int (nar .char (111 : Int32))), (.int (nar .char (99 : Int32))), (.int (nar .char (97 : Int32))), (.int (0 : Int32)), (.int (0 : Int32)), (.int (0 : Int32)), (.int (0 : Int32)), (.int (0 : Int32)), (.int (0 : Int32))] (.int (0 : Int32)) := Arv.set Arq599 kqq599 Szq599 Nnq599 Hsq599 Gsq599 (fits_nar_char _) W600 3 rfl (Nat.le_of_ble_eq_true rfl)
        have N600 := Fr.snoc X600 N598 g_b592
        obtain ⟨clq601, Arq601, kqq601, Szq601, Nnq601, Hsq601, Gsq601⟩ := id V600
        have hinq601 : ¬ ((4 : Int32) < 0 ∨ clq601.slots.size ≤ ((4 : Int32)).toNatClampNeg) := inb_of Szq601 ⟨by decide, by decide⟩
        obtain ⟨T602, h602, X602, e602, W602, st602⟩ := stC X600 hx hZ590 e600 Arq601 (j := (4 : Int32)) hinq601 (g := (mkF m 165 #[.val (.int p0), .val (.int p1), .val (.int (p0 &&& (3 : Int32))), .val (.int (p1 &&& (3 : Int32))), .val (.ref w_UsageKind_LOCAL_DATA), .val (.ref a590), .unset, .unset, .unset] [(.int (108 : Int32)), (.int (4 : Int32)), (.ref b592), (.ref b592)])) rfl rfl (hb hby at_165)
        have V602 : Arv Z h602 b592 k592 .char (10 : Int32) [(.int (nar .char (108 : Int32))), (.int (nar .char (111 : Int32))), (.int (nar .char (99 : Int32))), (.int (nar .char (97 : Int32))), (.int (nar .char (108 : Int32))), (.int (0 : Int32)), (.int (0 : Int32)), (.int (0 : Int32)), (.int (0 : Int32)), (.int (0 : Int32))] (.int (0 : Int32)) := Arv.set Arq601 kqq601 Szq601 Nnq601 Hsq601 Gsq601 (fits_nar_char _) W602 4 rfl (Nat.le_of_ble_eq_true rfl)
        have N602 := Fr.snoc X602 N600 g_b592
        obtain ⟨clq603, Arq603, kqq603, Szq603, Nnq603, Hsq603, Gsq603⟩ := id V602
        have hinq603 : ¬ ((5 : Int32) < 0 ∨ clq603.slots.size ≤ ((5 : Int32)).toNatClampNeg) := inb_of Szq603 ⟨by decide, by decide⟩
        obtain ⟨T604, h604, X604, e604, W604, st604⟩ := stC X602 hx hZ590 e602 Arq603 (j := (5 : Int32)) hinq603 (g := (mkF m 170 #[.val (.int p0), .val (.int p1), .val (.int (p0 &&& (3 : Int32))), .val (.int (p1 &&& (3 : Int32))), .val (.ref w_UsageKind_LOCAL_DATA), .val (.ref a590), .unset, .unset, .unset] [(.int (45 : Int32)), (.int (5 : Int32)), (.ref b592), (.ref b592)])) rfl rfl (hb hby at_170)
        have V604 : Arv Z h604 b592 k592 .char (10 : Int32) [(.int (nar .char (108 : Int32))), (.int (nar .char (111 : Int32))), (.int (nar .char (99 : Int32))), (.int (nar .char (97 : Int32))), (.int (nar .char (108 : Int32))), (.int (nar .char (45 : Int32))), (.int (0 : Int32)), (.int (0 : Int32)), (.int (0 : Int32)), (.int (0 : Int32))] (.int (0 : Int32)) := Arv.set Arq603 kqq603 Szq603 Nnq603 Hsq603 Gsq603 (fits_nar_char _) W604 5 rfl (Nat.le_of_ble_eq_true rfl)
        have N604 := Fr.snoc X604 N602 g_b592
        obtain ⟨clq605, Arq605, kqq605, Szq605, Nnq605, Hsq605, Gsq605⟩ := id V604
        have hinq605 : ¬ ((6 : Int32) < 0 ∨ clq605.slots.size ≤ ((6 : Int32)).toNatClampNeg) := inb_of Szq605 ⟨by decide, by decide⟩
        obtain ⟨T606, h606, X606, e606, W606, st606⟩ := stC X604 hx hZ590 e604 Arq605 (j := (6 : Int32)) hinq605 (g := (mkF m 176 #[.val (.int p0), .val (.int p1), .val (.int (p0 &&& (3 : Int32))), .val (.int (p1 &&& (3 : Int32))), .val (.ref w_UsageKind_LOCAL_DATA), .val (.ref a590), .unset, .unset, .unset] [(.int (100 : Int32)), (.int (6 : Int32)), (.ref b592), (.ref b592)])) rfl rfl (hb hby at_176)
        have V606 : Arv Z h606 b592 k592 .char (10 : Int32) [(.int (nar .char (108 : Int32))), (.int (nar .char (111 : Int32))), (.int (nar .char (99 : Int32))), (.int (nar .char (97 : Int32))), (.int (nar .char (108 : Int32))), (.int (nar .char (45 : Int32))), (.int (nar .char (100 : Int32))), (.int (0 : Int32)), (.int (0 : Int32)), (.int (0 : Int32))] (.int (0 : Int32)) := Arv.set Arq605 kqq605 Szq605 Nnq605 Hsq605 Gsq605 (fits_nar_char _) W606 6 rfl (Nat.le_of_ble_eq_true rfl)
        have N606 := Fr.snoc X606 N604 g_b592
        obtain ⟨clq607, Arq607, kqq607, Szq607, Nnq607, Hsq607, Gsq607⟩ := id V606
        have hinq607 : ¬ ((7 : Int32) < 0 ∨ clq607.slots.size ≤ ((7 : Int32)).toNatClampNeg) := inb_of Szq607 ⟨by decide, by decide⟩
        obtain ⟨T608, h608, X608, e608, W608, st608⟩ := stC X606 hx hZ590 e606 Arq607 (j := (7 : Int32)) hinq607 (g := (mkF m 182 #[.val (.int p0), .val (.int p1), .val (.int (p0 &&& (3 : Int32))), .val (.int (p1 &&& (3 : Int32))), .val (.ref w_UsageKind_LOCAL_DATA), .val (.ref a590), .unset, .unset, .unset] [(.int (97 : Int32)), (.int (7 : Int32)), (.ref b592), (.ref b592)])) rfl rfl (hb hby at_182)
        have V608 : Arv Z h608 b592 k592 .char (10 : Int32) [(.int (nar .char (108 : Int32))), (.int (nar .char (111 : Int32))), (.int (nar .char (99 : Int32))), (.int (nar .char (97 : Int32))), (.int (nar .char (108 : Int32))), (.int (nar .char (45 : Int32))), (.int (nar .char (100 : Int32))), (.int (nar .char (97 : Int32))), (.int (0 : Int32)), (.int (0 : Int32))] (.int (0 : Int32)) := Arv.set Arq607 kqq607 Szq607 Nnq607 Hsq607 Gsq607 (fits_nar_char _) W608 7 rfl (Nat.le_of_ble_eq_true rfl)
        have N608 := Fr.snoc X608 N606 g_b592
        obtain ⟨clq609, Arq609, kqq609, Szq609, Nnq609, Hsq609, Gsq609⟩ := id V608
        have hinq609 : ¬ ((8 : Int32) < 0 ∨ clq609.slots.size ≤ ((8 : Int32)).toNatClampNeg) := inb_of Szq609 ⟨by decide, by decide⟩
        obtain ⟨T610, h610, X610, e610, W610, st610⟩ := stC X608 hx hZ590 e608 Arq609 (j := (8 : Int32)) hinq609 (g := (mkF m 188 #[.val (.int p0), .val (.int p1), .val (.int (p0 &&& (3 : Int32))), .val (.int (p1 &&& (3 : Int32))), .val (.ref w_UsageKind_LOCAL_DATA), .val (.ref a590), .unset, .unset, .unset] [(.int (116 : Int32)), (.int (8 : Int32)), (.ref b592), (.ref b592)])) rfl rfl (hb hby at_188)
        have V610 : Arv Z h610 b592 k592 .char (10 : Int32) [(.int (nar .char (108 : Int32))), (.int (nar .char (111 : Int32))), (.int (nar .char (99 : Int32))), (.int (nar .char (97 : Int32))), (.int (nar .char (108 : Int32))), (.int (nar .char (45 : Int32))), (.int (nar .char (100 : Int32))), (.int (nar .char (97 : Int32))), (.int (nar .char (116 : Int32))), (.int (0 : Int32))] (.int (0 : Int32)) := Arv.set Arq609 kqq609 Szq609 Nnq609 Hsq609 Gsq609 (fits_nar_char _) W610 8 rfl (Nat.le_of_ble_eq_true rfl)
        have N610 := Fr.snoc X610 N608 g_b592
        obtain ⟨clq611, Arq611, kqq611, Szq611, Nnq611, Hsq611, Gsq611⟩ := id V610
        have hinq611 : ¬ ((9 : Int32) < 0 ∨ clq611.slots.size ≤ ((9 : Int32)).toNatClampNeg) := inb_of Szq611 ⟨by decide, by decide⟩
        obtain ⟨T612, h612, X612, e612, W612, st612⟩ := stC X610 hx hZ590 e610 Arq611 (j := (9 : Int32)) hinq611 (g := (mkF m 194 #[.val (.int p0), .val (.int p1), .val (.int (p0 &&& (3 : Int32))), .val (.int (p1 &&& (3 : Int32))), .val (.ref w_UsageKind_LOCAL_DATA), .val (.ref a590), .unset, .unset, .unset] [(.int (97 : Int32)), (.int (9 : Int32)), (.ref b592), (.ref b592)])) rfl rfl (hb hby at_194)
        have V612 : Arv Z h612 b592 k592 .char (10 : Int32) [(.int (nar .char (108 : Int32))), (.int (nar .char (111 : Int32))), (.int (nar .char (99 : Int32))), (.int (nar .char (97 : Int32))), (.int (nar .char (108 : Int32))), (.int (nar .char (45 : Int32))), (.int (nar .char (100 : Int32))), (.int (nar .char (97 : Int32))), (.int (nar .char (116 : Int32))), (.int (nar .char (97 : Int32)))] (.int (0 : Int32)) := Arv.set Arq611 kqq611 Szq611 Nnq611 Hsq611 Gsq611 (fits_nar_char _) W612 9 rfl (Nat.le_of_ble_eq_true rfl)
        have N612 := Fr.snoc X612 N610 g_b592
        have S614 : ∀ t, Steps p.tables e below (T612.setTop (mkF m 198 #[.val (.int p0), .val (.int p1), .val (.int (p0 &&& (3 : Int32))), .val (.int (p1 &&& (3 : Int32))), .val (.ref w_UsageKind_LOCAL_DATA), .val (.ref a590), .val (.ref b592), .unset, .unset] [(.int (p1 &&& (3 : Int32)))])) t → Steps p.tables e below (s₁.setTop (entryFrame m #[(.int p0), (.int p1)] maxLocals)) t := fun t k => by
          refine S422 t ?_
          show Steps p.tables e below (s₁.setTop (mkF m 88 #[.val (.int p0), .val (.int p1), .val (.int (p0 &&& (3 : Int32))), .val (.int (p1 &&& (3 : Int32))), .unset, .unset, .unset, .unset, .unset] [(.int (2 : Int32)), (.int (p0 &&& (3 : Int32)))])) _
          refine XS.icmpYes X0.here hx rfl (pc0 := 88) (pc' := 128) rfl (hb hby at_88) rfl (feq hc421).2 (by decide) (by decide) ?_
          show Steps p.tables e below (s₁.setTop (mkF m 128 #[.val (.int p0), .val (.int p1), .val (.int (p0 &&& (3 : Int32))), .val (.int (p1 &&& (3 : Int32))), .unset, .unset, .unset, .unset, .unset] [])) _
          refine st589 _ ?_
          show Steps p.tables e below (T589.setTop (mkF m 131 #[.val (.int p0), .val (.int p1), .val (.int (p0 &&& (3 : Int32))), .val (.int (p1 &&& (3 : Int32))), .unset, .unset, .unset, .unset, .unset] [(.ref w_UsageKind_LOCAL_DATA)])) _
          refine XS.astore X589.here hx rfl (hb hby at_131) rfl rfl (l' := #[.val (.int p0), .val (.int p1), .val (.int (p0 &&& (3 : Int32))), .val (.int (p1 &&& (3 : Int32))), .val (.ref w_UsageKind_LOCAL_DATA), .unset, .unset, .unset, .unset]) rfl ?_
          show Steps p.tables e below (T589.setTop (mkF m 133 #[.val (.int p0), .val (.int p1), .val (.int (p0 &&& (3 : Int32))), .val (.int (p1 &&& (3 : Int32))), .val (.ref w_UsageKind_LOCAL_DATA), .unset, .unset, .unset, .unset] [])) _
          refine st590 _ ?_
          show Steps p.tables e below (T590.setTop (mkF m 135 #[.val (.int p0), .val (.int p1), .val (.int (p0 &&& (3 : Int32))), .val (.int (p1 &&& (3 : Int32))), .val (.ref w_UsageKind_LOCAL_DATA), .unset, .unset, .unset, .unset] [(.ref a590)])) _
          refine XS.astore X590.here hx rfl (hb hby at_135) rfl rfl (l' := #[.val (.int p0), .val (.int p1), .val (.int (p0 &&& (3 : Int32))), .val (.int (p1 &&& (3 : Int32))), .val (.ref w_UsageKind_LOCAL_DATA), .val (.ref a590), .unset, .unset, .unset]) rfl ?_
          show Steps p.tables e below (T590.setTop (mkF m 137 #[.val (.int p0), .val (.int p1), .val (.int (p0 &&& (3 : Int32))), .val (.int (p1 &&& (3 : Int32))), .val (.ref w_UsageKind_LOCAL_DATA), .val (.ref a590), .unset, .unset, .unset] [])) _
          refine XS.bipush X590.here hx rfl (hb hby at_137) ?_
          show Steps p.tables e below (T590.setTop (mkF m 139 #[.val (.int p0), .val (.int p1), .val (.int (p0 &&& (3 : Int32))), .val (.int (p1 &&& (3 : Int32))), .val (.ref w_UsageKind_LOCAL_DATA), .val (.ref a590), .unset, .unset, .unset] [(.int (10 : Int32))])) _
          refine st592 _ ?_
          show Steps p.tables e below (T592.setTop (mkF m 141 #[.val (.int p0), .val (.int p1), .val (.int (p0 &&& (3 : Int32))), .val (.int (p1 &&& (3 : Int32))), .val (.ref w_UsageKind_LOCAL_DATA), .val (.ref a590), .unset, .unset, .unset] [(.ref b592)])) _
          refine XS.dup X592.here hx rfl (hb hby at_141) rfl rfl ?_
          show Steps p.tables e below (T592.setTop (mkF m 142 #[.val (.int p0), .val (.int p1), .val (.int (p0 &&& (3 : Int32))), .val (.int (p1 &&& (3 : Int32))), .val (.ref w_UsageKind_LOCAL_DATA), .val (.ref a590), .unset, .unset, .unset] [(.ref b592), (.ref b592)])) _
          refine XS.iconst X592.here hx rfl (hb hby at_142) ?_
          show Steps p.tables e below (T592.setTop (mkF m 143 #[.val (.int p0), .val (.int p1), .val (.int (p0 &&& (3 : Int32))), .val (.int (p1 &&& (3 : Int32))), .val (.ref w_UsageKind_LOCAL_DATA), .val (.ref a590), .unset, .unset, .unset] [(.int (0 : Int32)), (.ref b592), (.ref b592)])) _
          refine XS.bipush X592.here hx rfl (hb hby at_143) ?_
          show Steps p.tables e below (T592.setTop (mkF m 145 #[.val (.int p0), .val (.int p1), .val (.int (p0 &&& (3 : Int32))), .val (.int (p1 &&& (3 : Int32))), .val (.ref w_UsageKind_LOCAL_DATA), .val (.ref a590), .unset, .unset, .unset] [(.int (108 : Int32)), (.int (0 : Int32)), (.ref b592), (.ref b592)])) _
          refine st594 _ ?_
          show Steps p.tables e below (T594.setTop (mkF m 146 #[.val (.int p0), .val (.int p1), .val (.int (p0 &&& (3 : Int32))), .val (.int (p1 &&& (3 : Int32))), .val (.ref w_UsageKind_LOCAL_DATA), .val (.ref a590), .unset, .unset, .unset] [(.ref b592)])) _
          refine XS.dup X594.here hx rfl (hb hby at_146) rfl rfl ?_
          show Steps p.tables e below (T594.setTop (mkF m 147 #[.val (.int p0), .val (.int p1), .val (.int (p0 &&& (3 : Int32))), .val (.int (p1 &&& (3 : Int32))), .val (.ref w_UsageKind_LOCAL_DATA), .val (.ref a590), .unset, .unset, .unset] [(.ref b592), (.ref b592)])) _
          refine XS.iconst X594.here hx rfl (hb hby at_147) ?_
          show Steps p.tables e below (T594.setTop (mkF m 148 #[.val (.int p0), .val (.int p1), .val (.int (p0 &&& (3 : Int32))), .val (.int (p1 &&& (3 : Int32))), .val (.ref w_UsageKind_LOCAL_DATA), .val (.ref a590), .unset, .unset, .unset] [(.int (1 : Int32)), (.ref b592), (.ref b592)])) _
          refine XS.bipush X594.here hx rfl (hb hby at_148) ?_
          show Steps p.tables e below (T594.setTop (mkF m 150 #[.val (.int p0), .val (.int p1), .val (.int (p0 &&& (3 : Int32))), .val (.int (p1 &&& (3 : Int32))), .val (.ref w_UsageKind_LOCAL_DATA), .val (.ref a590), .unset, .unset, .unset] [(.int (111 : Int32)), (.int (1 : Int32)), (.ref b592), (.ref b592)])) _
          refine st596 _ ?_
          show Steps p.tables e below (T596.setTop (mkF m 151 #[.val (.int p0), .val (.int p1), .val (.int (p0 &&& (3 : Int32))), .val (.int (p1 &&& (3 : Int32))), .val (.ref w_UsageKind_LOCAL_DATA), .val (.ref a590), .unset, .unset, .unset] [(.ref b592)])) _
          refine XS.dup X596.here hx rfl (hb hby at_151) rfl rfl ?_
          show Steps p.tables e below (T596.setTop (mkF m 152 #[.val (.int p0), .val (.int p1), .val (.int (p0 &&& (3 : Int32))), .val (.int (p1 &&& (3 : Int32))), .val (.ref w_UsageKind_LOCAL_DATA), .val (.ref a590), .unset, .unset, .unset] [(.ref b592), (.ref b592)])) _
          refine XS.iconst X596.here hx rfl (hb hby at_152) ?_
          show Steps p.tables e below (T596.setTop (mkF m 153 #[.val (.int p0), .val (.int p1), .val (.int (p0 &&& (3 : Int32))), .val (.int (p1 &&& (3 : Int32))), .val (.ref w_UsageKind_LOCAL_DATA), .val (.ref a590), .unset, .unset, .unset] [(.int (2 : Int32)), (.ref b592), (.ref b592)])) _
          refine XS.bipush X596.here hx rfl (hb hby at_153) ?_
          show Steps p.tables e below (T596.setTop (mkF m 155 #[.val (.int p0), .val (.int p1), .val (.int (p0 &&& (3 : Int32))), .val (.int (p1 &&& (3 : Int32))), .val (.ref w_UsageKind_LOCAL_DATA), .val (.ref a590), .unset, .unset, .unset] [(.int (99 : Int32)), (.int (2 : Int32)), (.ref b592), (.ref b592)])) _
          refine st598 _ ?_
          show Steps p.tables e below (T598.setTop (mkF m 156 #[.val (.int p0), .val (.int p1), .val (.int (p0 &&& (3 : Int32))), .val (.int (p1 &&& (3 : Int32))), .val (.ref w_UsageKind_LOCAL_DATA), .val (.ref a590), .unset, .unset, .unset] [(.ref b592)])) _
          refine XS.dup X598.here hx rfl (hb hby at_156) rfl rfl ?_
          show Steps p.tables e below (T598.setTop (mkF m 157 #[.val (.int p0), .val (.int p1), .val (.int (p0 &&& (3 : Int32))), .val (.int (p1 &&& (3 : Int32))), .val (.ref w_UsageKind_LOCAL_DATA), .val (.ref a590), .unset, .unset, .unset] [(.ref b592), (.ref b592)])) _
          refine XS.iconst X598.here hx rfl (hb hby at_157) ?_
          show Steps p.tables e below (T598.setTop (mkF m 158 #[.val (.int p0), .val (.int p1), .val (.int (p0 &&& (3 : Int32))), .val (.int (p1 &&& (3 : Int32))), .val (.ref w_UsageKind_LOCAL_DATA), .val (.ref a590), .unset, .unset, .unset] [(.int (3 : Int32)), (.ref b592), (.ref b592)])) _
          refine XS.bipush X598.here hx rfl (hb hby at_158) ?_
          show Steps p.tables e below (T598.setTop (mkF m 160 #[.val (.int p0), .val (.int p1), .val (.int (p0 &&& (3 : Int32))), .val (.int (p1 &&& (3 : Int32))), .val (.ref w_UsageKind_LOCAL_DATA), .val (.ref a590), .unset, .unset, .unset] [(.int (97 : Int32)), (.int (3 : Int32)), (.ref b592), (.ref b592)])) _
          refine st600 _ ?_
          show Steps p.tables e below (T600.setTop (mkF m 161 #[.val (.int p0), .val (.int p1), .val (.int (p0 &&& (3 : Int32))), .val (.int (p1 &&& (3 : Int32))), .val (.ref w_UsageKind_LOCAL_DATA), .val (.ref a590), .unset, .unset, .unset] [(.ref b592)])) _
          refine XS.dup X600.here hx rfl (hb hby at_161) rfl rfl ?_
          show Steps p.tables e below (T600.setTop (mkF m 162 #[.val (.int p0), .val (.int p1), .val (.int (p0 &&& (3 : Int32))), .val (.int (p1 &&& (3 : Int32))), .val (.ref w_UsageKind_LOCAL_DATA), .val (.ref a590), .unset, .unset, .unset] [(.ref b592), (.ref b592)])) _
          refine XS.iconst X600.here hx rfl (hb hby at_162) ?_
          show Steps p.tables e below (T600.setTop (mkF m 163 #[.val (.int p0), .val (.int p1), .val (.int (p0 &&& (3 : Int32))), .val (.int (p1 &&& (3 : Int32))), .val (.ref w_UsageKind_LOCAL_DATA), .val (.ref a590), .unset, .unset, .unset] [(.int (4 : Int32)), (.ref b592), (.ref b592)])) _
          refine XS.bipush X600.here hx rfl (hb hby at_163) ?_
          show Steps p.tables e below (T600.setTop (mkF m 165 #[.val (.int p0), .val (.int p1), .val (.int (p0 &&& (3 : Int32))), .val (.int (p1 &&& (3 : Int32))), .val (.ref w_UsageKind_LOCAL_DATA), .val (.ref a590), .unset, .unset, .unset] [(.int (108 : Int32)), (.int (4 : Int32)), (.ref b592), (.ref b592)])) _
          refine st602 _ ?_
          show Steps p.tables e below (T602.setTop (mkF m 166 #[.val (.int p0), .val (.int p1), .val (.int (p0 &&& (3 : Int32))), .val (.int (p1 &&& (3 : Int32))), .val (.ref w_UsageKind_LOCAL_DATA), .val (.ref a590), .unset, .unset, .unset] [(.ref b592)])) _
          refine XS.dup X602.here hx rfl (hb hby at_166) rfl rfl ?_
          show Steps p.tables e below (T602.setTop (mkF m 167 #[.val (.int p0), .val (.int p1), .val (.int (p0 &&& (3 : Int32))), .val (.int (p1 &&& (3 : Int32))), .val (.ref w_UsageKind_LOCAL_DATA), .val (.ref a590), .unset, .unset, .unset] [(.ref b592), (.ref b592)])) _
          refine XS.iconst X602.here hx rfl (hb hby at_167) ?_
          show Steps p.tables e below (T602.setTop (mkF m 168 #[.val (.int p0), .val (.int p1), .val (.int (p0 &&& (3 : Int32))), .val (.int (p1 &&& (3 : Int32))), .val (.ref w_UsageKind_LOCAL_DATA), .val (.ref a590), .unset, .unset, .unset] [(.int (5 : Int32)), (.ref b592), (.ref b592)])) _
          refine XS.bipush X602.here hx rfl (hb hby at_168) ?_
          show Steps p.tables e below (T602.setTop (mkF m 170 #[.val (.int p0), .val (.int p1), .val (.int (p0 &&& (3 : Int32))), .val (.int (p1 &&& (3 : Int32))), .val (.ref w_UsageKind_LOCAL_DATA), .val (.ref a590), .unset, .unset, .unset] [(.int (45 : Int32)), (.int (5 : Int32)), (.ref b592), (.ref b592)])) _
          refine st604 _ ?_
          show Steps p.tables e below (T604.setTop (mkF m 171 #[.val (.int p0), .val (.int p1), .val (.int (p0 &&& (3 : Int32))), .val (.int (p1 &&& (3 : Int32))), .val (.ref w_UsageKind_LOCAL_DATA), .val (.ref a590), .unset, .unset, .unset] [(.ref b592)])) _
          refine XS.dup X604.here hx rfl (hb hby at_171) rfl rfl ?_
          show Steps p.tables e below (T604.setTop (mkF m 172 #[.val (.int p0), .val (.int p1), .val (.int (p0 &&& (3 : Int32))), .val (.int (p1 &&& (3 : Int32))), .val (.ref w_UsageKind_LOCAL_DATA), .val (.ref a590), .unset, .unset, .unset] [(.ref b592), (.ref b592)])) _
          refine XS.bipush X604.here hx rfl (hb hby at_172) ?_
          show Steps p.tables e below (T604.setTop (mkF m 174 #[.val (.int p0), .val (.int p1), .val (.int (p0 &&& (3 : Int32))), .val (.int (p1 &&& (3 : Int32))), .val (.ref w_UsageKind_LOCAL_DATA), .val (.ref a590), .unset, .unset, .unset] [(.int (6 : Int32)), (.ref b592), (.ref b592)])) _
          refine XS.bipush X604.here hx rfl (hb hby at_174) ?_
          show Steps p.tables e below (T604.setTop (mkF m 176 #[.val (.int p0), .val (.int p1), .val (.int (p0 &&& (3 : Int32))), .val (.int (p1 &&& (3 : Int32))), .val (.ref w_UsageKind_LOCAL_DATA), .val (.ref a590), .unset, .unset, .unset] [(.int (100 : Int32)), (.int (6 : Int32)), (.ref b592), (.ref b592)])) _
          refine st606 _ ?_
          show Steps p.tables e below (T606.setTop (mkF m 177 #[.val (.int p0), .val (.int p1), .val (.int (p0 &&& (3 : Int32))), .val (.int (p1 &&& (3 : Int32))), .val (.ref w_UsageKind_LOCAL_DATA), .val (.ref a590), .unset, .unset, .unset] [(.ref b592)])) _
          refine XS.dup X606.here hx rfl (hb hby at_177) rfl rfl ?_
          show Steps p.tables e below (T606.setTop (mkF m 178 #[.val (.int p0), .val (.int p1), .val (.int (p0 &&& (3 : Int32))), .val (.int (p1 &&& (3 : Int32))), .val (.ref w_UsageKind_LOCAL_DATA), .val (.ref a590), .unset, .unset, .unset] [(.ref b592), (.ref b592)])) _
          refine XS.bipush X606.here hx rfl (hb hby at_178) ?_
          show Steps p.tables e below (T606.setTop (mkF m 180 #[.val (.int p0), .val (.int p1), .val (.int (p0 &&& (3 : Int32))), .val (.int (p1 &&& (3 : Int32))), .val (.ref w_UsageKind_LOCAL_DATA), .val (.ref a590), .unset, .unset, .unset] [(.int (7 : Int32)), (.ref b592), (.ref b592)])) _
          refine XS.bipush X606.here hx rfl (hb hby at_180) ?_
          show Steps p.tables e below (T606.setTop (mkF m 182 #[.val (.int p0), .val (.int p1), .val (.int (p0 &&& (3 : Int32))), .val (.int (p1 &&& (3 : Int32))), .val (.ref w_UsageKind_LOCAL_DATA), .val (.ref a590), .unset, .unset, .unset] [(.int (97 : Int32)), (.int (7 : Int32)), (.ref b592), (.ref b592)])) _
          refine st608 _ ?_
          show Steps p.tables e below (T608.setTop (mkF m 183 #[.val (.int p0), .val (.int p1), .val (.int (p0 &&& (3 : Int32))), .val (.int (p1 &&& (3 : Int32))), .val (.ref w_UsageKind_LOCAL_DATA), .val (.ref a590), .unset, .unset, .unset] [(.ref b592)])) _
          refine XS.dup X608.here hx rfl (hb hby at_183) rfl rfl ?_
          show Steps p.tables e below (T608.setTop (mkF m 184 #[.val (.int p0), .val (.int p1), .val (.int (p0 &&& (3 : Int32))), .val (.int (p1 &&& (3 : Int32))), .val (.ref w_UsageKind_LOCAL_DATA), .val (.ref a590), .unset, .unset, .unset] [(.ref b592), (.ref b592)])) _
          refine XS.bipush X608.here hx rfl (hb hby at_184) ?_
          show Steps p.tables e below (T608.setTop (mkF m 186 #[.val (.int p0), .val (.int p1), .val (.int (p0 &&& (3 : Int32))), .val (.int (p1 &&& (3 : Int32))), .val (.ref w_UsageKind_LOCAL_DATA), .val (.ref a590), .unset, .unset, .unset] [(.int (8 : Int32)), (.ref b592), (.ref b592)])) _
          refine XS.bipush X608.here hx rfl (hb hby at_186) ?_
          show Steps p.tables e below (T608.setTop (mkF m 188 #[.val (.int p0), .val (.int p1), .val (.int (p0 &&& (3 : Int32))), .val (.int (p1 &&& (3 : Int32))), .val (.ref w_UsageKind_LOCAL_DATA), .val (.ref a590), .unset, .unset, .unset] [(.int (116 : Int32)), (.int (8 : Int32)), (.ref b592), (.ref b592)])) _
          refine st610 _ ?_
          show Steps p.tables e below (T610.setTop (mkF m 189 #[.val (.int p0), .val (.int p1), .val (.int (p0 &&& (3 : Int32))), .val (.int (p1 &&& (3 : Int32))), .val (.ref w_UsageKind_LOCAL_DATA), .val (.ref a590), .unset, .unset, .unset] [(.ref b592)])) _
          refine XS.dup X610.here hx rfl (hb hby at_189) rfl rfl ?_
          show Steps p.tables e below (T610.setTop (mkF m 190 #[.val (.int p0), .val (.int p1), .val (.int (p0 &&& (3 : Int32))), .val (.int (p1 &&& (3 : Int32))), .val (.ref w_UsageKind_LOCAL_DATA), .val (.ref a590), .unset, .unset, .unset] [(.ref b592), (.ref b592)])) _
          refine XS.bipush X610.here hx rfl (hb hby at_190) ?_
          show Steps p.tables e below (T610.setTop (mkF m 192 #[.val (.int p0), .val (.int p1), .val (.int (p0 &&& (3 : Int32))), .val (.int (p1 &&& (3 : Int32))), .val (.ref w_UsageKind_LOCAL_DATA), .val (.ref a590), .unset, .unset, .unset] [(.int (9 : Int32)), (.ref b592), (.ref b592)])) _
          refine XS.bipush X610.here hx rfl (hb hby at_192) ?_
          show Steps p.tables e below (T610.setTop (mkF m 194 #[.val (.int p0), .val (.int p1), .val (.int (p0 &&& (3 : Int32))), .val (.int (p1 &&& (3 : Int32))), .val (.ref w_UsageKind_LOCAL_DATA), .val (.ref a590), .unset, .unset, .unset] [(.int (97 : Int32)), (.int (9 : Int32)), (.ref b592), (.ref b592)])) _
          refine st612 _ ?_
          show Steps p.tables e below (T612.setTop (mkF m 195 #[.val (.int p0), .val (.int p1), .val (.int (p0 &&& (3 : Int32))), .val (.int (p1 &&& (3 : Int32))), .val (.ref w_UsageKind_LOCAL_DATA), .val (.ref a590), .unset, .unset, .unset] [(.ref b592)])) _
          refine XS.astore X612.here hx rfl (hb hby at_195) rfl rfl (l' := #[.val (.int p0), .val (.int p1), .val (.int (p0 &&& (3 : Int32))), .val (.int (p1 &&& (3 : Int32))), .val (.ref w_UsageKind_LOCAL_DATA), .val (.ref a590), .val (.ref b592), .unset, .unset]) rfl ?_
          show Steps p.tables e below (T612.setTop (mkF m 197 #[.val (.int p0), .val (.int p1), .val (.int (p0 &&& (3 : Int32))), .val (.int (p1 &&& (3 : Int32))), .val (.ref w_UsageKind_LOCAL_DATA), .val (.ref a590), .val (.ref b592), .unset, .unset] [])) _
          refine XS.iloadN X612.here hx rfl (hb hby at_197) rfl ?_
          exact k
        by_cases hc613 : (p1 &&& (3 : Int32)) = (0 : Int32)
        · have c615 : Exa Z h612 a590 "java/lang/String" := (Exa.wr W612 (Exa.wr W610 (Exa.wr W608 (Exa.wr W606 (Exa.wr W604 (Exa.wr W602 (Exa.wr W600 (Exa.wr W598 (Exa.wr W596 (Exa.wr W594 (Exa.ext E592 Ex590)))))))))))
          have c616 : Fld Z h612 a590 "java/lang/String" "value" "[B" (.ref b590) := (Fld.other W612 (Fld.other W610 (Fld.other W608 (Fld.other W606 (Fld.other W604 (Fld.other W602 (Fld.other W600 (Fld.other W598 (Fld.other W596 (Fld.other W594 (Fld.ext E592 Fv590) (Or.inl (Exa.neArv c615 V612 (hwk hw 5 rfl)))) (Or.inl (Exa.neArv c615 V612 (hwk hw 5 rfl)))) (Or.inl (Exa.neArv c615 V612 (hwk hw 5 rfl)))) (Or.inl (Exa.neArv c615 V612 (hwk hw 5 rfl)))) (Or.inl (Exa.neArv c615 V612 (hwk hw 5 rfl)))) (Or.inl (Exa.neArv c615 V612 (hwk hw 5 rfl)))) (Or.inl (Exa.neArv c615 V612 (hwk hw 5 rfl)))) (Or.inl (Exa.neArv c615 V612 (hwk hw 5 rfl)))) (Or.inl (Exa.neArv c615 V612 (hwk hw 5 rfl)))) (Or.inl (Exa.neArv c615 V612 (hwk hw 5 rfl))))
          have c617 : Fld Z h612 a590 "java/lang/String" "coder" "B" (.int (0 : Int32)) := (Fld.other W612 (Fld.other W610 (Fld.other W608 (Fld.other W606 (Fld.other W604 (Fld.other W602 (Fld.other W600 (Fld.other W598 (Fld.other W596 (Fld.other W594 (Fld.ext E592 Fc590) (Or.inl (Exa.neArv c615 V612 (hwk hw 5 rfl)))) (Or.inl (Exa.neArv c615 V612 (hwk hw 5 rfl)))) (Or.inl (Exa.neArv c615 V612 (hwk hw 5 rfl)))) (Or.inl (Exa.neArv c615 V612 (hwk hw 5 rfl)))) (Or.inl (Exa.neArv c615 V612 (hwk hw 5 rfl)))) (Or.inl (Exa.neArv c615 V612 (hwk hw 5 rfl)))) (Or.inl (Exa.neArv c615 V612 (hwk hw 5 rfl)))) (Or.inl (Exa.neArv c615 V612 (hwk hw 5 rfl)))) (Or.inl (Exa.neArv c615 V612 (hwk hw 5 rfl)))) (Or.inl (Exa.neArv c615 V612 (hwk hw 5 rfl))))
          have c618 : Arv Z h612 b590 kc590 .byte (10 : Int32) [(.int (108 : Int32)), (.int (111 : Int32)), (.int (99 : Int32)), (.int (97 : Int32)), (.int (108 : Int32)), (.int (45 : Int32)), (.int (100 : Int32)), (.int (97 : Int32)), (.int (116 : Int32)), (.int (97 : Int32))] (.int 0) := (Arv.other (Arv.other (Arv.other (Arv.other (Arv.other (Arv.other (Arv.other (Arv.other (Arv.other (Arv.other (Av590.ext E592) W594 (Nat.ne_of_lt (Nat.lt_of_lt_of_le (Av590).lt (Nat.le_of_eq g592.symm)))) W596 (Nat.ne_of_lt (Nat.lt_of_lt_of_le (Av590).lt (Nat.le_of_eq g592.symm)))) W598 (Nat.ne_of_lt (Nat.lt_of_lt_of_le (Av590).lt (Nat.le_of_eq g592.symm)))) W600 (Nat.ne_of_lt (Nat.lt_of_lt_of_le (Av590).lt (Nat.le_of_eq g592.symm)))) W602 (Nat.ne_of_lt (Nat.lt_of_lt_of_le (Av590).lt (Nat.le_of_eq g592.symm)))) W604 (Nat.ne_of_lt (Nat.lt_of_lt_of_le (Av590).lt (Nat.le_of_eq g592.symm)))) W606 (Nat.ne_of_lt (Nat.lt_of_lt_of_le (Av590).lt (Nat.le_of_eq g592.symm)))) W608 (Nat.ne_of_lt (Nat.lt_of_lt_of_le (Av590).lt (Nat.le_of_eq g592.symm)))) W610 (Nat.ne_of_lt (Nat.lt_of_lt_of_le (Av590).lt (Nat.le_of_eq g592.symm)))) W612 (Nat.ne_of_lt (Nat.lt_of_lt_of_le (Av590).lt (Nat.le_of_eq g592.symm))))
          have O619 : Old Z n0 h592 := Old.ext O591 E592
          have O620 : Old Z n0 h594 := Old.wr O619 W594 g_b592
          have O621 : Old Z n0 h596 := Old.wr O620 W596 g_b592
          have O622 : Old Z n0 h598 := Old.wr O621 W598 g_b592
          have O623 : Old Z n0 h600 := Old.wr O622 W600 g_b592
          have O624 : Old Z n0 h602 := Old.wr O623 W602 g_b592
          have O625 : Old Z n0 h604 := Old.wr O624 W604 g_b592
          have O626 : Old Z n0 h606 := Old.wr O625 W606 g_b592
          have O627 : Old Z n0 h608 := Old.wr O626 W608 g_b592
          have O628 : Old Z n0 h610 := Old.wr O627 W610 g_b592
          have O629 : Old Z n0 h612 := Old.wr O628 W612 g_b592
          obtain ⟨_, _, ⟨T630, L630, k630, n630⟩, -, X630, ⟨Lc630, hQ630, l630, y630, z630⟩, st630⟩ := Jvm.LawKit.callS X612 hx (y := (⟨"com/example/bill_run/billrun/UsageKind", "named", "(Ljava/lang/String;)Lcom/example/bill_run/billrun/UsageKind;"⟩ : MethodName)) hown590 (mvT hZ590 (hwk hw 36 rfl)) (mvT hZ590 (hwk hw 37 rfl)) (mvT hZ590 (hwk hw 1 rfl)) (mvT hZ590 (hwk hw 38 rfl)) (by decide) (backOf (W := 0) (rn3 l Z a0 hw [] a590 b590 kc590 (10 : Int32) ([(.int (108 : Int32)), (.int (111 : Int32)), (.int (99 : Int32)), (.int (97 : Int32)), (.int (108 : Int32)), (.int (45 : Int32)), (.int (100 : Int32)), (.int (97 : Int32)), (.int (116 : Int32)), (.int (97 : Int32))]) w_UsageKind_SMS w_UsageKind_CALL w_UsageKind_DATA w_UsageKind__VALUES w_UsageKind_LOCAL_DATA w_UsageKind_SMS_written w_UsageKind_CALL_written w_UsageKind_DATA_written w_UsageKind_LOCAL_DATA_written w_UsageKind_SMS_written_value w_UsageKind_CALL_written_value w_UsageKind_DATA_written_value w_UsageKind_LOCAL_DATA_written_value k_w_UsageKind__VALUES k_w_UsageKind_SMS_written_value k_w_UsageKind_CALL_written_value k_w_UsageKind_DATA_written_value k_w_UsageKind_LOCAL_DATA_written_value zc h612 n0 O629 c615 c616 c617 c618 own_os3 E_w_UsageKind_SMS E_w_UsageKind_CALL E_w_UsageKind_DATA S_UsageKind__VALUES E_w_UsageKind__VALUES E_w_UsageKind_LOCAL_DATA V_w_UsageKind__VALUES F_w_UsageKind_SMS_written E_w_UsageKind_SMS_written F_w_UsageKind_CALL_written E_w_UsageKind_CALL_written F_w_UsageKind_DATA_written E_w_UsageKind_DATA_written F_w_UsageKind_LOCAL_DATA_written E_w_UsageKind_LOCAL_DATA_written F_w_UsageKind_SMS_written_value F_w_UsageKind_CALL_written_value F_w_UsageKind_DATA_written_value F_w_UsageKind_LOCAL_DATA_written_value F_w_UsageKind_CALL_written_coder F_w_UsageKind_SMS_written_coder F_w_UsageKind_DATA_written_coder F_w_UsageKind_LOCAL_DATA_written_coder V_w_UsageKind_SMS_written_value V_w_UsageKind_CALL_written_value V_w_UsageKind_DATA_written_value V_w_UsageKind_LOCAL_DATA_written_value SZ PZ) hZ590 (hwk hw 38 rfl) (hwk hw 1 rfl) (by decide) (by decide)) (g := (mkF m 236 #[.val (.int p0), .val (.int p1), .val (.int (p0 &&& (3 : Int32))), .val (.int (p1 &&& (3 : Int32))), .val (.ref w_UsageKind_LOCAL_DATA), .val (.ref a590), .val (.ref b592), .val (.ref a590), .unset] [(.ref a590)])) rfl (by rw [hml]; rfl) (argsL := [(.ref a590)]) (rest := []) (lenOf pd_2 rfl) rfl (by show 2 * 0 + _ ≤ _; exact Nat.le_of_eq rfl) (hb hby at_236) (fun _ _ => ⟨rfl, e612, (by decide : 3 + 1 ≤ _), (by decide : 54 + 4 ≤ _)⟩)
          dsimp only [Pt.U, Pt.locs, Pt.cells, Pt.slots] at X630 l630 y630 z630 st630 hQ630
          subst l630 y630 z630
          unfold Q_rn3 at hQ630
          obtain ⟨rfl, N630q, K630⟩ := hQ630
          have N630 := Fr.app N612 N630q
          have O632 : Old Z n0 T630.heap := Old.keep O629 K630 all0
          have c631 : Fld Z T630.heap w_UsageKind_LOCAL_DATA "com/example/bill_run/billrun/UsageKind" "written" "Ljava/lang/String;" (.ref w_UsageKind_LOCAL_DATA_written) := Fld.ext (O632).2 F_w_UsageKind_LOCAL_DATA_written
          have c634 : Exa Z T630.heap w_UsageKind_LOCAL_DATA "com/example/bill_run/billrun/UsageKind" := Exa.ext (O632).2 E_w_UsageKind_LOCAL_DATA
          obtain ⟨cq633, kq633, q633a, q633b, q633c⟩ := isOf hZ590 (rfl : T630.heap = T630.heap) c634
          obtain ⟨_, _, ⟨T633, L633, k633, n633⟩, -, X633, ⟨Lc633, hQ633, l633, y633, z633⟩, st633⟩ := X630.virtualBack hx (y := (⟨"com/example/bill_run/billrun/UsageKind", "toString", "()Ljava/lang/String;"⟩ : MethodName)) (z := (⟨"com/example/bill_run/billrun/UsageKind", "toString", "()Ljava/lang/String;"⟩ : MethodName)) hown590 (mvT hZ590 (hwk hw 69 rfl)) (mvT hZ590 (hwk hw 70 rfl)) (notFace_of_selects (args := #[]) (mvT hZ590 (hwk hw 72 rfl))) (mvT hZ590 (hwk hw 72 rfl)) (mvT hZ590 (hwk hw 71 rfl)) (by decide) (backOf (W := 0) (rm11 l Z a0 hw [] w_UsageKind_LOCAL_DATA w_UsageKind_LOCAL_DATA_written T630.heap n0 O632 c631) hZ590 (hwk hw 73 rfl) (hwk hw 1 rfl) (by decide) (by decide)) q633a q633c (g := (mkF m 250 #[.val (.int p0), .val (.int p1), .val (.int (p0 &&& (3 : Int32))), .val (.int (p1 &&& (3 : Int32))), .val (.ref w_UsageKind_LOCAL_DATA), .val (.ref a590), .val (.ref b592), .val (.ref a590), .val (.ref w_UsageKind_LOCAL_DATA)] [(.ref w_UsageKind_LOCAL_DATA)])) rfl (by rw [hml]; rfl) (Steps.refl _) (argsL := []) (rest := []) (lenOf pd_3 rfl) rfl (by show 2 * 0 + _ ≤ _; exact Nat.le_of_eq rfl) (hb hby at_250) (fun _ _ => ⟨rfl, (rfl : T630.heap = T630.heap), (by decide : 4 + 0 ≤ _), (by decide : 58 + 0 ≤ _)⟩)
          dsimp only [Pt.U, Pt.locs, Pt.cells, Pt.slots] at X633 l633 y633 z633 st633 hQ633
          subst l633 y633 z633
          unfold Q_rm11 at hQ633
          obtain ⟨rfl, N633q, e633⟩ := hQ633
          have N633 := Fr.app N630 N633q
          have hws635 : ∀ d ∈ StrChars.Road.wordsEq, d.before a0 Z = true := fun d hd => hw d ((by decide +kernel : ∀ d ∈ StrChars.Road.wordsEq, d ∈ tables_1) d hd)
          have c636 : Exa Z T630.heap w_UsageKind_LOCAL_DATA_written "java/lang/String" := Exa.ext (O632).2 E_w_UsageKind_LOCAL_DATA_written
          have c637 : Fld Z T630.heap w_UsageKind_LOCAL_DATA_written "java/lang/String" "value" "[B" (.ref w_UsageKind_LOCAL_DATA_written_value) := Fld.ext (O632).2 F_w_UsageKind_LOCAL_DATA_written_value
          have c638 : Fld Z T630.heap w_UsageKind_LOCAL_DATA_written "java/lang/String" "coder" "B" (.int (0 : Int32)) := Fld.ext (O632).2 F_w_UsageKind_LOCAL_DATA_written_coder
          have c639 : Arv Z T630.heap w_UsageKind_LOCAL_DATA_written_value k_w_UsageKind_LOCAL_DATA_written_value .byte (10 : Int32) [(.int (108 : Int32)), (.int (111 : Int32)), (.int (99 : Int32)), (.int (97 : Int32)), (.int (108 : Int32)), (.int (45 : Int32)), (.int (100 : Int32)), (.int (97 : Int32)), (.int (116 : Int32)), (.int (97 : Int32))] (.int (0 : Int32)) := V_w_UsageKind_LOCAL_DATA_written_value.ext O632.2
          have c640 : Exa Z T630.heap a590 "java/lang/String" := (Exa.keep c615 K630)
          have c641 : Fld Z T630.heap a590 "java/lang/String" "value" "[B" (.ref b590) := (Fld.keep c616 K630 nin0)
          have c642 : Fld Z T630.heap a590 "java/lang/String" "coder" "B" (.int (0 : Int32)) := (Fld.keep c617 K630 nin0)
          have c643 : Arv Z T630.heap b590 kc590 .byte (10 : Int32) [(.int (108 : Int32)), (.int (111 : Int32)), (.int (99 : Int32)), (.int (97 : Int32)), (.int (108 : Int32)), (.int (45 : Int32)), (.int (100 : Int32)), (.int (97 : Int32)), (.int (116 : Int32)), (.int (97 : Int32))] (.int 0) := (Arv.keep c618 K630 nin0)
          have c644 : Sta Z T630.heap "java/lang/String" "COMPACT_STRINGS" "Z" (.int zc) := Sta.ext (O632).2 SZ
          obtain ⟨cq645, kq645, q645a, q645b, q645c⟩ := isOf hZ590 e633 c636
          obtain ⟨_, _, ⟨T645, L645, k645, n645⟩, -, X645, ⟨Lc645, hQ645, l645, y645, z645⟩, st645⟩ := X633.virtualBack hx (y := (⟨"java/lang/String", "equals", "(Ljava/lang/Object;)Z"⟩ : MethodName)) (z := (⟨"java/lang/String", "equals", "(Ljava/lang/Object;)Z"⟩ : MethodName)) hown590 (mvT hZ590 (hwk hw 74 rfl)) (mvT hZ590 (hwk hw 60 rfl)) (notFace_of_selects (args := #[]) (mvT hZ590 (hwk hw 62 rfl))) (mvT hZ590 (hwk hw 62 rfl)) (mvT hZ590 (hwk hw 61 rfl)) (by decide) (StrChars.Road.eqW (W := 0) hZ590 hws635 (kI := 4) (hwk hw 5 rfl) c636 c637 c638 c639 own_os3.1 own_os3.2.1 own_os3.2.2 c640 c641 c642 c643 own_os3.1 own_os3.2.1 own_os3.2.2 c644 PZ (by decide) (by decide)) q645a q645c (g := (mkF m 255 #[.val (.int p0), .val (.int p1), .val (.int (p0 &&& (3 : Int32))), .val (.int (p1 &&& (3 : Int32))), .val (.ref w_UsageKind_LOCAL_DATA), .val (.ref a590), .val (.ref b592), .val (.ref a590), .val (.ref w_UsageKind_LOCAL_DATA)] [(.ref a590), (.ref w_UsageKind_LOCAL_DATA_written)])) rfl (by rw [hml]; rfl) (Steps.refl _) (argsL := [(.ref a590)]) (rest := []) (lenOf pd_1 rfl) rfl (by show 2 * 0 + _ ≤ _; exact Nat.le_of_eq rfl) (hb hby at_255) (fun _ _ => ⟨rfl, e633, (by decide : 4 + 0 ≤ _), (by decide : 58 + 0 ≤ _)⟩)
          dsimp only [Pt.U, Pt.locs, Pt.cells, Pt.slots] at X645 l645 y645 z645 st645 hQ645
          subst l645 y645 z645
          obtain ⟨hv645, hl645, e645⟩ := hQ645
          cases own_vm hv645
          have N645 := Fr.app N633 (own_frnil hl645)
          have K646 : Keep h0 h590 [] := Keep.ext (Keep.refl h0 []) E590
          have K647 : Keep h0 h592 [] := Keep.ext K646 E592
          have K648 : Keep h0 h594 [] := Keep.wr K647 W594 (Or.inr (Nat.le_trans (Nat.le_trans (Nat.le_refl _) E590.1) (Nat.le_of_eq g592.symm)))
          have K649 : Keep h0 h596 [] := Keep.wr K648 W596 (Or.inr (Nat.le_trans (Nat.le_trans (Nat.le_refl _) E590.1) (Nat.le_of_eq g592.symm)))
          have K650 : Keep h0 h598 [] := Keep.wr K649 W598 (Or.inr (Nat.le_trans (Nat.le_trans (Nat.le_refl _) E590.1) (Nat.le_of_eq g592.symm)))
          have K651 : Keep h0 h600 [] := Keep.wr K650 W600 (Or.inr (Nat.le_trans (Nat.le_trans (Nat.le_refl _) E590.1) (Nat.le_of_eq g592.symm)))
          have K652 : Keep h0 h602 [] := Keep.wr K651 W602 (Or.inr (Nat.le_trans (Nat.le_trans (Nat.le_refl _) E590.1) (Nat.le_of_eq g592.symm)))
          have K653 : Keep h0 h604 [] := Keep.wr K652 W604 (Or.inr (Nat.le_trans (Nat.le_trans (Nat.le_refl _) E590.1) (Nat.le_of_eq g592.symm)))
          have K654 : Keep h0 h606 [] := Keep.wr K653 W606 (Or.inr (Nat.le_trans (Nat.le_trans (Nat.le_refl _) E590.1) (Nat.le_of_eq g592.symm)))
          have K655 : Keep h0 h608 [] := Keep.wr K654 W608 (Or.inr (Nat.le_trans (Nat.le_trans (Nat.le_refl _) E590.1) (Nat.le_of_eq g592.symm)))
          have K656 : Keep h0 h610 [] := Keep.wr K655 W610 (Or.inr (Nat.le_trans (Nat.le_trans (Nat.le_refl _) E590.1) (Nat.le_of_eq g592.symm)))
          have K657 : Keep h0 h612 [] := Keep.wr K656 W612 (Or.inr (Nat.le_trans (Nat.le_trans (Nat.le_refl _) E590.1) (Nat.le_of_eq g592.symm)))
          have K658 : Keep h0 T630.heap [] := Keep.trans K657 K630 all0
          have CR659 : CHr Z consts_1 s.vm h0 T590.vm h590 := CHr.trans CR0 CX590
          have CR660 : CHr Z consts_1 s.vm h0 T590.vm h592 := CHr.trans CR659 (CHr.ext E592 CR659.1)
          have Sf661 : Safe Z consts_1 T590.vm h590 b592 := Safe.new (Nat.le_of_eq g592.symm)
          have Sf662 : Safe Z consts_1 T590.vm h592 b592 := (Safe.ext E592 CR659.1 Sf661)
          have CR663 : CHr Z consts_1 s.vm h0 T590.vm h594 := CHr.trans CR660 (CHr.wr W594 Sf662 CR660.1)
          have Sf664 : Safe Z consts_1 T590.vm h594 b592 := (Safe.wr W594 Sf662 CR660.1 Sf662)
          have CR665 : CHr Z consts_1 s.vm h0 T590.vm h596 := CHr.trans CR663 (CHr.wr W596 Sf664 CR663.1)
          have Sf666 : Safe Z consts_1 T590.vm h596 b592 := (Safe.wr W596 Sf664 CR663.1 Sf664)
          have CR667 : CHr Z consts_1 s.vm h0 T590.vm h598 := CHr.trans CR665 (CHr.wr W598 Sf666 CR665.1)
          have Sf668 : Safe Z consts_1 T590.vm h598 b592 := (Safe.wr W598 Sf666 CR665.1 Sf666)
          have CR669 : CHr Z consts_1 s.vm h0 T590.vm h600 := CHr.trans CR667 (CHr.wr W600 Sf668 CR667.1)
          have Sf670 : Safe Z consts_1 T590.vm h600 b592 := (Safe.wr W600 Sf668 CR667.1 Sf668)
          have CR671 : CHr Z consts_1 s.vm h0 T590.vm h602 := CHr.trans CR669 (CHr.wr W602 Sf670 CR669.1)
          have Sf672 : Safe Z consts_1 T590.vm h602 b592 := (Safe.wr W602 Sf670 CR669.1 Sf670)
          have CR673 : CHr Z consts_1 s.vm h0 T590.vm h604 := CHr.trans CR671 (CHr.wr W604 Sf672 CR671.1)
          have Sf674 : Safe Z consts_1 T590.vm h604 b592 := (Safe.wr W604 Sf672 CR671.1 Sf672)
          have CR675 : CHr Z consts_1 s.vm h0 T590.vm h606 := CHr.trans CR673 (CHr.wr W606 Sf674 CR673.1)
          have Sf676 : Safe Z consts_1 T590.vm h606 b592 := (Safe.wr W606 Sf674 CR673.1 Sf674)
          have CR677 : CHr Z consts_1 s.vm h0 T590.vm h608 := CHr.trans CR675 (CHr.wr W608 Sf676 CR675.1)
          have Sf678 : Safe Z consts_1 T590.vm h608 b592 := (Safe.wr W608 Sf676 CR675.1 Sf676)
          have CR679 : CHr Z consts_1 s.vm h0 T590.vm h610 := CHr.trans CR677 (CHr.wr W610 Sf678 CR677.1)
          have Sf680 : Safe Z consts_1 T590.vm h610 b592 := (Safe.wr W610 Sf678 CR677.1 Sf678)
          have CR681 : CHr Z consts_1 s.vm h0 T590.vm h612 := CHr.trans CR679 (CHr.wr W612 Sf680 CR679.1)
          have CR682 : CHr Z consts_1 s.vm h0 T590.vm T630.heap := CHr.trans CR681 (CHr.keep K630 all0 CR681.1)
          obtain ⟨fs, hr, hrun, hended, hRE⟩ := X645.leaveW hS590 (show _ ≤ T645.heap.size from by rw [e645]; exact (Nat.le_trans hk590 (Nat.le_trans (Nat.le_trans (Nat.le_trans (Nat.le_trans (Nat.le_trans (Nat.le_trans (Nat.le_trans (Nat.le_trans (Nat.le_trans (Nat.le_trans (Nat.le_trans (Nat.le_trans (Nat.le_refl _) E592.1) (Nat.le_of_eq W594.size.symm)) (Nat.le_of_eq W596.size.symm)) (Nat.le_of_eq W598.size.symm)) (Nat.le_of_eq W600.size.symm)) (Nat.le_of_eq W602.size.symm)) (Nat.le_of_eq W604.size.symm)) (Nat.le_of_eq W606.size.symm)) (Nat.le_of_eq W608.size.symm)) (Nat.le_of_eq W610.size.symm)) (Nat.le_of_eq W612.size.symm)) K630.1))) (v := some (.int (1 : Int32))) (fun h => by rw [Bd.returns] at h; cases h)
          have CRl : CHr Z consts_1 s.vm s.heap (T645.setFrames fs).vm (T645.setFrames fs).heap := by
            have q := CHr.trans CR682 (CHv.at X645 hZ590 hEL CR682.1)
            rw [← hh, ← e645] at q
            exact q
          refine ⟨_, _, S614 _ ?_, hrun, hended, _, _, rfl, ?_, CRl, hRE.1, hRE.2.1, hRE.2.2.1, hRE.2.2.2.mono (by decide) (by decide)⟩
          · show Steps p.tables e below (T612.setTop (mkF m 198 #[.val (.int p0), .val (.int p1), .val (.int (p0 &&& (3 : Int32))), .val (.int (p1 &&& (3 : Int32))), .val (.ref w_UsageKind_LOCAL_DATA), .val (.ref a590), .val (.ref b592), .unset, .unset] [(.int (p1 &&& (3 : Int32)))])) _
            refine XS.ifNo X612.here hx rfl (hb hby at_198) rfl ((if0 _ _).trans (teq hc613).2) ?_
            show Steps p.tables e below (T612.setTop (mkF m 201 #[.val (.int p0), .val (.int p1), .val (.int (p0 &&& (3 : Int32))), .val (.int (p1 &&& (3 : Int32))), .val (.ref w_UsageKind_LOCAL_DATA), .val (.ref a590), .val (.ref b592), .unset, .unset] [])) _
            refine XS.aload X612.here hx rfl (hb hby at_201) rfl rfl ?_
            show Steps p.tables e below (T612.setTop (mkF m 203 #[.val (.int p0), .val (.int p1), .val (.int (p0 &&& (3 : Int32))), .val (.int (p1 &&& (3 : Int32))), .val (.ref w_UsageKind_LOCAL_DATA), .val (.ref a590), .val (.ref b592), .unset, .unset] [(.ref a590)])) _
            refine XS.astore X612.here hx rfl (hb hby at_203) rfl rfl (l' := #[.val (.int p0), .val (.int p1), .val (.int (p0 &&& (3 : Int32))), .val (.int (p1 &&& (3 : Int32))), .val (.ref w_UsageKind_LOCAL_DATA), .val (.ref a590), .val (.ref b592), .val (.ref a590), .unset]) rfl ?_
            show Steps p.tables e below (T612.setTop (mkF m 205 #[.val (.int p0), .val (.int p1), .val (.int (p0 &&& (3 : Int32))), .val (.int (p1 &&& (3 : Int32))), .val (.ref w_UsageKind_LOCAL_DATA), .val (.ref a590), .val (.ref b592), .val (.ref a590), .unset] [])) _
            refine XS.goto X612.here hx rfl (pc0 := 205) (pc' := 234) rfl (hb hby at_205) (by decide) (by decide) ?_
            show Steps p.tables e below (T612.setTop (mkF m 234 #[.val (.int p0), .val (.int p1), .val (.int (p0 &&& (3 : Int32))), .val (.int (p1 &&& (3 : Int32))), .val (.ref w_UsageKind_LOCAL_DATA), .val (.ref a590), .val (.ref b592), .val (.ref a590), .unset] [])) _
            refine XS.aload X612.here hx rfl (hb hby at_234) rfl rfl ?_
            show Steps p.tables e below (T612.setTop (mkF m 236 #[.val (.int p0), .val (.int p1), .val (.int (p0 &&& (3 : Int32))), .val (.int (p1 &&& (3 : Int32))), .val (.ref w_UsageKind_LOCAL_DATA), .val (.ref a590), .val (.ref b592), .val (.ref a590), .unset] [(.ref a590)])) _
            refine st630 _ ?_
            show Steps p.tables e below (T630.setTop (mkF m 239 #[.val (.int p0), .val (.int p1), .val (.int (p0 &&& (3 : Int32))), .val (.int (p1 &&& (3 : Int32))), .val (.ref w_UsageKind_LOCAL_DATA), .val (.ref a590), .val (.ref b592), .val (.ref a590), .unset] [(.ref w_UsageKind_LOCAL_DATA)])) _
            refine XS.astore X630.here hx rfl (hb hby at_239) rfl rfl (l' := #[.val (.int p0), .val (.int p1), .val (.int (p0 &&& (3 : Int32))), .val (.int (p1 &&& (3 : Int32))), .val (.ref w_UsageKind_LOCAL_DATA), .val (.ref a590), .val (.ref b592), .val (.ref a590), .val (.ref w_UsageKind_LOCAL_DATA)]) rfl ?_
            show Steps p.tables e below (T630.setTop (mkF m 241 #[.val (.int p0), .val (.int p1), .val (.int (p0 &&& (3 : Int32))), .val (.int (p1 &&& (3 : Int32))), .val (.ref w_UsageKind_LOCAL_DATA), .val (.ref a590), .val (.ref b592), .val (.ref a590), .val (.ref w_UsageKind_LOCAL_DATA)] [])) _
            refine XS.aload X630.here hx rfl (hb hby at_241) rfl rfl ?_
            show Steps p.tables e below (T630.setTop (mkF m 243 #[.val (.int p0), .val (.int p1), .val (.int (p0 &&& (3 : Int32))), .val (.int (p1 &&& (3 : Int32))), .val (.ref w_UsageKind_LOCAL_DATA), .val (.ref a590), .val (.ref b592), .val (.ref a590), .val (.ref w_UsageKind_LOCAL_DATA)] [(.ref w_UsageKind_LOCAL_DATA)])) _
            refine XS.aload X630.here hx rfl (hb hby at_243) rfl rfl ?_
            show Steps p.tables e below (T630.setTop (mkF m 245 #[.val (.int p0), .val (.int p1), .val (.int (p0 &&& (3 : Int32))), .val (.int (p1 &&& (3 : Int32))), .val (.ref w_UsageKind_LOCAL_DATA), .val (.ref a590), .val (.ref b592), .val (.ref a590), .val (.ref w_UsageKind_LOCAL_DATA)] [(.ref w_UsageKind_LOCAL_DATA), (.ref w_UsageKind_LOCAL_DATA)])) _
            refine Jvm.RoadKit.acmp (g := (mkF m 245 #[.val (.int p0), .val (.int p1), .val (.int (p0 &&& (3 : Int32))), .val (.int (p1 &&& (3 : Int32))), .val (.ref w_UsageKind_LOCAL_DATA), .val (.ref a590), .val (.ref b592), .val (.ref a590), .val (.ref w_UsageKind_LOCAL_DATA)] [(.ref w_UsageKind_LOCAL_DATA), (.ref w_UsageKind_LOCAL_DATA)])) X630 hx rfl rfl rfl (pc0 := 245) (pc' := 248) (same := true) rfl (hb hby at_245) rfl (decide_eq_true rfl) (by decide) (by decide) ?_
            show Steps p.tables e below (T630.setTop (mkF m 248 #[.val (.int p0), .val (.int p1), .val (.int (p0 &&& (3 : Int32))), .val (.int (p1 &&& (3 : Int32))), .val (.ref w_UsageKind_LOCAL_DATA), .val (.ref a590), .val (.ref b592), .val (.ref a590), .val (.ref w_UsageKind_LOCAL_DATA)] [])) _
            refine XS.aload X630.here hx rfl (hb hby at_248) rfl rfl ?_
            show Steps p.tables e below (T630.setTop (mkF m 250 #[.val (.int p0), .val (.int p1), .val (.int (p0 &&& (3 : Int32))), .val (.int (p1 &&& (3 : Int32))), .val (.ref w_UsageKind_LOCAL_DATA), .val (.ref a590), .val (.ref b592), .val (.ref a590), .val (.ref w_UsageKind_LOCAL_DATA)] [(.ref w_UsageKind_LOCAL_DATA)])) _
            refine st633.trans ?_
            show Steps p.tables e below (T633.setTop (mkF m 253 #[.val (.int p0), .val (.int p1), .val (.int (p0 &&& (3 : Int32))), .val (.int (p1 &&& (3 : Int32))), .val (.ref w_UsageKind_LOCAL_DATA), .val (.ref a590), .val (.ref b592), .val (.ref a590), .val (.ref w_UsageKind_LOCAL_DATA)] [(.ref w_UsageKind_LOCAL_DATA_written)])) _
            refine XS.aload X633.here hx rfl (hb hby at_253) rfl rfl ?_
            show Steps p.tables e below (T633.setTop (mkF m 255 #[.val (.int p0), .val (.int p1), .val (.int (p0 &&& (3 : Int32))), .val (.int (p1 &&& (3 : Int32))), .val (.ref w_UsageKind_LOCAL_DATA), .val (.ref a590), .val (.ref b592), .val (.ref a590), .val (.ref w_UsageKind_LOCAL_DATA)] [(.ref a590), (.ref w_UsageKind_LOCAL_DATA_written)])) _
            refine st645.trans ?_
            show Steps p.tables e below (T645.setTop (mkF m 258 #[.val (.int p0), .val (.int p1), .val (.int (p0 &&& (3 : Int32))), .val (.int (p1 &&& (3 : Int32))), .val (.ref w_UsageKind_LOCAL_DATA), .val (.ref a590), .val (.ref b592), .val (.ref a590), .val (.ref w_UsageKind_LOCAL_DATA)] [(.int (VM [(108 : Int32), (111 : Int32), (99 : Int32), (97 : Int32), (108 : Int32), (45 : Int32), (100 : Int32), (97 : Int32), (116 : Int32), (97 : Int32)] [(108 : Int32), (111 : Int32), (99 : Int32), (97 : Int32), (108 : Int32), (45 : Int32), (100 : Int32), (97 : Int32), (116 : Int32), (97 : Int32)]))])) _
            refine XS.ifNo X645.here hx rfl (hb hby at_258) rfl ((if0 _ _).trans (feq (own_vm0 _ : ¬ ((VM [(108 : Int32), (111 : Int32), (99 : Int32), (97 : Int32), (108 : Int32), (45 : Int32), (100 : Int32), (97 : Int32), (116 : Int32), (97 : Int32)] [(108 : Int32), (111 : Int32), (99 : Int32), (97 : Int32), (108 : Int32), (45 : Int32), (100 : Int32), (97 : Int32), (116 : Int32), (97 : Int32)]) = (0 : Int32)))).1) ?_
            show Steps p.tables e below (T645.setTop (mkF m 261 #[.val (.int p0), .val (.int p1), .val (.int (p0 &&& (3 : Int32))), .val (.int (p1 &&& (3 : Int32))), .val (.ref w_UsageKind_LOCAL_DATA), .val (.ref a590), .val (.ref b592), .val (.ref a590), .val (.ref w_UsageKind_LOCAL_DATA)] [])) _
            refine XS.iconst X645.here hx rfl (hb hby at_261) ?_
            show Steps p.tables e below (T645.setTop (mkF m 262 #[.val (.int p0), .val (.int p1), .val (.int (p0 &&& (3 : Int32))), .val (.int (p1 &&& (3 : Int32))), .val (.ref w_UsageKind_LOCAL_DATA), .val (.ref a590), .val (.ref b592), .val (.ref a590), .val (.ref w_UsageKind_LOCAL_DATA)] [(.int (1 : Int32))])) _
            refine XS.goto X645.here hx rfl (pc0 := 262) (pc' := 266) rfl (hb hby at_262) (by decide) (by decide) ?_
            show Steps p.tables e below (T645.setTop (mkF m 266 #[.val (.int p0), .val (.int p1), .val (.int (p0 &&& (3 : Int32))), .val (.int (p1 &&& (3 : Int32))), .val (.ref w_UsageKind_LOCAL_DATA), .val (.ref a590), .val (.ref b592), .val (.ref a590), .val (.ref w_UsageKind_LOCAL_DATA)] [(.int (1 : Int32))])) _
            exact Jvm.RoadKit.retOut X645 hx Bd.returns rfl (Or.inl ⟨rfl, by simp, _, rfl⟩) (hb hby at_266) hr
          · show Q_rm0 Z p0 p1 w_UsageKind_SMS w_UsageKind_CALL w_UsageKind_DATA w_UsageKind__VALUES w_UsageKind_LOCAL_DATA w_UsageKind_SMS_written w_UsageKind_CALL_written w_UsageKind_DATA_written w_UsageKind_LOCAL_DATA_written w_UsageKind_SMS_written_value w_UsageKind_CALL_written_value w_UsageKind_DATA_written_value w_UsageKind_LOCAL_DATA_written_value k_w_UsageKind__VALUES k_w_UsageKind_SMS_written_value k_w_UsageKind_CALL_written_value k_w_UsageKind_DATA_written_value k_w_UsageKind_LOCAL_DATA_written_value zc h0 n0 _ T645.heap _
            rw [e645]
            unfold Q_rm0
            exact ⟨rfl, N645, K658⟩
        · have S684 : ∀ t, Steps p.tables e below (T612.setTop (mkF m 210 #[.val (.int p0), .val (.int p1), .val (.int (p0 &&& (3 : Int32))), .val (.int (p1 &&& (3 : Int32))), .val (.ref w_UsageKind_LOCAL_DATA), .val (.ref a590), .val (.ref b592), .unset, .unset] [(.int (2 : Int32)), (.int (p1 &&& (3 : Int32)))])) t → Steps p.tables e below (s₁.setTop (entryFrame m #[(.int p0), (.int p1)] maxLocals)) t := fun t k => by
            refine S614 t ?_
            show Steps p.tables e below (T612.setTop (mkF m 198 #[.val (.int p0), .val (.int p1), .val (.int (p0 &&& (3 : Int32))), .val (.int (p1 &&& (3 : Int32))), .val (.ref w_UsageKind_LOCAL_DATA), .val (.ref a590), .val (.ref b592), .unset, .unset] [(.int (p1 &&& (3 : Int32)))])) _
            refine XS.ifYes X612.here hx rfl (pc0 := 198) (pc' := 208) rfl (hb hby at_198) rfl ((if0 _ _).trans (feq hc613).2) (by decide) (by decide) ?_
            show Steps p.tables e below (T612.setTop (mkF m 208 #[.val (.int p0), .val (.int p1), .val (.int (p0 &&& (3 : Int32))), .val (.int (p1 &&& (3 : Int32))), .val (.ref w_UsageKind_LOCAL_DATA), .val (.ref a590), .val (.ref b592), .unset, .unset] [])) _
            refine XS.iloadN X612.here hx rfl (hb hby at_208) rfl ?_
            show Steps p.tables e below (T612.setTop (mkF m 209 #[.val (.int p0), .val (.int p1), .val (.int (p0 &&& (3 : Int32))), .val (.int (p1 &&& (3 : Int32))), .val (.ref w_UsageKind_LOCAL_DATA), .val (.ref a590), .val (.ref b592), .unset, .unset] [(.int (p1 &&& (3 : Int32)))])) _
            refine XS.iconst X612.here hx rfl (hb hby at_209) ?_
            exact k
          by_cases hc683 : (p1 &&& (3 : Int32)) = (2 : Int32)
          · have O686 : Old Z n0 h592 := Old.ext O591 E592
            have O687 : Old Z n0 h594 := Old.wr O686 W594 g_b592
            have O688 : Old Z n0 h596 := Old.wr O687 W596 g_b592
            have O689 : Old Z n0 h598 := Old.wr O688 W598 g_b592
            have O690 : Old Z n0 h600 := Old.wr O689 W600 g_b592
            have O691 : Old Z n0 h602 := Old.wr O690 W602 g_b592
            have O692 : Old Z n0 h604 := Old.wr O691 W604 g_b592
            have O693 : Old Z n0 h606 := Old.wr O692 W606 g_b592
            have O694 : Old Z n0 h608 := Old.wr O693 W608 g_b592
            have O695 : Old Z n0 h610 := Old.wr O694 W610 g_b592
            have O696 : Old Z n0 h612 := Old.wr O695 W612 g_b592
            have c685 : Fld Z h612 w_UsageKind_LOCAL_DATA "com/example/bill_run/billrun/UsageKind" "written" "Ljava/lang/String;" (.ref w_UsageKind_LOCAL_DATA_written) := Fld.ext (O696).2 F_w_UsageKind_LOCAL_DATA_written
            have c698 : Exa Z h612 w_UsageKind_LOCAL_DATA "com/example/bill_run/billrun/UsageKind" := Exa.ext (O696).2 E_w_UsageKind_LOCAL_DATA
            obtain ⟨cq697, kq697, q697a, q697b, q697c⟩ := isOf hZ590 e612 c698
            obtain ⟨_, _, ⟨T697, L697, k697, n697⟩, -, X697, ⟨Lc697, hQ697, l697, y697, z697⟩, st697⟩ := X612.virtualBack hx (y := (⟨"com/example/bill_run/billrun/UsageKind", "toString", "()Ljava/lang/String;"⟩ : MethodName)) (z := (⟨"com/example/bill_run/billrun/UsageKind", "toString", "()Ljava/lang/String;"⟩ : MethodName)) hown590 (mvT hZ590 (hwk hw 69 rfl)) (mvT hZ590 (hwk hw 70 rfl)) (notFace_of_selects (args := #[]) (mvT hZ590 (hwk hw 72 rfl))) (mvT hZ590 (hwk hw 72 rfl)) (mvT hZ590 (hwk hw 71 rfl)) (by decide) (backOf (W := 0) (rm11 l Z a0 hw [] w_UsageKind_LOCAL_DATA w_UsageKind_LOCAL_DATA_written h612 n0 O696 c685) hZ590 (hwk hw 73 rfl) (hwk hw 1 rfl) (by decide) (by decide)) q697a q697c (g := (mkF m 215 #[.val (.int p0), .val (.int p1), .val (.int (p0 &&& (3 : Int32))), .val (.int (p1 &&& (3 : Int32))), .val (.ref w_UsageKind_LOCAL_DATA), .val (.ref a590), .val (.ref b592), .unset, .unset] [(.ref w_UsageKind_LOCAL_DATA)])) rfl (by rw [hml]; rfl) (Steps.refl _) (argsL := []) (rest := []) (lenOf pd_3 rfl) rfl (by show 2 * 0 + _ ≤ _; exact Nat.le_of_eq rfl) (hb hby at_215) (fun _ _ => ⟨rfl, e612, (by decide : 3 + 0 ≤ _), (by decide : 54 + 0 ≤ _)⟩)
            dsimp only [Pt.U, Pt.locs, Pt.cells, Pt.slots] at X697 l697 y697 z697 st697 hQ697
            subst l697 y697 z697
            unfold Q_rm11 at hQ697
            obtain ⟨rfl, N697q, e697⟩ := hQ697
            have N697 := Fr.app N612 N697q
            have c699 : Exa Z h612 w_UsageKind_LOCAL_DATA_written "java/lang/String" := Exa.ext (O696).2 E_w_UsageKind_LOCAL_DATA_written
            have c700 : Fld Z h612 w_UsageKind_LOCAL_DATA_written "java/lang/String" "value" "[B" (.ref w_UsageKind_LOCAL_DATA_written_value) := Fld.ext (O696).2 F_w_UsageKind_LOCAL_DATA_written_value
            have c701 : Fld Z h612 w_UsageKind_LOCAL_DATA_written "java/lang/String" "coder" "B" (.int (0 : Int32)) := Fld.ext (O696).2 F_w_UsageKind_LOCAL_DATA_written_coder
            have c702 : Arv Z h612 w_UsageKind_LOCAL_DATA_written_value k_w_UsageKind_LOCAL_DATA_written_value .byte (10 : Int32) [(.int (108 : Int32)), (.int (111 : Int32)), (.int (99 : Int32)), (.int (97 : Int32)), (.int (108 : Int32)), (.int (45 : Int32)), (.int (100 : Int32)), (.int (97 : Int32)), (.int (116 : Int32)), (.int (97 : Int32))] (.int (0 : Int32)) := V_w_UsageKind_LOCAL_DATA_written_value.ext O696.2
            obtain ⟨_, _, ⟨T703, L703, k703, n703⟩, -, X703, ⟨Lc703, hQ703, l703, y703, z703⟩, st703⟩ := Jvm.LawKit.callS X697 hx (y := (⟨"com/example/bill_run/billrun/UsageKind", "named", "(Ljava/lang/String;)Lcom/example/bill_run/billrun/UsageKind;"⟩ : MethodName)) hown590 (mvT hZ590 (hwk hw 36 rfl)) (mvT hZ590 (hwk hw 37 rfl)) (mvT hZ590 (hwk hw 1 rfl)) (mvT hZ590 (hwk hw 38 rfl)) (by decide) (backOf (W := 0) (rn3 l Z a0 hw [] w_UsageKind_LOCAL_DATA_written w_UsageKind_LOCAL_DATA_written_value k_w_UsageKind_LOCAL_DATA_written_value (10 : Int32) ([(.int (108 : Int32)), (.int (111 : Int32)), (.int (99 : Int32)), (.int (97 : Int32)), (.int (108 : Int32)), (.int (45 : Int32)), (.int (100 : Int32)), (.int (97 : Int32)), (.int (116 : Int32)), (.int (97 : Int32))]) w_UsageKind_SMS w_UsageKind_CALL w_UsageKind_DATA w_UsageKind__VALUES w_UsageKind_LOCAL_DATA w_UsageKind_SMS_written w_UsageKind_CALL_written w_UsageKind_DATA_written w_UsageKind_LOCAL_DATA_written w_UsageKind_SMS_written_value w_UsageKind_CALL_written_value w_UsageKind_DATA_written_value w_UsageKind_LOCAL_DATA_written_value k_w_UsageKind__VALUES k_w_UsageKind_SMS_written_value k_w_UsageKind_CALL_written_value k_w_UsageKind_DATA_written_value k_w_UsageKind_LOCAL_DATA_written_value zc h612 n0 O696 c699 c700 c701 c702 own_os3 E_w_UsageKind_SMS E_w_UsageKind_CALL E_w_UsageKind_DATA S_UsageKind__VALUES E_w_UsageKind__VALUES E_w_UsageKind_LOCAL_DATA V_w_UsageKind__VALUES F_w_UsageKind_SMS_written E_w_UsageKind_SMS_written F_w_UsageKind_CALL_written E_w_UsageKind_CALL_written F_w_UsageKind_DATA_written E_w_UsageKind_DATA_written F_w_UsageKind_LOCAL_DATA_written E_w_UsageKind_LOCAL_DATA_written F_w_UsageKind_SMS_written_value F_w_UsageKind_CALL_written_value F_w_UsageKind_DATA_written_value F_w_UsageKind_LOCAL_DATA_written_value F_w_UsageKind_CALL_written_coder F_w_UsageKind_SMS_written_coder F_w_UsageKind_DATA_written_coder F_w_UsageKind_LOCAL_DATA_written_coder V_w_UsageKind_SMS_written_value V_w_UsageKind_CALL_written_value V_w_UsageKind_DATA_written_value V_w_UsageKind_LOCAL_DATA_written_value SZ PZ) hZ590 (hwk hw 38 rfl) (hwk hw 1 rfl) (by decide) (by decide)) (g := (mkF m 236 #[.val (.int p0), .val (.int p1), .val (.int (p0 &&& (3 : Int32))), .val (.int (p1 &&& (3 : Int32))), .val (.ref w_UsageKind_LOCAL_DATA), .val (.ref a590), .val (.ref b592), .val (.ref w_UsageKind_LOCAL_DATA_written), .unset] [(.ref w_UsageKind_LOCAL_DATA_written)])) rfl (by rw [hml]; rfl) (argsL := [(.ref w_UsageKind_LOCAL_DATA_written)]) (rest := []) (lenOf pd_2 rfl) rfl (by show 2 * 0 + _ ≤ _; exact Nat.le_of_eq rfl) (hb hby at_236) (fun _ _ => ⟨rfl, e697, (by decide : 3 + 1 ≤ _), (by decide : 54 + 4 ≤ _)⟩)
            dsimp only [Pt.U, Pt.locs, Pt.cells, Pt.slots] at X703 l703 y703 z703 st703 hQ703
            subst l703 y703 z703
            unfold Q_rn3 at hQ703
            obtain ⟨rfl, N703q, K703⟩ := hQ703
            have N703 := Fr.app N697 N703q
            have O705 : Old Z n0 T703.heap := Old.keep O696 K703 all0
            have c704 : Fld Z T703.heap w_UsageKind_LOCAL_DATA "com/example/bill_run/billrun/UsageKind" "written" "Ljava/lang/String;" (.ref w_UsageKind_LOCAL_DATA_written) := Fld.ext (O705).2 F_w_UsageKind_LOCAL_DATA_written
            have c707 : Exa Z T703.heap w_UsageKind_LOCAL_DATA "com/example/bill_run/billrun/UsageKind" := Exa.ext (O705).2 E_w_UsageKind_LOCAL_DATA
            obtain ⟨cq706, kq706, q706a, q706b, q706c⟩ := isOf hZ590 (rfl : T703.heap = T703.heap) c707
            obtain ⟨_, _, ⟨T706, L706, k706, n706⟩, -, X706, ⟨Lc706, hQ706, l706, y706, z706⟩, st706⟩ := X703.virtualBack hx (y := (⟨"com/example/bill_run/billrun/UsageKind", "toString", "()Ljava/lang/String;"⟩ : MethodName)) (z := (⟨"com/example/bill_run/billrun/UsageKind", "toString", "()Ljava/lang/String;"⟩ : MethodName)) hown590 (mvT hZ590 (hwk hw 69 rfl)) (mvT hZ590 (hwk hw 70 rfl)) (notFace_of_selects (args := #[]) (mvT hZ590 (hwk hw 72 rfl))) (mvT hZ590 (hwk hw 72 rfl)) (mvT hZ590 (hwk hw 71 rfl)) (by decide) (backOf (W := 0) (rm11 l Z a0 hw [] w_UsageKind_LOCAL_DATA w_UsageKind_LOCAL_DATA_written T703.heap n0 O705 c704) hZ590 (hwk hw 73 rfl) (hwk hw 1 rfl) (by decide) (by decide)) q706a q706c (g := (mkF m 250 #[.val (.int p0), .val (.int p1), .val (.int (p0 &&& (3 : Int32))), .val (.int (p1 &&& (3 : Int32))), .val (.ref w_UsageKind_LOCAL_DATA), .val (.ref a590), .val (.ref b592), .val (.ref w_UsageKind_LOCAL_DATA_written), .val (.ref w_UsageKind_LOCAL_DATA)] [(.ref w_UsageKind_LOCAL_DATA)])) rfl (by rw [hml]; rfl) (Steps.refl _) (argsL := []) (rest := []) (lenOf pd_3 rfl) rfl (by show 2 * 0 + _ ≤ _; exact Nat.le_of_eq rfl) (hb hby at_250) (fun _ _ => ⟨rfl, (rfl : T703.heap = T703.heap), (by decide : 4 + 0 ≤ _), (by decide : 58 + 0 ≤ _)⟩)
            dsimp only [Pt.U, Pt.locs, Pt.cells, Pt.slots] at X706 l706 y706 z706 st706 hQ706
            subst l706 y706 z706
            unfold Q_rm11 at hQ706
            obtain ⟨rfl, N706q, e706⟩ := hQ706
            have N706 := Fr.app N703 N706q
            have hws708 : ∀ d ∈ StrChars.Road.wordsEq, d.before a0 Z = true := fun d hd => hw d ((by decide +kernel : ∀ d ∈ StrChars.Road.wordsEq, d ∈ tables_1) d hd)
            have c709 : Exa Z T703.heap w_UsageKind_LOCAL_DATA_written "java/lang/String" := Exa.ext (O705).2 E_w_UsageKind_LOCAL_DATA_written
            have c710 : Fld Z T703.heap w_UsageKind_LOCAL_DATA_written "java/lang/String" "value" "[B" (.ref w_UsageKind_LOCAL_DATA_written_value) := Fld.ext (O705).2 F_w_UsageKind_LOCAL_DATA_written_value
            have c711 : Fld Z T703.heap w_UsageKind_LOCAL_DATA_written "java/lang/String" "coder" "B" (.int (0 : Int32)) := Fld.ext (O705).2 F_w_UsageKind_LOCAL_DATA_written_coder
            have c712 : Arv Z T703.heap w_UsageKind_LOCAL_DATA_written_value k_w_UsageKind_LOCAL_DATA_written_value .byte (10 : Int32) [(.int (108 : Int32)), (.int (111 : Int32)), (.int (99 : Int32)), (.int (97 : Int32)), (.int (108 : Int32)), (.int (45 : Int32)), (.int (100 : Int32)), (.int (97 : Int32)), (.int (116 : Int32)), (.int (97 : Int32))] (.int (0 : Int32)) := V_w_UsageKind_LOCAL_DATA_written_value.ext O705.2
            have c713 : Exa Z T703.heap a590 "java/lang/String" := (Exa.keep (Exa.wr W612 (Exa.wr W610 (Exa.wr W608 (Exa.wr W606 (Exa.wr W604 (Exa.wr W602 (Exa.wr W600 (Exa.wr W598 (Exa.wr W596 (Exa.wr W594 (Exa.ext E592 Ex590))))))))))) K703)
            have c714 : Fld Z T703.heap a590 "java/lang/String" "value" "[B" (.ref b590) := (Fld.keep (Fld.other W612 (Fld.other W610 (Fld.other W608 (Fld.other W606 (Fld.other W604 (Fld.other W602 (Fld.other W600 (Fld.other W598 (Fld.other W596 (Fld.other W594 (Fld.ext E592 Fv590) (Or.inl (Nat.ne_of_lt (Nat.lt_of_lt_of_le (Ex590).lt (Nat.le_of_eq g592.symm))))) (Or.inl (Nat.ne_of_lt (Nat.lt_of_lt_of_le (Ex590).lt (Nat.le_of_eq g592.symm))))) (Or.inl (Nat.ne_of_lt (Nat.lt_of_lt_of_le (Ex590).lt (Nat.le_of_eq g592.symm))))) (Or.inl (Nat.ne_of_lt (Nat.lt_of_lt_of_le (Ex590).lt (Nat.le_of_eq g592.symm))))) (Or.inl (Nat.ne_of_lt (Nat.lt_of_lt_of_le (Ex590).lt (Nat.le_of_eq g592.symm))))) (Or.inl (Nat.ne_of_lt (Nat.lt_of_lt_of_le (Ex590).lt (Nat.le_of_eq g592.symm))))) (Or.inl (Nat.ne_of_lt (Nat.lt_of_lt_of_le (Ex590).lt (Nat.le_of_eq g592.symm))))) (Or.inl (Nat.ne_of_lt (Nat.lt_of_lt_of_le (Ex590).lt (Nat.le_of_eq g592.symm))))) (Or.inl (Nat.ne_of_lt (Nat.lt_of_lt_of_le (Ex590).lt (Nat.le_of_eq g592.symm))))) (Or.inl (Nat.ne_of_lt (Nat.lt_of_lt_of_le (Ex590).lt (Nat.le_of_eq g592.symm))))) K703 nin0)
            have c715 : Fld Z T703.heap a590 "java/lang/String" "coder" "B" (.int (0 : Int32)) := (Fld.keep (Fld.other W612 (Fld.other W610 (Fld.other W608 (Fld.other W606 (Fld.other W604 (Fld.other W602 (Fld.other W600 (Fld.other W598 (Fld.other W596 (Fld.other W594 (Fld.ext E592 Fc590) (Or.inl (Nat.ne_of_lt (Nat.lt_of_lt_of_le (Ex590).lt (Nat.le_of_eq g592.symm))))) (Or.inl (Nat.ne_of_lt (Nat.lt_of_lt_of_le (Ex590).lt (Nat.le_of_eq g592.symm))))) (Or.inl (Nat.ne_of_lt (Nat.lt_of_lt_of_le (Ex590).lt (Nat.le_of_eq g592.symm))))) (Or.inl (Nat.ne_of_lt (Nat.lt_of_lt_of_le (Ex590).lt (Nat.le_of_eq g592.symm))))) (Or.inl (Nat.ne_of_lt (Nat.lt_of_lt_of_le (Ex590).lt (Nat.le_of_eq g592.symm))))) (Or.inl (Nat.ne_of_lt (Nat.lt_of_lt_of_le (Ex590).lt (Nat.le_of_eq g592.symm))))) (Or.inl (Nat.ne_of_lt (Nat.lt_of_lt_of_le (Ex590).lt (Nat.le_of_eq g592.symm))))) (Or.inl (Nat.ne_of_lt (Nat.lt_of_lt_of_le (Ex590).lt (Nat.le_of_eq g592.symm))))) (Or.inl (Nat.ne_of_lt (Nat.lt_of_lt_of_le (Ex590).lt (Nat.le_of_eq g592.symm))))) (Or.inl (Nat.ne_of_lt (Nat.lt_of_lt_of_le (Ex590).lt (Nat.le_of_eq g592.symm))))) K703 nin0)
            have c716 : Arv Z T703.heap b590 kc590 .byte (10 : Int32) [(.int (108 : Int32)), (.int (111 : Int32)), (.int (99 : Int32)), (.int (97 : Int32)), (.int (108 : Int32)), (.int (45 : Int32)), (.int (100 : Int32)), (.int (97 : Int32)), (.int (116 : Int32)), (.int (97 : Int32))] (.int 0) := (Arv.keep (Arv.other (Arv.other (Arv.other (Arv.other (Arv.other (Arv.other (Arv.other (Arv.other (Arv.other (Arv.other (Av590.ext E592) W594 (Nat.ne_of_lt (Nat.lt_of_lt_of_le (Av590).lt (Nat.le_of_eq g592.symm)))) W596 (Nat.ne_of_lt (Nat.lt_of_lt_of_le (Av590).lt (Nat.le_of_eq g592.symm)))) W598 (Nat.ne_of_lt (Nat.lt_of_lt_of_le (Av590).lt (Nat.le_of_eq g592.symm)))) W600 (Nat.ne_of_lt (Nat.lt_of_lt_of_le (Av590).lt (Nat.le_of_eq g592.symm)))) W602 (Nat.ne_of_lt (Nat.lt_of_lt_of_le (Av590).lt (Nat.le_of_eq g592.symm)))) W604 (Nat.ne_of_lt (Nat.lt_of_lt_of_le (Av590).lt (Nat.le_of_eq g592.symm)))) W606 (Nat.ne_of_lt (Nat.lt_of_lt_of_le (Av590).lt (Nat.le_of_eq g592.symm)))) W608 (Nat.ne_of_lt (Nat.lt_of_lt_of_le (Av590).lt (Nat.le_of_eq g592.symm)))) W610 (Nat.ne_of_lt (Nat.lt_of_lt_of_le (Av590).lt (Nat.le_of_eq g592.symm)))) W612 (Nat.ne_of_lt (Nat.lt_of_lt_of_le (Av590).lt (Nat.le_of_eq g592.symm)))) K703 nin0)
            have c717 : Sta Z T703.heap "java/lang/String" "COMPACT_STRINGS" "Z" (.int zc) := Sta.ext (O705).2 SZ
            obtain ⟨cq718, kq718, q718a, q718b, q718c⟩ := isOf hZ590 e706 c709
            obtain ⟨_, _, ⟨T718, L718, k718, n718⟩, -, X718, ⟨Lc718, hQ718, l718, y718, z718⟩, st718⟩ := X706.virtualBack hx (y := (⟨"java/lang/String", "equals", "(Ljava/lang/Object;)Z"⟩ : MethodName)) (z := (⟨"java/lang/String", "equals", "(Ljava/lang/Object;)Z"⟩ : MethodName)) hown590 (mvT hZ590 (hwk hw 74 rfl)) (mvT hZ590 (hwk hw 60 rfl)) (notFace_of_selects (args := #[]) (mvT hZ590 (hwk hw 62 rfl))) (mvT hZ590 (hwk hw 62 rfl)) (mvT hZ590 (hwk hw 61 rfl)) (by decide) (StrChars.Road.eqW (W := 0) hZ590 hws708 (kI := 4) (hwk hw 5 rfl) c709 c710 c711 c712 own_os3.1 own_os3.2.1 own_os3.2.2 c713 c714 c715 c716 own_os3.1 own_os3.2.1 own_os3.2.2 c717 PZ (by decide) (by decide)) q718a q718c (g := (mkF m 255 #[.val (.int p0), .val (.int p1), .val (.int (p0 &&& (3 : Int32))), .val (.int (p1 &&& (3 : Int32))), .val (.ref w_UsageKind_LOCAL_DATA), .val (.ref a590), .val (.ref b592), .val (.ref w_UsageKind_LOCAL_DATA_written), .val (.ref w_UsageKind_LOCAL_DATA)] [(.ref a590), (.ref w_UsageKind_LOCAL_DATA_written)])) rfl (by rw [hml]; rfl) (Steps.refl _) (argsL := [(.ref a590)]) (rest := []) (lenOf pd_1 rfl) rfl (by show 2 * 0 + _ ≤ _; exact Nat.le_of_eq rfl) (hb hby at_255) (fun _ _ => ⟨rfl, e706, (by decide : 4 + 0 ≤ _), (by decide : 58 + 0 ≤ _)⟩)
            dsimp only [Pt.U, Pt.locs, Pt.cells, Pt.slots] at X718 l718 y718 z718 st718 hQ718
            subst l718 y718 z718
            obtain ⟨hv718, hl718, e718⟩ := hQ718
            cases own_vm hv718
            have N718 := Fr.app N706 (own_frnil hl718)
            have K719 : Keep h0 h590 [] := Keep.ext (Keep.refl h0 []) E590
            have K720 : Keep h0 h592 [] := Keep.ext K719 E592
            have K721 : Keep h0 h594 [] := Keep.wr K720 W594 (Or.inr (Nat.le_trans (Nat.le_trans (Nat.le_refl _) E590.1) (Nat.le_of_eq g592.symm)))
            have K722 : Keep h0 h596 [] := Keep.wr K721 W596 (Or.inr (Nat.le_trans (Nat.le_trans (Nat.le_refl _) E590.1) (Nat.le_of_eq g592.symm)))
            have K723 : Keep h0 h598 [] := Keep.wr K722 W598 (Or.inr (Nat.le_trans (Nat.le_trans (Nat.le_refl _) E590.1) (Nat.le_of_eq g592.symm)))
            have K724 : Keep h0 h600 [] := Keep.wr K723 W600 (Or.inr (Nat.le_trans (Nat.le_trans (Nat.le_refl _) E590.1) (Nat.le_of_eq g592.symm)))
            have K725 : Keep h0 h602 [] := Keep.wr K724 W602 (Or.inr (Nat.le_trans (Nat.le_trans (Nat.le_refl _) E590.1) (Nat.le_of_eq g592.symm)))
            have K726 : Keep h0 h604 [] := Keep.wr K725 W604 (Or.inr (Nat.le_trans (Nat.le_trans (Nat.le_refl _) E590.1) (Nat.le_of_eq g592.symm)))
            have K727 : Keep h0 h606 [] := Keep.wr K726 W606 (Or.inr (Nat.le_trans (Nat.le_trans (Nat.le_refl _) E590.1) (Nat.le_of_eq g592.symm)))
            have K728 : Keep h0 h608 [] := Keep.wr K727 W608 (Or.inr (Nat.le_trans (Nat.le_trans (Nat.le_refl _) E590.1) (Nat.le_of_eq g592.symm)))
            have K729 : Keep h0 h610 [] := Keep.wr K728 W610 (Or.inr (Nat.le_trans (Nat.le_trans (Nat.le_refl _) E590.1) (Nat.le_of_eq g592.symm)))
            have K730 : Keep h0 h612 [] := Keep.wr K729 W612 (Or.inr (Nat.le_trans (Nat.le_trans (Nat.le_refl _) E590.1) (Nat.le_of_eq g592.symm)))
            have K731 : Keep h0 T703.heap [] := Keep.trans K730 K703 all0
            have CR732 : CHr Z consts_1 s.vm h0 T590.vm h590 := CHr.trans CR0 CX590
            have CR733 : CHr Z consts_1 s.vm h0 T590.vm h592 := CHr.trans CR732 (CHr.ext E592 CR732.1)
            have Sf734 : Safe Z consts_1 T590.vm h590 b592 := Safe.new (Nat.le_of_eq g592.symm)
            have Sf735 : Safe Z consts_1 T590.vm h592 b592 := (Safe.ext E592 CR732.1 Sf734)
            have CR736 : CHr Z consts_1 s.vm h0 T590.vm h594 := CHr.trans CR733 (CHr.wr W594 Sf735 CR733.1)
            have Sf737 : Safe Z consts_1 T590.vm h594 b592 := (Safe.wr W594 Sf735 CR733.1 Sf735)
            have CR738 : CHr Z consts_1 s.vm h0 T590.vm h596 := CHr.trans CR736 (CHr.wr W596 Sf737 CR736.1)
            have Sf739 : Safe Z consts_1 T590.vm h596 b592 := (Safe.wr W596 Sf737 CR736.1 Sf737)
            have CR740 : CHr Z consts_1 s.vm h0 T590.vm h598 := CHr.trans CR738 (CHr.wr W598 Sf739 CR738.1)
            have Sf741 : Safe Z consts_1 T590.vm h598 b592 := (Safe.wr W598 Sf739 CR738.1 Sf739)
            have CR742 : CHr Z consts_1 s.vm h0 T590.vm h600 := CHr.trans CR740 (CHr.wr W600 Sf741 CR740.1)
            have Sf743 : Safe Z consts_1 T590.vm h600 b592 := (Safe.wr W600 Sf741 CR740.1 Sf741)
            have CR744 : CHr Z consts_1 s.vm h0 T590.vm h602 := CHr.trans CR742 (CHr.wr W602 Sf743 CR742.1)
            have Sf745 : Safe Z consts_1 T590.vm h602 b592 := (Safe.wr W602 Sf743 CR742.1 Sf743)
            have CR746 : CHr Z consts_1 s.vm h0 T590.vm h604 := CHr.trans CR744 (CHr.wr W604 Sf745 CR744.1)
            have Sf747 : Safe Z consts_1 T590.vm h604 b592 := (Safe.wr W604 Sf745 CR744.1 Sf745)
            have CR748 : CHr Z consts_1 s.vm h0 T590.vm h606 := CHr.trans CR746 (CHr.wr W606 Sf747 CR746.1)
            have Sf749 : Safe Z consts_1 T590.vm h606 b592 := (Safe.wr W606 Sf747 CR746.1 Sf747)
            have CR750 : CHr Z consts_1 s.vm h0 T590.vm h608 := CHr.trans CR748 (CHr.wr W608 Sf749 CR748.1)
            have Sf751 : Safe Z consts_1 T590.vm h608 b592 := (Safe.wr W608 Sf749 CR748.1 Sf749)
            have CR752 : CHr Z consts_1 s.vm h0 T590.vm h610 := CHr.trans CR750 (CHr.wr W610 Sf751 CR750.1)
            have Sf753 : Safe Z consts_1 T590.vm h610 b592 := (Safe.wr W610 Sf751 CR750.1 Sf751)
            have CR754 : CHr Z consts_1 s.vm h0 T590.vm h612 := CHr.trans CR752 (CHr.wr W612 Sf753 CR752.1)
            have CR755 : CHr Z consts_1 s.vm h0 T590.vm T703.heap := CHr.trans CR754 (CHr.keep K703 all0 CR754.1)
            obtain ⟨fs, hr, hrun, hended, hRE⟩ := X718.leaveW hS590 (show _ ≤ T718.heap.size from by rw [e718]; exact (Nat.le_trans hk590 (Nat.le_trans (Nat.le_trans (Nat.le_trans (Nat.le_trans (Nat.le_trans (Nat.le_trans (Nat.le_trans (Nat.le_trans (Nat.le_trans (Nat.le_trans (Nat.le_trans (Nat.le_trans (Nat.le_refl _) E592.1) (Nat.le_of_eq W594.size.symm)) (Nat.le_of_eq W596.size.symm)) (Nat.le_of_eq W598.size.symm)) (Nat.le_of_eq W600.size.symm)) (Nat.le_of_eq W602.size.symm)) (Nat.le_of_eq W604.size.symm)) (Nat.le_of_eq W606.size.symm)) (Nat.le_of_eq W608.size.symm)) (Nat.le_of_eq W610.size.symm)) (Nat.le_of_eq W612.size.symm)) K703.1))) (v := some (.int (1 : Int32))) (fun h => by rw [Bd.returns] at h; cases h)
            have CRl : CHr Z consts_1 s.vm s.heap (T718.setFrames fs).vm (T718.setFrames fs).heap := by
              have q := CHr.trans CR755 (CHv.at X718 hZ590 hEL CR755.1)
              rw [← hh, ← e718] at q
              exact q
            refine ⟨_, _, S684 _ ?_, hrun, hended, _, _, rfl, ?_, CRl, hRE.1, hRE.2.1, hRE.2.2.1, hRE.2.2.2.mono (by decide) (by decide)⟩
            · show Steps p.tables e below (T612.setTop (mkF m 210 #[.val (.int p0), .val (.int p1), .val (.int (p0 &&& (3 : Int32))), .val (.int (p1 &&& (3 : Int32))), .val (.ref w_UsageKind_LOCAL_DATA), .val (.ref a590), .val (.ref b592), .unset, .unset] [(.int (2 : Int32)), (.int (p1 &&& (3 : Int32)))])) _
              refine XS.icmpNo X612.here hx rfl (hb hby at_210) rfl (teq hc683).2 ?_
              show Steps p.tables e below (T612.setTop (mkF m 213 #[.val (.int p0), .val (.int p1), .val (.int (p0 &&& (3 : Int32))), .val (.int (p1 &&& (3 : Int32))), .val (.ref w_UsageKind_LOCAL_DATA), .val (.ref a590), .val (.ref b592), .unset, .unset] [])) _
              refine XS.aload X612.here hx rfl (hb hby at_213) rfl rfl ?_
              show Steps p.tables e below (T612.setTop (mkF m 215 #[.val (.int p0), .val (.int p1), .val (.int (p0 &&& (3 : Int32))), .val (.int (p1 &&& (3 : Int32))), .val (.ref w_UsageKind_LOCAL_DATA), .val (.ref a590), .val (.ref b592), .unset, .unset] [(.ref w_UsageKind_LOCAL_DATA)])) _
              refine st697.trans ?_
              show Steps p.tables e below (T697.setTop (mkF m 218 #[.val (.int p0), .val (.int p1), .val (.int (p0 &&& (3 : Int32))), .val (.int (p1 &&& (3 : Int32))), .val (.ref w_UsageKind_LOCAL_DATA), .val (.ref a590), .val (.ref b592), .unset, .unset] [(.ref w_UsageKind_LOCAL_DATA_written)])) _
              refine XS.astore X697.here hx rfl (hb hby at_218) rfl rfl (l' := #[.val (.int p0), .val (.int p1), .val (.int (p0 &&& (3 : Int32))), .val (.int (p1 &&& (3 : Int32))), .val (.ref w_UsageKind_LOCAL_DATA), .val (.ref a590), .val (.ref b592), .val (.ref w_UsageKind_LOCAL_DATA_written), .unset]) rfl ?_
              show Steps p.tables e below (T697.setTop (mkF m 220 #[.val (.int p0), .val (.int p1), .val (.int (p0 &&& (3 : Int32))), .val (.int (p1 &&& (3 : Int32))), .val (.ref w_UsageKind_LOCAL_DATA), .val (.ref a590), .val (.ref b592), .val (.ref w_UsageKind_LOCAL_DATA_written), .unset] [])) _
              refine XS.goto X697.here hx rfl (pc0 := 220) (pc' := 234) rfl (hb hby at_220) (by decide) (by decide) ?_
              show Steps p.tables e below (T697.setTop (mkF m 234 #[.val (.int p0), .val (.int p1), .val (.int (p0 &&& (3 : Int32))), .val (.int (p1 &&& (3 : Int32))), .val (.ref w_UsageKind_LOCAL_DATA), .val (.ref a590), .val (.ref b592), .val (.ref w_UsageKind_LOCAL_DATA_written), .unset] [])) _
              refine XS.aload X697.here hx rfl (hb hby at_234) rfl rfl ?_
              show Steps p.tables e below (T697.setTop (mkF m 236 #[.val (.int p0), .val (.int p1), .val (.int (p0 &&& (3 : Int32))), .val (.int (p1 &&& (3 : Int32))), .val (.ref w_UsageKind_LOCAL_DATA), .val (.ref a590), .val (.ref b592), .val (.ref w_UsageKind_LOCAL_DATA_written), .unset] [(.ref w_UsageKind_LOCAL_DATA_written)])) _
              refine st703 _ ?_
              show Steps p.tables e below (T703.setTop (mkF m 239 #[.val (.int p0), .val (.int p1), .val (.int (p0 &&& (3 : Int32))), .val (.int (p1 &&& (3 : Int32))), .val (.ref w_UsageKind_LOCAL_DATA), .val (.ref a590), .val (.ref b592), .val (.ref w_UsageKind_LOCAL_DATA_written), .unset] [(.ref w_UsageKind_LOCAL_DATA)])) _
              refine XS.astore X703.here hx rfl (hb hby at_239) rfl rfl (l' := #[.val (.int p0), .val (.int p1), .val (.int (p0 &&& (3 : Int32))), .val (.int (p1 &&& (3 : Int32))), .val (.ref w_UsageKind_LOCAL_DATA), .val (.ref a590), .val (.ref b592), .val (.ref w_UsageKind_LOCAL_DATA_written), .val (.ref w_UsageKind_LOCAL_DATA)]) rfl ?_
              show Steps p.tables e below (T703.setTop (mkF m 241 #[.val (.int p0), .val (.int p1), .val (.int (p0 &&& (3 : Int32))), .val (.int (p1 &&& (3 : Int32))), .val (.ref w_UsageKind_LOCAL_DATA), .val (.ref a590), .val (.ref b592), .val (.ref w_UsageKind_LOCAL_DATA_written), .val (.ref w_UsageKind_LOCAL_DATA)] [])) _
              refine XS.aload X703.here hx rfl (hb hby at_241) rfl rfl ?_
              show Steps p.tables e below (T703.setTop (mkF m 243 #[.val (.int p0), .val (.int p1), .val (.int (p0 &&& (3 : Int32))), .val (.int (p1 &&& (3 : Int32))), .val (.ref w_UsageKind_LOCAL_DATA), .val (.ref a590), .val (.ref b592), .val (.ref w_UsageKind_LOCAL_DATA_written), .val (.ref w_UsageKind_LOCAL_DATA)] [(.ref w_UsageKind_LOCAL_DATA)])) _
              refine XS.aload X703.here hx rfl (hb hby at_243) rfl rfl ?_
              show Steps p.tables e below (T703.setTop (mkF m 245 #[.val (.int p0), .val (.int p1), .val (.int (p0 &&& (3 : Int32))), .val (.int (p1 &&& (3 : Int32))), .val (.ref w_UsageKind_LOCAL_DATA), .val (.ref a590), .val (.ref b592), .val (.ref w_UsageKind_LOCAL_DATA_written), .val (.ref w_UsageKind_LOCAL_DATA)] [(.ref w_UsageKind_LOCAL_DATA), (.ref w_UsageKind_LOCAL_DATA)])) _
              refine Jvm.RoadKit.acmp (g := (mkF m 245 #[.val (.int p0), .val (.int p1), .val (.int (p0 &&& (3 : Int32))), .val (.int (p1 &&& (3 : Int32))), .val (.ref w_UsageKind_LOCAL_DATA), .val (.ref a590), .val (.ref b592), .val (.ref w_UsageKind_LOCAL_DATA_written), .val (.ref w_UsageKind_LOCAL_DATA)] [(.ref w_UsageKind_LOCAL_DATA), (.ref w_UsageKind_LOCAL_DATA)])) X703 hx rfl rfl rfl (pc0 := 245) (pc' := 248) (same := true) rfl (hb hby at_245) rfl (decide_eq_true rfl) (by decide) (by decide) ?_
              show Steps p.tables e below (T703.setTop (mkF m 248 #[.val (.int p0), .val (.int p1), .val (.int (p0 &&& (3 : Int32))), .val (.int (p1 &&& (3 : Int32))), .val (.ref w_UsageKind_LOCAL_DATA), .val (.ref a590), .val (.ref b592), .val (.ref w_UsageKind_LOCAL_DATA_written), .val (.ref w_UsageKind_LOCAL_DATA)] [])) _
              refine XS.aload X703.here hx rfl (hb hby at_248) rfl rfl ?_
              show Steps p.tables e below (T703.setTop (mkF m 250 #[.val (.int p0), .val (.int p1), .val (.int (p0 &&& (3 : Int32))), .val (.int (p1 &&& (3 : Int32))), .val (.ref w_UsageKind_LOCAL_DATA), .val (.ref a590), .val (.ref b592), .val (.ref w_UsageKind_LOCAL_DATA_written), .val (.ref w_UsageKind_LOCAL_DATA)] [(.ref w_UsageKind_LOCAL_DATA)])) _
              refine st706.trans ?_
              show Steps p.tables e below (T706.setTop (mkF m 253 #[.val (.int p0), .val (.int p1), .val (.int (p0 &&& (3 : Int32))), .val (.int (p1 &&& (3 : Int32))), .val (.ref w_UsageKind_LOCAL_DATA), .val (.ref a590), .val (.ref b592), .val (.ref w_UsageKind_LOCAL_DATA_written), .val (.ref w_UsageKind_LOCAL_DATA)] [(.ref w_UsageKind_LOCAL_DATA_written)])) _
              refine XS.aload X706.here hx rfl (hb hby at_253) rfl rfl ?_
              show Steps p.tables e below (T706.setTop (mkF m 255 #[.val (.int p0), .val (.int p1), .val (.int (p0 &&& (3 : Int32))), .val (.int (p1 &&& (3 : Int32))), .val (.ref w_UsageKind_LOCAL_DATA), .val (.ref a590), .val (.ref b592), .val (.ref w_UsageKind_LOCAL_DATA_written), .val (.ref w_UsageKind_LOCAL_DATA)] [(.ref a590), (.ref w_UsageKind_LOCAL_DATA_written)])) _
              refine st718.trans ?_
              show Steps p.tables e below (T718.setTop (mkF m 258 #[.val (.int p0), .val (.int p1), .val (.int (p0 &&& (3 : Int32))), .val (.int (p1 &&& (3 : Int32))), .val (.ref w_UsageKind_LOCAL_DATA), .val (.ref a590), .val (.ref b592), .val (.ref w_UsageKind_LOCAL_DATA_written), .val (.ref w_UsageKind_LOCAL_DATA)] [(.int (VM [(108 : Int32), (111 : Int32), (99 : Int32), (97 : Int32), (108 : Int32), (45 : Int32), (100 : Int32), (97 : Int32), (116 : Int32), (97 : Int32)] [(108 : Int32), (111 : Int32), (99 : Int32), (97 : Int32), (108 : Int32), (45 : Int32), (100 : Int32), (97 : Int32), (116 : Int32), (97 : Int32)]))])) _
              refine XS.ifNo X718.here hx rfl (hb hby at_258) rfl ((if0 _ _).trans (feq (own_vm0 _ : ¬ ((VM [(108 : Int32), (111 : Int32), (99 : Int32), (97 : Int32), (108 : Int32), (45 : Int32), (100 : Int32), (97 : Int32), (116 : Int32), (97 : Int32)] [(108 : Int32), (111 : Int32), (99 : Int32), (97 : Int32), (108 : Int32), (45 : Int32), (100 : Int32), (97 : Int32), (116 : Int32), (97 : Int32)]) = (0 : Int32)))).1) ?_
              show Steps p.tables e below (T718.setTop (mkF m 261 #[.val (.int p0), .val (.int p1), .val (.int (p0 &&& (3 : Int32))), .val (.int (p1 &&& (3 : Int32))), .val (.ref w_UsageKind_LOCAL_DATA), .val (.ref a590), .val (.ref b592), .val (.ref w_UsageKind_LOCAL_DATA_written), .val (.ref w_UsageKind_LOCAL_DATA)] [])) _
              refine XS.iconst X718.here hx rfl (hb hby at_261) ?_
              show Steps p.tables e below (T718.setTop (mkF m 262 #[.val (.int p0), .val (.int p1), .val (.int (p0 &&& (3 : Int32))), .val (.int (p1 &&& (3 : Int32))), .val (.ref w_UsageKind_LOCAL_DATA), .val (.ref a590), .val (.ref b592), .val (.ref w_UsageKind_LOCAL_DATA_written), .val (.ref w_UsageKind_LOCAL_DATA)] [(.int (1 : Int32))])) _
              refine XS.goto X718.here hx rfl (pc0 := 262) (pc' := 266) rfl (hb hby at_262) (by decide) (by decide) ?_
              show Steps p.tables e below (T718.setTop (mkF m 266 #[.val (.int p0), .val (.int p1), .val (.int (p0 &&& (3 : Int32))), .val (.int (p1 &&& (3 : Int32))), .val (.ref w_UsageKind_LOCAL_DATA), .val (.ref a590), .val (.ref b592), .val (.ref w_UsageKind_LOCAL_DATA_written), .val (.ref w_UsageKind_LOCAL_DATA)] [(.int (1 : Int32))])) _
              exact Jvm.RoadKit.retOut X718 hx Bd.returns rfl (Or.inl ⟨rfl, by simp, _, rfl⟩) (hb hby at_266) hr
            · show Q_rm0 Z p0 p1 w_UsageKind_SMS w_UsageKind_CALL w_UsageKind_DATA w_UsageKind__VALUES w_UsageKind_LOCAL_DATA w_UsageKind_SMS_written w_UsageKind_CALL_written w_UsageKind_DATA_written w_UsageKind_LOCAL_DATA_written w_UsageKind_SMS_written_value w_UsageKind_CALL_written_value w_UsageKind_DATA_written_value w_UsageKind_LOCAL_DATA_written_value k_w_UsageKind__VALUES k_w_UsageKind_SMS_written_value k_w_UsageKind_CALL_written_value k_w_UsageKind_DATA_written_value k_w_UsageKind_LOCAL_DATA_written_value zc h0 n0 _ T718.heap _
              rw [e718]
              unfold Q_rm0
              exact ⟨rfl, N718, K731⟩
          · have O756 : Old Z n0 h592 := Old.ext O591 E592
            have O757 : Old Z n0 h594 := Old.wr O756 W594 g_b592
            have O758 : Old Z n0 h596 := Old.wr O757 W596 g_b592
            have O759 : Old Z n0 h598 := Old.wr O758 W598 g_b592
            have O760 : Old Z n0 h600 := Old.wr O759 W600 g_b592
            have O761 : Old Z n0 h602 := Old.wr O760 W602 g_b592
            have O762 : Old Z n0 h604 := Old.wr O761 W604 g_b592
            have O763 : Old Z n0 h606 := Old.wr O762 W606 g_b592
            have O764 : Old Z n0 h608 := Old.wr O763 W608 g_b592
            have O765 : Old Z n0 h610 := Old.wr O764 W610 g_b592
            have O766 : Old Z n0 h612 := Old.wr O765 W612 g_b592
            obtain ⟨T767, h767, X767, e767, E767, A767, D767, -, st767⟩ := newO X612 hx hZ590 hown590 (hwk hw 12 rfl) (hwk hw 5 rfl) (hwk hw 4 rfl) e612 (g := (mkF m 223 #[.val (.int p0), .val (.int p1), .val (.int (p0 &&& (3 : Int32))), .val (.int (p1 &&& (3 : Int32))), .val (.ref w_UsageKind_LOCAL_DATA), .val (.ref a590), .val (.ref b592), .unset, .unset] [])) rfl (hb hby at_223) (by decide) (by decide)
            obtain ⟨b767, g767⟩ : ∃ z, z = h612.size := ⟨_, rfl⟩
            rw [← g767] at A767 D767 st767
            have g_b767 : n0 ≤ b767 := Nat.le_trans (old_le O766) (Nat.le_of_eq g767.symm)
            have hp768 : ∀ c ∈ ([(nar .char (108 : Int32)), (nar .char (111 : Int32)), (nar .char (99 : Int32)), (nar .char (97 : Int32)), (nar .char (108 : Int32)), (nar .char (45 : Int32)), (nar .char (100 : Int32)), (nar .char (97 : Int32)), (nar .char (116 : Int32)), (nar .char (97 : Int32))] : List Int32), ¬ c < 0 ∧ ¬ (255 : Int32) < c := by decide
            have hws769 : ∀ d ∈ StrChars.Road.words, d.before a0 Z = true := fun d hd => hw d ((by decide +kernel : ∀ d ∈ StrChars.Road.words, d ∈ tables_1) d hd)
            have O770 : Old Z n0 h767 := Old.ext O766 E767
            have c771 : Arv Z h767 b592 k592 .char (10 : Int32) [(.int (nar .char (108 : Int32))), (.int (nar .char (111 : Int32))), (.int (nar .char (99 : Int32))), (.int (nar .char (97 : Int32))), (.int (nar .char (108 : Int32))), (.int (nar .char (45 : Int32))), (.int (nar .char (100 : Int32))), (.int (nar .char (97 : Int32))), (.int (nar .char (116 : Int32))), (.int (nar .char (97 : Int32)))] (.int (0 : Int32)) := (V612.ext E767)
            have c772 : Sta Z h767 "java/lang/String" "COMPACT_STRINGS" "Z" (.int zc) := Sta.ext (O770).2 SZ
            obtain ⟨_, _, ⟨T773, L773, k773, n773⟩, -, X773, ⟨Lc773, hQ773, l773, y773, z773⟩, st773⟩ := X767.specialBack hx (y := (⟨"java/lang/String", "<init>", "([C)V"⟩ : MethodName)) rfl hown590 (mvT hZ590 (hwk hw 13 rfl)) (mvT hZ590 (hwk hw 14 rfl)) (mvT hZ590 (hwk hw 15 rfl)) (by decide) (StrChars.Road.backV (W := 1) hZ590 hws769 (kI := 4) (hwk hw 5 rfl) (cs := ([(nar .char (108 : Int32)), (nar .char (111 : Int32)), (nar .char (99 : Int32)), (nar .char (97 : Int32)), (nar .char (108 : Int32)), (nar .char (45 : Int32)), (nar .char (100 : Int32)), (nar .char (97 : Int32)), (nar .char (116 : Int32)), (nar .char (97 : Int32))] : List Int32)) (bs := (([(nar .char (108 : Int32)), (nar .char (111 : Int32)), (nar .char (99 : Int32)), (nar .char (97 : Int32)), (nar .char (108 : Int32)), (nar .char (45 : Int32)), (nar .char (100 : Int32)), (nar .char (97 : Int32)), (nar .char (116 : Int32)), (nar .char (97 : Int32))] : List Int32)).map (fun c => c.toInt8.toInt32)) (n := 10) g_b767 (old_le O770) A767 (show Fld Z h767 b767 "java/lang/String" "value" "[B" .null from D767 (Or.inr (hwk hw 7 rfl)) (ty := (.array .byte)) (by decide)) (show Fld Z h767 b767 "java/lang/String" "coder" "B" (.int (0 : Int32)) from D767 (Or.inr (hwk hw 8 rfl)) (ty := .byte) (by decide)) c771 c772 PZ rfl rfl (by decide) (by decide) hp768 rfl (by decide) (by decide)) (g := (mkF m 229 #[.val (.int p0), .val (.int p1), .val (.int (p0 &&& (3 : Int32))), .val (.int (p1 &&& (3 : Int32))), .val (.ref w_UsageKind_LOCAL_DATA), .val (.ref a590), .val (.ref b592), .unset, .unset] [(.ref b592), (.ref b767), (.ref b767)])) rfl (by rw [hml]; rfl) (Steps.refl _) (a := b767) (argsL := [(.ref b592)]) (rest := [(.ref b767)]) (lenOf pd_4 rfl) rfl (by show 2 * 0 + _ ≤ _; exact Nat.le_of_eq rfl) (hb hby at_229) (fun _ _ => ⟨rfl, e767, (by decide : 4 + 1 ≤ _), (by decide : 58 + 10 ≤ _)⟩)
            dsimp only [Pt.U, Pt.locs, Pt.cells, Pt.slots] at X773 l773 y773 z773 st773 hQ773
            subst l773 y773 z773
            unfold StrChars.Road.QV at hQ773
            obtain ⟨rfl, N773q, K773, E773x, C773, t773, kb773, g_t773, ge_t773, ne773, V773, A773⟩ := hQ773
            have N773 := Fr.app N612 N773q
            have OS774 : OwnStr [(108 : Int32), (111 : Int32), (99 : Int32), (97 : Int32), (108 : Int32), (45 : Int32), (100 : Int32), (97 : Int32), (116 : Int32), (97 : Int32)] (10 : Int32) (((([(nar .char (108 : Int32)), (nar .char (111 : Int32)), (nar .char (99 : Int32)), (nar .char (97 : Int32)), (nar .char (108 : Int32)), (nar .char (45 : Int32)), (nar .char (100 : Int32)), (nar .char (97 : Int32)), (nar .char (116 : Int32)), (nar .char (97 : Int32))] : List Int32)).map (fun c => c.toInt8.toInt32)).map Value.int) := own_s255c hp768 (by decide) (by decide)
            have O775 : Old Z n0 T773.heap := Old.keep O770 K773 (allS g_b767 all0)
            obtain ⟨_, _, ⟨T776, L776, k776, n776⟩, -, X776, ⟨Lc776, hQ776, l776, y776, z776⟩, st776⟩ := Jvm.LawKit.callS X773 hx (y := (⟨"com/example/bill_run/billrun/UsageKind", "named", "(Ljava/lang/String;)Lcom/example/bill_run/billrun/UsageKind;"⟩ : MethodName)) hown590 (mvT hZ590 (hwk hw 36 rfl)) (mvT hZ590 (hwk hw 37 rfl)) (mvT hZ590 (hwk hw 1 rfl)) (mvT hZ590 (hwk hw 38 rfl)) (by decide) (backOf (W := 0) (rn3 l Z a0 hw [] b767 t773 kb773 (10 : Int32) (((([(nar .char (108 : Int32)), (nar .char (111 : Int32)), (nar .char (99 : Int32)), (nar .char (97 : Int32)), (nar .char (108 : Int32)), (nar .char (45 : Int32)), (nar .char (100 : Int32)), (nar .char (97 : Int32)), (nar .char (116 : Int32)), (nar .char (97 : Int32))] : List Int32)).map (fun c => c.toInt8.toInt32)).map Value.int) w_UsageKind_SMS w_UsageKind_CALL w_UsageKind_DATA w_UsageKind__VALUES w_UsageKind_LOCAL_DATA w_UsageKind_SMS_written w_UsageKind_CALL_written w_UsageKind_DATA_written w_UsageKind_LOCAL_DATA_written w_UsageKind_SMS_written_value w_UsageKind_CALL_written_value w_UsageKind_DATA_written_value w_UsageKind_LOCAL_DATA_written_value k_w_UsageKind__VALUES k_w_UsageKind_SMS_written_value k_w_UsageKind_CALL_written_value k_w_UsageKind_DATA_written_value k_w_UsageKind_LOCAL_DATA_written_value zc T773.heap n0 O775 E773x V773 C773 A773 OS774 E_w_UsageKind_SMS E_w_UsageKind_CALL E_w_UsageKind_DATA S_UsageKind__VALUES E_w_UsageKind__VALUES E_w_UsageKind_LOCAL_DATA V_w_UsageKind__VALUES F_w_UsageKind_SMS_written E_w_UsageKind_SMS_written F_w_UsageKind_CALL_written E_w_UsageKind_CALL_written F_w_UsageKind_DATA_written E_w_UsageKind_DATA_written F_w_UsageKind_LOCAL_DATA_written E_w_UsageKind_LOCAL_DATA_written F_w_UsageKind_SMS_written_value F_w_UsageKind_CALL_written_value F_w_UsageKind_DATA_written_value F_w_UsageKind_LOCAL_DATA_written_value F_w_UsageKind_CALL_written_coder F_w_UsageKind_SMS_written_coder F_w_UsageKind_DATA_written_coder F_w_UsageKind_LOCAL_DATA_written_coder V_w_UsageKind_SMS_written_value V_w_UsageKind_CALL_written_value V_w_UsageKind_DATA_written_value V_w_UsageKind_LOCAL_DATA_written_value SZ PZ) hZ590 (hwk hw 38 rfl) (hwk hw 1 rfl) (by decide) (by decide)) (g := (mkF m 236 #[.val (.int p0), .val (.int p1), .val (.int (p0 &&& (3 : Int32))), .val (.int (p1 &&& (3 : Int32))), .val (.ref w_UsageKind_LOCAL_DATA), .val (.ref a590), .val (.ref b592), .val (.ref b767), .unset] [(.ref b767)])) rfl (by rw [hml]; rfl) (argsL := [(.ref b767)]) (rest := []) (lenOf pd_2 rfl) rfl (by show 2 * 0 + _ ≤ _; exact Nat.le_of_eq rfl) (hb hby at_236) (fun _ _ => ⟨rfl, (rfl : T773.heap = T773.heap), (by decide : 5 + 1 ≤ _), (by decide : 68 + 4 ≤ _)⟩)
            dsimp only [Pt.U, Pt.locs, Pt.cells, Pt.slots] at X776 l776 y776 z776 st776 hQ776
            subst l776 y776 z776
            unfold Q_rn3 at hQ776
            obtain ⟨rfl, N776q, K776⟩ := hQ776
            have N776 := Fr.app N773 N776q
            have O778 : Old Z n0 T776.heap := Old.keep O775 K776 all0
            have c777 : Fld Z T776.heap w_UsageKind_LOCAL_DATA "com/example/bill_run/billrun/UsageKind" "written" "Ljava/lang/String;" (.ref w_UsageKind_LOCAL_DATA_written) := Fld.ext (O778).2 F_w_UsageKind_LOCAL_DATA_written
            have c780 : Exa Z T776.heap w_UsageKind_LOCAL_DATA "com/example/bill_run/billrun/UsageKind" := Exa.ext (O778).2 E_w_UsageKind_LOCAL_DATA
            obtain ⟨cq779, kq779, q779a, q779b, q779c⟩ := isOf hZ590 (rfl : T776.heap = T776.heap) c780
            obtain ⟨_, _, ⟨T779, L779, k779, n779⟩, -, X779, ⟨Lc779, hQ779, l779, y779, z779⟩, st779⟩ := X776.virtualBack hx (y := (⟨"com/example/bill_run/billrun/UsageKind", "toString", "()Ljava/lang/String;"⟩ : MethodName)) (z := (⟨"com/example/bill_run/billrun/UsageKind", "toString", "()Ljava/lang/String;"⟩ : MethodName)) hown590 (mvT hZ590 (hwk hw 69 rfl)) (mvT hZ590 (hwk hw 70 rfl)) (notFace_of_selects (args := #[]) (mvT hZ590 (hwk hw 72 rfl))) (mvT hZ590 (hwk hw 72 rfl)) (mvT hZ590 (hwk hw 71 rfl)) (by decide) (backOf (W := 0) (rm11 l Z a0 hw [] w_UsageKind_LOCAL_DATA w_UsageKind_LOCAL_DATA_written T776.heap n0 O778 c777) hZ590 (hwk hw 73 rfl) (hwk hw 1 rfl) (by decide) (by decide)) q779a q779c (g := (mkF m 250 #[.val (.int p0), .val (.int p1), .val (.int (p0 &&& (3 : Int32))), .val (.int (p1 &&& (3 : Int32))), .val (.ref w_UsageKind_LOCAL_DATA), .val (.ref a590), .val (.ref b592), .val (.ref b767), .val (.ref w_UsageKind_LOCAL_DATA)] [(.ref w_UsageKind_LOCAL_DATA)])) rfl (by rw [hml]; rfl) (Steps.refl _) (argsL := []) (rest := []) (lenOf pd_3 rfl) rfl (by show 2 * 0 + _ ≤ _; exact Nat.le_of_eq rfl) (hb hby at_250) (fun _ _ => ⟨rfl, (rfl : T776.heap = T776.heap), (by decide : 6 + 0 ≤ _), (by decide : 72 + 0 ≤ _)⟩)
            dsimp only [Pt.U, Pt.locs, Pt.cells, Pt.slots] at X779 l779 y779 z779 st779 hQ779
            subst l779 y779 z779
            unfold Q_rm11 at hQ779
            obtain ⟨rfl, N779q, e779⟩ := hQ779
            have N779 := Fr.app N776 N779q
            have hws781 : ∀ d ∈ StrChars.Road.wordsEq, d.before a0 Z = true := fun d hd => hw d ((by decide +kernel : ∀ d ∈ StrChars.Road.wordsEq, d ∈ tables_1) d hd)
            have c782 : Exa Z T776.heap w_UsageKind_LOCAL_DATA_written "java/lang/String" := Exa.ext (O778).2 E_w_UsageKind_LOCAL_DATA_written
            have c783 : Fld Z T776.heap w_UsageKind_LOCAL_DATA_written "java/lang/String" "value" "[B" (.ref w_UsageKind_LOCAL_DATA_written_value) := Fld.ext (O778).2 F_w_UsageKind_LOCAL_DATA_written_value
            have c784 : Fld Z T776.heap w_UsageKind_LOCAL_DATA_written "java/lang/String" "coder" "B" (.int (0 : Int32)) := Fld.ext (O778).2 F_w_UsageKind_LOCAL_DATA_written_coder
            have c785 : Arv Z T776.heap w_UsageKind_LOCAL_DATA_written_value k_w_UsageKind_LOCAL_DATA_written_value .byte (10 : Int32) [(.int (108 : Int32)), (.int (111 : Int32)), (.int (99 : Int32)), (.int (97 : Int32)), (.int (108 : Int32)), (.int (45 : Int32)), (.int (100 : Int32)), (.int (97 : Int32)), (.int (116 : Int32)), (.int (97 : Int32))] (.int (0 : Int32)) := V_w_UsageKind_LOCAL_DATA_written_value.ext O778.2
            have c786 : Exa Z T776.heap a590 "java/lang/String" := (Exa.keep (Exa.keep (Exa.ext E767 (Exa.wr W612 (Exa.wr W610 (Exa.wr W608 (Exa.wr W606 (Exa.wr W604 (Exa.wr W602 (Exa.wr W600 (Exa.wr W598 (Exa.wr W596 (Exa.wr W594 (Exa.ext E592 Ex590)))))))))))) K773) K776)
            have c787 : Exa Z h612 a590 "java/lang/String" := (Exa.wr W612 (Exa.wr W610 (Exa.wr W608 (Exa.wr W606 (Exa.wr W604 (Exa.wr W602 (Exa.wr W600 (Exa.wr W598 (Exa.wr W596 (Exa.wr W594 (Exa.ext E592 Ex590)))))))))))
            have c788 : Fld Z T776.heap a590 "java/lang/String" "value" "[B" (.ref b590) := (Fld.keep (Fld.keep (Fld.ext E767 (Fld.other W612 (Fld.other W610 (Fld.other W608 (Fld.other W606 (Fld.other W604 (Fld.other W602 (Fld.other W600 (Fld.other W598 (Fld.other W596 (Fld.other W594 (Fld.ext E592 Fv590) (Or.inl (Nat.ne_of_lt (Nat.lt_of_lt_of_le (Ex590).lt (Nat.le_of_eq g592.symm))))) (Or.inl (Nat.ne_of_lt (Nat.lt_of_lt_of_le (Ex590).lt (Nat.le_of_eq g592.symm))))) (Or.inl (Nat.ne_of_lt (Nat.lt_of_lt_of_le (Ex590).lt (Nat.le_of_eq g592.symm))))) (Or.inl (Nat.ne_of_lt (Nat.lt_of_lt_of_le (Ex590).lt (Nat.le_of_eq g592.symm))))) (Or.inl (Nat.ne_of_lt (Nat.lt_of_lt_of_le (Ex590).lt (Nat.le_of_eq g592.symm))))) (Or.inl (Nat.ne_of_lt (Nat.lt_of_lt_of_le (Ex590).lt (Nat.le_of_eq g592.symm))))) (Or.inl (Nat.ne_of_lt (Nat.lt_of_lt_of_le (Ex590).lt (Nat.le_of_eq g592.symm))))) (Or.inl (Nat.ne_of_lt (Nat.lt_of_lt_of_le (Ex590).lt (Nat.le_of_eq g592.symm))))) (Or.inl (Nat.ne_of_lt (Nat.lt_of_lt_of_le (Ex590).lt (Nat.le_of_eq g592.symm))))) (Or.inl (Nat.ne_of_lt (Nat.lt_of_lt_of_le (Ex590).lt (Nat.le_of_eq g592.symm)))))) K773 (ninS (Nat.ne_of_lt (Nat.lt_of_lt_of_le (c787).lt (Nat.le_of_eq g767.symm))) nin0)) K776 nin0)
            have c789 : Fld Z T776.heap a590 "java/lang/String" "coder" "B" (.int (0 : Int32)) := (Fld.keep (Fld.keep (Fld.ext E767 (Fld.other W612 (Fld.other W610 (Fld.other W608 (Fld.other W606 (Fld.other W604 (Fld.other W602 (Fld.other W600 (Fld.other W598 (Fld.other W596 (Fld.other W594 (Fld.ext E592 Fc590) (Or.inl (Exa.neArv c787 V612 (hwk hw 5 rfl)))) (Or.inl (Exa.neArv c787 V612 (hwk hw 5 rfl)))) (Or.inl (Exa.neArv c787 V612 (hwk hw 5 rfl)))) (Or.inl (Exa.neArv c787 V612 (hwk hw 5 rfl)))) (Or.inl (Exa.neArv c787 V612 (hwk hw 5 rfl)))) (Or.inl (Exa.neArv c787 V612 (hwk hw 5 rfl)))) (Or.inl (Exa.neArv c787 V612 (hwk hw 5 rfl)))) (Or.inl (Exa.neArv c787 V612 (hwk hw 5 rfl)))) (Or.inl (Exa.neArv c787 V612 (hwk hw 5 rfl)))) (Or.inl (Exa.neArv c787 V612 (hwk hw 5 rfl))))) K773 (ninS (Nat.ne_of_lt (Nat.lt_of_lt_of_le (c787).lt (Nat.le_of_eq g767.symm))) nin0)) K776 nin0)
            have c790 : Arv Z h612 b590 kc590 .byte (10 : Int32) [(.int (108 : Int32)), (.int (111 : Int32)), (.int (99 : Int32)), (.int (97 : Int32)), (.int (108 : Int32)), (.int (45 : Int32)), (.int (100 : Int32)), (.int (97 : Int32)), (.int (116 : Int32)), (.int (97 : Int32))] (.int 0) := (Arv.other (Arv.other (Arv.other (Arv.other (Arv.other (Arv.other (Arv.other (Arv.other (Arv.other (Arv.other (Av590.ext E592) W594 (Nat.ne_of_lt (Nat.lt_of_lt_of_le (Av590).lt (Nat.le_of_eq g592.symm)))) W596 (Nat.ne_of_lt (Nat.lt_of_lt_of_le (Av590).lt (Nat.le_of_eq g592.symm)))) W598 (Nat.ne_of_lt (Nat.lt_of_lt_of_le (Av590).lt (Nat.le_of_eq g592.symm)))) W600 (Nat.ne_of_lt (Nat.lt_of_lt_of_le (Av590).lt (Nat.le_of_eq g592.symm)))) W602 (Nat.ne_of_lt (Nat.lt_of_lt_of_le (Av590).lt (Nat.le_of_eq g592.symm)))) W604 (Nat.ne_of_lt (Nat.lt_of_lt_of_le (Av590).lt (Nat.le_of_eq g592.symm)))) W606 (Nat.ne_of_lt (Nat.lt_of_lt_of_le (Av590).lt (Nat.le_of_eq g592.symm)))) W608 (Nat.ne_of_lt (Nat.lt_of_lt_of_le (Av590).lt (Nat.le_of_eq g592.symm)))) W610 (Nat.ne_of_lt (Nat.lt_of_lt_of_le (Av590).lt (Nat.le_of_eq g592.symm)))) W612 (Nat.ne_of_lt (Nat.lt_of_lt_of_le (Av590).lt (Nat.le_of_eq g592.symm))))
            have c791 : Arv Z T776.heap b590 kc590 .byte (10 : Int32) [(.int (108 : Int32)), (.int (111 : Int32)), (.int (99 : Int32)), (.int (97 : Int32)), (.int (108 : Int32)), (.int (45 : Int32)), (.int (100 : Int32)), (.int (97 : Int32)), (.int (116 : Int32)), (.int (97 : Int32))] (.int 0) := (Arv.keep (Arv.keep ((Arv.other (Arv.other (Arv.other (Arv.other (Arv.other (Arv.other (Arv.other (Arv.other (Arv.other (Arv.other (Av590.ext E592) W594 (Nat.ne_of_lt (Nat.lt_of_lt_of_le (Av590).lt (Nat.le_of_eq g592.symm)))) W596 (Nat.ne_of_lt (Nat.lt_of_lt_of_le (Av590).lt (Nat.le_of_eq g592.symm)))) W598 (Nat.ne_of_lt (Nat.lt_of_lt_of_le (Av590).lt (Nat.le_of_eq g592.symm)))) W600 (Nat.ne_of_lt (Nat.lt_of_lt_of_le (Av590).lt (Nat.le_of_eq g592.symm)))) W602 (Nat.ne_of_lt (Nat.lt_of_lt_of_le (Av590).lt (Nat.le_of_eq g592.symm)))) W604 (Nat.ne_of_lt (Nat.lt_of_lt_of_le (Av590).lt (Nat.le_of_eq g592.symm)))) W606 (Nat.ne_of_lt (Nat.lt_of_lt_of_le (Av590).lt (Nat.le_of_eq g592.symm)))) W608 (Nat.ne_of_lt (Nat.lt_of_lt_of_le (Av590).lt (Nat.le_of_eq g592.symm)))) W610 (Nat.ne_of_lt (Nat.lt_of_lt_of_le (Av590).lt (Nat.le_of_eq g592.symm)))) W612 (Nat.ne_of_lt (Nat.lt_of_lt_of_le (Av590).lt (Nat.le_of_eq g592.symm)))).ext E767) K773 (ninS (Nat.ne_of_lt (Nat.lt_of_lt_of_le (c790).lt (Nat.le_of_eq g767.symm))) nin0)) K776 nin0)
            have c792 : Sta Z T776.heap "java/lang/String" "COMPACT_STRINGS" "Z" (.int zc) := Sta.ext (O778).2 SZ
            obtain ⟨cq793, kq793, q793a, q793b, q793c⟩ := isOf hZ590 e779 c782
            obtain ⟨_, _, ⟨T793, L793, k793, n793⟩, -, X793, ⟨Lc793, hQ793, l793, y793, z793⟩, st793⟩ := X779.virtualBack hx (y := (⟨"java/lang/String", "equals", "(Ljava/lang/Object;)Z"⟩ : MethodName)) (z := (⟨"java/lang/String", "equals", "(Ljava/lang/Object;)Z"⟩ : MethodName)) hown590 (mvT hZ590 (hwk hw 74 rfl)) (mvT hZ590 (hwk hw 60 rfl)) (notFace_of_selects (args := #[]) (mvT hZ590 (hwk hw 62 rfl))) (mvT hZ590 (hwk hw 62 rfl)) (mvT hZ590 (hwk hw 61 rfl)) (by decide) (StrChars.Road.eqW (W := 0) hZ590 hws781 (kI := 4) (hwk hw 5 rfl) c782 c783 c784 c785 own_os3.1 own_os3.2.1 own_os3.2.2 c786 c788 c789 c791 own_os3.1 own_os3.2.1 own_os3.2.2 c792 PZ (by decide) (by decide)) q793a q793c (g := (mkF m 255 #[.val (.int p0), .val (.int p1), .val (.int (p0 &&& (3 : Int32))), .val (.int (p1 &&& (3 : Int32))), .val (.ref w_UsageKind_LOCAL_DATA), .val (.ref a590), .val (.ref b592), .val (.ref b767), .val (.ref w_UsageKind_LOCAL_DATA)] [(.ref a590), (.ref w_UsageKind_LOCAL_DATA_written)])) rfl (by rw [hml]; rfl) (Steps.refl _) (argsL := [(.ref a590)]) (rest := []) (lenOf pd_1 rfl) rfl (by show 2 * 0 + _ ≤ _; exact Nat.le_of_eq rfl) (hb hby at_255) (fun _ _ => ⟨rfl, e779, (by decide : 6 + 0 ≤ _), (by decide : 72 + 0 ≤ _)⟩)
            dsimp only [Pt.U, Pt.locs, Pt.cells, Pt.slots] at X793 l793 y793 z793 st793 hQ793
            subst l793 y793 z793
            obtain ⟨hv793, hl793, e793⟩ := hQ793
            cases own_vm hv793
            have N793 := Fr.app N779 (own_frnil hl793)
            have K794 : Keep h0 h590 [] := Keep.ext (Keep.refl h0 []) E590
            have K795 : Keep h0 h592 [] := Keep.ext K794 E592
            have K796 : Keep h0 h594 [] := Keep.wr K795 W594 (Or.inr (Nat.le_trans (Nat.le_trans (Nat.le_refl _) E590.1) (Nat.le_of_eq g592.symm)))
            have K797 : Keep h0 h596 [] := Keep.wr K796 W596 (Or.inr (Nat.le_trans (Nat.le_trans (Nat.le_refl _) E590.1) (Nat.le_of_eq g592.symm)))
            have K798 : Keep h0 h598 [] := Keep.wr K797 W598 (Or.inr (Nat.le_trans (Nat.le_trans (Nat.le_refl _) E590.1) (Nat.le_of_eq g592.symm)))
            have K799 : Keep h0 h600 [] := Keep.wr K798 W600 (Or.inr (Nat.le_trans (Nat.le_trans (Nat.le_refl _) E590.1) (Nat.le_of_eq g592.symm)))
            have K800 : Keep h0 h602 [] := Keep.wr K799 W602 (Or.inr (Nat.le_trans (Nat.le_trans (Nat.le_refl _) E590.1) (Nat.le_of_eq g592.symm)))
            have K801 : Keep h0 h604 [] := Keep.wr K800 W604 (Or.inr (Nat.le_trans (Nat.le_trans (Nat.le_refl _) E590.1) (Nat.le_of_eq g592.symm)))
            have K802 : Keep h0 h606 [] := Keep.wr K801 W606 (Or.inr (Nat.le_trans (Nat.le_trans (Nat.le_refl _) E590.1) (Nat.le_of_eq g592.symm)))
            have K803 : Keep h0 h608 [] := Keep.wr K802 W608 (Or.inr (Nat.le_trans (Nat.le_trans (Nat.le_refl _) E590.1) (Nat.le_of_eq g592.symm)))
            have K804 : Keep h0 h610 [] := Keep.wr K803 W610 (Or.inr (Nat.le_trans (Nat.le_trans (Nat.le_refl _) E590.1) (Nat.le_of_eq g592.symm)))
            have K805 : Keep h0 h612 [] := Keep.wr K804 W612 (Or.inr (Nat.le_trans (Nat.le_trans (Nat.le_refl _) E590.1) (Nat.le_of_eq g592.symm)))
            have K806 : Keep h0 h767 [] := Keep.ext K805 E767
            have K807 : Keep h0 T773.heap [] := Keep.trans K806 K773 (allS (Or.inr (Nat.le_trans (Nat.le_trans (Nat.le_trans (Nat.le_trans (Nat.le_trans (Nat.le_trans (Nat.le_trans (Nat.le_trans (Nat.le_trans (Nat.le_trans (Nat.le_trans (Nat.le_trans (Nat.le_trans (Nat.le_refl _) E590.1) E592.1) (Nat.le_of_eq W594.size.symm)) (Nat.le_of_eq W596.size.symm)) (Nat.le_of_eq W598.size.symm)) (Nat.le_of_eq W600.size.symm)) (Nat.le_of_eq W602.size.symm)) (Nat.le_of_eq W604.size.symm)) (Nat.le_of_eq W606.size.symm)) (Nat.le_of_eq W608.size.symm)) (Nat.le_of_eq W610.size.symm)) (Nat.le_of_eq W612.size.symm)) (Nat.le_of_eq g767.symm))) all0)
            have K808 : Keep h0 T776.heap [] := Keep.trans K807 K776 all0
            have CR809 : CHr Z consts_1 s.vm h0 T590.vm h590 := CHr.trans CR0 CX590
            have CR810 : CHr Z consts_1 s.vm h0 T590.vm h592 := CHr.trans CR809 (CHr.ext E592 CR809.1)
            have Sf811 : Safe Z consts_1 T590.vm h590 b592 := Safe.new (Nat.le_of_eq g592.symm)
            have Sf812 : Safe Z consts_1 T590.vm h592 b592 := (Safe.ext E592 CR809.1 Sf811)
            have CR813 : CHr Z consts_1 s.vm h0 T590.vm h594 := CHr.trans CR810 (CHr.wr W594 Sf812 CR810.1)
            have Sf814 : Safe Z consts_1 T590.vm h594 b592 := (Safe.wr W594 Sf812 CR810.1 Sf812)
            have CR815 : CHr Z consts_1 s.vm h0 T590.vm h596 := CHr.trans CR813 (CHr.wr W596 Sf814 CR813.1)
            have Sf816 : Safe Z consts_1 T590.vm h596 b592 := (Safe.wr W596 Sf814 CR813.1 Sf814)
            have CR817 : CHr Z consts_1 s.vm h0 T590.vm h598 := CHr.trans CR815 (CHr.wr W598 Sf816 CR815.1)
            have Sf818 : Safe Z consts_1 T590.vm h598 b592 := (Safe.wr W598 Sf816 CR815.1 Sf816)
            have CR819 : CHr Z consts_1 s.vm h0 T590.vm h600 := CHr.trans CR817 (CHr.wr W600 Sf818 CR817.1)
            have Sf820 : Safe Z consts_1 T590.vm h600 b592 := (Safe.wr W600 Sf818 CR817.1 Sf818)
            have CR821 : CHr Z consts_1 s.vm h0 T590.vm h602 := CHr.trans CR819 (CHr.wr W602 Sf820 CR819.1)
            have Sf822 : Safe Z consts_1 T590.vm h602 b592 := (Safe.wr W602 Sf820 CR819.1 Sf820)
            have CR823 : CHr Z consts_1 s.vm h0 T590.vm h604 := CHr.trans CR821 (CHr.wr W604 Sf822 CR821.1)
            have Sf824 : Safe Z consts_1 T590.vm h604 b592 := (Safe.wr W604 Sf822 CR821.1 Sf822)
            have CR825 : CHr Z consts_1 s.vm h0 T590.vm h606 := CHr.trans CR823 (CHr.wr W606 Sf824 CR823.1)
            have Sf826 : Safe Z consts_1 T590.vm h606 b592 := (Safe.wr W606 Sf824 CR823.1 Sf824)
            have CR827 : CHr Z consts_1 s.vm h0 T590.vm h608 := CHr.trans CR825 (CHr.wr W608 Sf826 CR825.1)
            have Sf828 : Safe Z consts_1 T590.vm h608 b592 := (Safe.wr W608 Sf826 CR825.1 Sf826)
            have CR829 : CHr Z consts_1 s.vm h0 T590.vm h610 := CHr.trans CR827 (CHr.wr W610 Sf828 CR827.1)
            have Sf830 : Safe Z consts_1 T590.vm h610 b592 := (Safe.wr W610 Sf828 CR827.1 Sf828)
            have CR831 : CHr Z consts_1 s.vm h0 T590.vm h612 := CHr.trans CR829 (CHr.wr W612 Sf830 CR829.1)
            have CR832 : CHr Z consts_1 s.vm h0 T590.vm h767 := CHr.trans CR831 (CHr.ext E767 CR831.1)
            have Sf833 : Safe Z consts_1 T590.vm h612 b767 := Safe.new (Nat.le_of_eq g767.symm)
            have Sf834 : Safe Z consts_1 T590.vm h767 b767 := (Safe.ext E767 CR831.1 Sf833)
            have CR835 : CHr Z consts_1 s.vm h0 T590.vm T773.heap := CHr.trans CR832 (CHr.keep K773 (allS Sf834 all0) CR832.1)
            have CR836 : CHr Z consts_1 s.vm h0 T590.vm T776.heap := CHr.trans CR835 (CHr.keep K776 all0 CR835.1)
            obtain ⟨fs, hr, hrun, hended, hRE⟩ := X793.leaveW hS590 (show _ ≤ T793.heap.size from by rw [e793]; exact (Nat.le_trans hk590 (Nat.le_trans (Nat.le_trans (Nat.le_trans (Nat.le_trans (Nat.le_trans (Nat.le_trans (Nat.le_trans (Nat.le_trans (Nat.le_trans (Nat.le_trans (Nat.le_trans (Nat.le_trans (Nat.le_trans (Nat.le_trans (Nat.le_refl _) E592.1) (Nat.le_of_eq W594.size.symm)) (Nat.le_of_eq W596.size.symm)) (Nat.le_of_eq W598.size.symm)) (Nat.le_of_eq W600.size.symm)) (Nat.le_of_eq W602.size.symm)) (Nat.le_of_eq W604.size.symm)) (Nat.le_of_eq W606.size.symm)) (Nat.le_of_eq W608.size.symm)) (Nat.le_of_eq W610.size.symm)) (Nat.le_of_eq W612.size.symm)) E767.1) K773.1) K776.1))) (v := some (.int (1 : Int32))) (fun h => by rw [Bd.returns] at h; cases h)
            have CRl : CHr Z consts_1 s.vm s.heap (T793.setFrames fs).vm (T793.setFrames fs).heap := by
              have q := CHr.trans CR836 (CHv.at X793 hZ590 hEL CR836.1)
              rw [← hh, ← e793] at q
              exact q
            refine ⟨_, _, S684 _ ?_, hrun, hended, _, _, rfl, ?_, CRl, hRE.1, hRE.2.1, hRE.2.2.1, hRE.2.2.2.mono (by decide) (by decide)⟩
            · show Steps p.tables e below (T612.setTop (mkF m 210 #[.val (.int p0), .val (.int p1), .val (.int (p0 &&& (3 : Int32))), .val (.int (p1 &&& (3 : Int32))), .val (.ref w_UsageKind_LOCAL_DATA), .val (.ref a590), .val (.ref b592), .unset, .unset] [(.int (2 : Int32)), (.int (p1 &&& (3 : Int32)))])) _
              refine XS.icmpYes X612.here hx rfl (pc0 := 210) (pc' := 223) rfl (hb hby at_210) rfl (feq hc683).2 (by decide) (by decide) ?_
              show Steps p.tables e below (T612.setTop (mkF m 223 #[.val (.int p0), .val (.int p1), .val (.int (p0 &&& (3 : Int32))), .val (.int (p1 &&& (3 : Int32))), .val (.ref w_UsageKind_LOCAL_DATA), .val (.ref a590), .val (.ref b592), .unset, .unset] [])) _
              refine st767 _ ?_
              show Steps p.tables e below (T767.setTop (mkF m 226 #[.val (.int p0), .val (.int p1), .val (.int (p0 &&& (3 : Int32))), .val (.int (p1 &&& (3 : Int32))), .val (.ref w_UsageKind_LOCAL_DATA), .val (.ref a590), .val (.ref b592), .unset, .unset] [(.ref b767)])) _
              refine XS.dup X767.here hx rfl (hb hby at_226) rfl rfl ?_
              show Steps p.tables e below (T767.setTop (mkF m 227 #[.val (.int p0), .val (.int p1), .val (.int (p0 &&& (3 : Int32))), .val (.int (p1 &&& (3 : Int32))), .val (.ref w_UsageKind_LOCAL_DATA), .val (.ref a590), .val (.ref b592), .unset, .unset] [(.ref b767), (.ref b767)])) _
              refine XS.aload X767.here hx rfl (hb hby at_227) rfl rfl ?_
              show Steps p.tables e below (T767.setTop (mkF m 229 #[.val (.int p0), .val (.int p1), .val (.int (p0 &&& (3 : Int32))), .val (.int (p1 &&& (3 : Int32))), .val (.ref w_UsageKind_LOCAL_DATA), .val (.ref a590), .val (.ref b592), .unset, .unset] [(.ref b592), (.ref b767), (.ref b767)])) _
              refine st773.trans ?_
              show Steps p.tables e below (T773.setTop (mkF m 232 #[.val (.int p0), .val (.int p1), .val (.int (p0 &&& (3 : Int32))), .val (.int (p1 &&& (3 : Int32))), .val (.ref w_UsageKind_LOCAL_DATA), .val (.ref a590), .val (.ref b592), .unset, .unset] [(.ref b767)])) _
              refine XS.astore X773.here hx rfl (hb hby at_232) rfl rfl (l' := #[.val (.int p0), .val (.int p1), .val (.int (p0 &&& (3 : Int32))), .val (.int (p1 &&& (3 : Int32))), .val (.ref w_UsageKind_LOCAL_DATA), .val (.ref a590), .val (.ref b592), .val (.ref b767), .unset]) rfl ?_
              show Steps p.tables e below (T773.setTop (mkF m 234 #[.val (.int p0), .val (.int p1), .val (.int (p0 &&& (3 : Int32))), .val (.int (p1 &&& (3 : Int32))), .val (.ref w_UsageKind_LOCAL_DATA), .val (.ref a590), .val (.ref b592), .val (.ref b767), .unset] [])) _
              refine XS.aload X773.here hx rfl (hb hby at_234) rfl rfl ?_
              show Steps p.tables e below (T773.setTop (mkF m 236 #[.val (.int p0), .val (.int p1), .val (.int (p0 &&& (3 : Int32))), .val (.int (p1 &&& (3 : Int32))), .val (.ref w_UsageKind_LOCAL_DATA), .val (.ref a590), .val (.ref b592), .val (.ref b767), .unset] [(.ref b767)])) _
              refine st776 _ ?_
              show Steps p.tables e below (T776.setTop (mkF m 239 #[.val (.int p0), .val (.int p1), .val (.int (p0 &&& (3 : Int32))), .val (.int (p1 &&& (3 : Int32))), .val (.ref w_UsageKind_LOCAL_DATA), .val (.ref a590), .val (.ref b592), .val (.ref b767), .unset] [(.ref w_UsageKind_LOCAL_DATA)])) _
              refine XS.astore X776.here hx rfl (hb hby at_239) rfl rfl (l' := #[.val (.int p0), .val (.int p1), .val (.int (p0 &&& (3 : Int32))), .val (.int (p1 &&& (3 : Int32))), .val (.ref w_UsageKind_LOCAL_DATA), .val (.ref a590), .val (.ref b592), .val (.ref b767), .val (.ref w_UsageKind_LOCAL_DATA)]) rfl ?_
              show Steps p.tables e below (T776.setTop (mkF m 241 #[.val (.int p0), .val (.int p1), .val (.int (p0 &&& (3 : Int32))), .val (.int (p1 &&& (3 : Int32))), .val (.ref w_UsageKind_LOCAL_DATA), .val (.ref a590), .val (.ref b592), .val (.ref b767), .val (.ref w_UsageKind_LOCAL_DATA)] [])) _
              refine XS.aload X776.here hx rfl (hb hby at_241) rfl rfl ?_
              show Steps p.tables e below (T776.setTop (mkF m 243 #[.val (.int p0), .val (.int p1), .val (.int (p0 &&& (3 : Int32))), .val (.int (p1 &&& (3 : Int32))), .val (.ref w_UsageKind_LOCAL_DATA), .val (.ref a590), .val (.ref b592), .val (.ref b767), .val (.ref w_UsageKind_LOCAL_DATA)] [(.ref w_UsageKind_LOCAL_DATA)])) _
              refine XS.aload X776.here hx rfl (hb hby at_243) rfl rfl ?_
              show Steps p.tables e below (T776.setTop (mkF m 245 #[.val (.int p0), .val (.int p1), .val (.int (p0 &&& (3 : Int32))), .val (.int (p1 &&& (3 : Int32))), .val (.ref w_UsageKind_LOCAL_DATA), .val (.ref a590), .val (.ref b592), .val (.ref b767), .val (.ref w_UsageKind_LOCAL_DATA)] [(.ref w_UsageKind_LOCAL_DATA), (.ref w_UsageKind_LOCAL_DATA)])) _
              refine Jvm.RoadKit.acmp (g := (mkF m 245 #[.val (.int p0), .val (.int p1), .val (.int (p0 &&& (3 : Int32))), .val (.int (p1 &&& (3 : Int32))), .val (.ref w_UsageKind_LOCAL_DATA), .val (.ref a590), .val (.ref b592), .val (.ref b767), .val (.ref w_UsageKind_LOCAL_DATA)] [(.ref w_UsageKind_LOCAL_DATA), (.ref w_UsageKind_LOCAL_DATA)])) X776 hx rfl rfl rfl (pc0 := 245) (pc' := 248) (same := true) rfl (hb hby at_245) rfl (decide_eq_true rfl) (by decide) (by decide) ?_
              show Steps p.tables e below (T776.setTop (mkF m 248 #[.val (.int p0), .val (.int p1), .val (.int (p0 &&& (3 : Int32))), .val (.int (p1 &&& (3 : Int32))), .val (.ref w_UsageKind_LOCAL_DATA), .val (.ref a590), .val (.ref b592), .val (.ref b767), .val (.ref w_UsageKind_LOCAL_DATA)] [])) _
              refine XS.aload X776.here hx rfl (hb hby at_248) rfl rfl ?_
              show Steps p.tables e below (T776.setTop (mkF m 250 #[.val (.int p0), .val (.int p1), .val (.int (p0 &&& (3 : Int32))), .val (.int (p1 &&& (3 : Int32))), .val (.ref w_UsageKind_LOCAL_DATA), .val (.ref a590), .val (.ref b592), .val (.ref b767), .val (.ref w_UsageKind_LOCAL_DATA)] [(.ref w_UsageKind_LOCAL_DATA)])) _
              refine st779.trans ?_
              show Steps p.tables e below (T779.setTop (mkF m 253 #[.val (.int p0), .val (.int p1), .val (.int (p0 &&& (3 : Int32))), .val (.int (p1 &&& (3 : Int32))), .val (.ref w_UsageKind_LOCAL_DATA), .val (.ref a590), .val (.ref b592), .val (.ref b767), .val (.ref w_UsageKind_LOCAL_DATA)] [(.ref w_UsageKind_LOCAL_DATA_written)])) _
              refine XS.aload X779.here hx rfl (hb hby at_253) rfl rfl ?_
              show Steps p.tables e below (T779.setTop (mkF m 255 #[.val (.int p0), .val (.int p1), .val (.int (p0 &&& (3 : Int32))), .val (.int (p1 &&& (3 : Int32))), .val (.ref w_UsageKind_LOCAL_DATA), .val (.ref a590), .val (.ref b592), .val (.ref b767), .val (.ref w_UsageKind_LOCAL_DATA)] [(.ref a590), (.ref w_UsageKind_LOCAL_DATA_written)])) _
              refine st793.trans ?_
              show Steps p.tables e below (T793.setTop (mkF m 258 #[.val (.int p0), .val (.int p1), .val (.int (p0 &&& (3 : Int32))), .val (.int (p1 &&& (3 : Int32))), .val (.ref w_UsageKind_LOCAL_DATA), .val (.ref a590), .val (.ref b592), .val (.ref b767), .val (.ref w_UsageKind_LOCAL_DATA)] [(.int (VM [(108 : Int32), (111 : Int32), (99 : Int32), (97 : Int32), (108 : Int32), (45 : Int32), (100 : Int32), (97 : Int32), (116 : Int32), (97 : Int32)] [(108 : Int32), (111 : Int32), (99 : Int32), (97 : Int32), (108 : Int32), (45 : Int32), (100 : Int32), (97 : Int32), (116 : Int32), (97 : Int32)]))])) _
              refine XS.ifNo X793.here hx rfl (hb hby at_258) rfl ((if0 _ _).trans (feq (own_vm0 _ : ¬ ((VM [(108 : Int32), (111 : Int32), (99 : Int32), (97 : Int32), (108 : Int32), (45 : Int32), (100 : Int32), (97 : Int32), (116 : Int32), (97 : Int32)] [(108 : Int32), (111 : Int32), (99 : Int32), (97 : Int32), (108 : Int32), (45 : Int32), (100 : Int32), (97 : Int32), (116 : Int32), (97 : Int32)]) = (0 : Int32)))).1) ?_
              show Steps p.tables e below (T793.setTop (mkF m 261 #[.val (.int p0), .val (.int p1), .val (.int (p0 &&& (3 : Int32))), .val (.int (p1 &&& (3 : Int32))), .val (.ref w_UsageKind_LOCAL_DATA), .val (.ref a590), .val (.ref b592), .val (.ref b767), .val (.ref w_UsageKind_LOCAL_DATA)] [])) _
              refine XS.iconst X793.here hx rfl (hb hby at_261) ?_
              show Steps p.tables e below (T793.setTop (mkF m 262 #[.val (.int p0), .val (.int p1), .val (.int (p0 &&& (3 : Int32))), .val (.int (p1 &&& (3 : Int32))), .val (.ref w_UsageKind_LOCAL_DATA), .val (.ref a590), .val (.ref b592), .val (.ref b767), .val (.ref w_UsageKind_LOCAL_DATA)] [(.int (1 : Int32))])) _
              refine XS.goto X793.here hx rfl (pc0 := 262) (pc' := 266) rfl (hb hby at_262) (by decide) (by decide) ?_
              show Steps p.tables e below (T793.setTop (mkF m 266 #[.val (.int p0), .val (.int p1), .val (.int (p0 &&& (3 : Int32))), .val (.int (p1 &&& (3 : Int32))), .val (.ref w_UsageKind_LOCAL_DATA), .val (.ref a590), .val (.ref b592), .val (.ref b767), .val (.ref w_UsageKind_LOCAL_DATA)] [(.int (1 : Int32))])) _
              exact Jvm.RoadKit.retOut X793 hx Bd.returns rfl (Or.inl ⟨rfl, by simp, _, rfl⟩) (hb hby at_266) hr
            · show Q_rm0 Z p0 p1 w_UsageKind_SMS w_UsageKind_CALL w_UsageKind_DATA w_UsageKind__VALUES w_UsageKind_LOCAL_DATA w_UsageKind_SMS_written w_UsageKind_CALL_written w_UsageKind_DATA_written w_UsageKind_LOCAL_DATA_written w_UsageKind_SMS_written_value w_UsageKind_CALL_written_value w_UsageKind_DATA_written_value w_UsageKind_LOCAL_DATA_written_value k_w_UsageKind__VALUES k_w_UsageKind_SMS_written_value k_w_UsageKind_CALL_written_value k_w_UsageKind_DATA_written_value k_w_UsageKind_LOCAL_DATA_written_value zc h0 n0 _ T793.heap _
              rw [e793]
              unfold Q_rm0
              exact ⟨rfl, N793, K808⟩
theorem own_evR {args : Array Value} {s : State} {a b : Term} {y : Addr} (h : (Jvm.Cond.eq a b).value args s none s [] = some true) (hb : b.eval args s none [] s = some (.ref y)) : a.eval args s none [] s = some (.ref y) := by
  obtain ⟨x, z, h1, h2, h3, h4⟩ := cmp_v (Or.inl h)
  cases h2.symm.trans hb
  have hx : x.isRef = true := h4.2
  have q := gotT (eq_R h1 hb hx rfl) h
  rw [h1, q]
theorem own_len {args : Array Value} {s : State} {t : Term} {a : Addr} {cl : Cell} {ty : FieldType} {n : Int32} (A : Arr s s.heap a cl ty) (ev : t.eval args s none [] s = some (.ref a)) (h : (Term.length t).eval args s none [] s = some (.int n)) : cl.slots.size < 2 ^ 31 ∧ cl.slots.size.toInt32 = n := by
  have ha : s.arrayAt? a = some cl := A.fin (Vm.Alike.refl _)
  have hl := SBG.length_lt ev ha h
  have q := len_f ev ha hl
  exact ⟨hl, by simpa using Option.some.inj (q.symm.trans h)⟩
theorem own_arvU {s : State} {a : Addr} {cl : Cell} {ty : FieldType} {n : Int32} {dv : Value} (hf : Fit s) (A : Arr s s.heap a cl ty) (q : cl.slots.size < 2 ^ 31) (e : cl.slots.size.toInt32 = n) (hn : ¬ n < 0) : Arv s s.heap a cl.cls ty n cl.slots.toList dv := by
  have S : cl.slots.size = n.toNatClampNeg := by rw [← e]; simp only [Int32.toNatClampNeg, len_toInt q]; rfl
  have H : Has cl cl.slots.toList dv := fun j hj => by simp [hj]
  refine ⟨cl, A, rfl, S, hn, H, fun j hj => ?_⟩
  have e1 : (Nat.toInt32 j).toNatClampNeg = j := by simp only [Int32.toNatClampNeg, len_toInt (Nat.lt_trans hj q)]; rfl
  exact elem_fits (j := Nat.toInt32 j) hf A (idx_in hj q) (by rw [e1]; exact H j hj)
set_option maxRecDepth 65536 in
set_option maxHeartbeats 40000000 in
theorem comes_1 {Post : Tables → Env → Array Value → State → Outcome → State → Prop} (hpost : ∀ tb e args s v u, (limb_1_1.after args s (.returned v) u = true ∧ limb_1_2.after args s (.returned v) u = true ∧ True) → ReturnedEndW s (.returned v) u (Jvm.fieldLocs frame_1_writes args s ++ Jvm.arrayLocs frame_1_arrays args s ++ Jvm.staticLocs frame_1_statics s) 24 4288 → Post tb e args s (.returned v) u) :
    ArmFor flags0 classFile x code maxLocals ret World_1 tables_1 room_1 Calls_1 rest_1 Pre_1 Post := by
  intro l hfl _ _ p e ha hc hk s m args below hf hA hF happ hP
  obtain ⟨hcalls, hrest, hpre⟩ := hP
  obtain ⟨-, -, -, hnamed, -, -, -, hat⟩ := (Spec.applies_iff hf).mp happ
  obtain ⟨hg, hn⟩ := and_e (Cond.before_iff.mp (show (Jvm.Cond.and given_1 narrow_1).before args s = true from hpre))
  obtain ⟨gg1, gg2⟩ := and_e hg
  obtain ⟨gg3, gg4⟩ := and_e gg2
  obtain ⟨w0, w1, rfl⟩ : ∃ w0 w1 : Value, args = #[w0, w1] := by
    have hs : args.size = 2 := by simpa [Cond.value, given_1] using gg1
    obtain ⟨L⟩ := args
    match L, hs with
    | [w0, w1], _ => exact ⟨w0, w1, rfl⟩
  have hw := fun d (hd : d ∈ tables_1) => atoms_spec (ws := Jvm.Cond.code x code maxLocals ret :: tables_1) hat d (List.mem_cons_of_mem _ hd)
  have hfit : Fit s := fun {y c} hc i hi => by
    obtain ⟨ha, rfl⟩ := Array.getElem?_eq_some_iff.mp hc
    have q := List.all_eq_true.mp ((Array.all_eq_true_iff_forall_mem.mp hF) _ (Array.getElem_mem ha)) i (List.mem_range.mpr hi)
    simpa [Array.getElem?_eq_getElem hi] using q
  obtain ⟨hsets, hown0⟩ := atoms_of _ (rest_1_c_eq ▸ (show rest_1_c.before _ s = true from hrest))
  have hr0 := Cond.before_iff.mp hown0
  obtain ⟨i0, ei0⟩ := is_v gg3
  obtain rfl : w0 = (.int i0) := Option.some.inj ei0
  obtain ⟨i1, ei1⟩ := is_v gg4
  obtain rfl : w1 = (.int i1) := Option.some.inj ei1
  obtain ⟨na1, na2⟩ := and_e hn
  obtain ⟨na3, na4⟩ := and_e na2
  obtain ⟨na5, na6⟩ := and_e na4
  obtain ⟨na7, na8⟩ := and_e na6
  obtain ⟨na9, na10⟩ := and_e na8
  obtain ⟨na11, na12⟩ := and_e na10
  obtain ⟨na13, na14⟩ := and_e na12
  obtain ⟨na15, na16⟩ := and_e na14
  obtain ⟨na17, na18⟩ := and_e na16
  obtain ⟨na19, na20⟩ := and_e na18
  obtain ⟨na21, na22⟩ := and_e na20
  obtain ⟨na23, na24⟩ := and_e na22
  obtain ⟨na25, na26⟩ := and_e na24
  obtain ⟨na27, na28⟩ := and_e na26
  obtain ⟨na29, na30⟩ := and_e na28
  obtain ⟨na31, na32⟩ := and_e na30
  obtain ⟨na33, na34⟩ := and_e na32
  obtain ⟨na35, na36⟩ := and_e na34
  obtain ⟨na37, na38⟩ := and_e na36
  obtain ⟨na39, na40⟩ := and_e na38
  obtain ⟨na41, na42⟩ := and_e na40
  obtain ⟨na43, na44⟩ := and_e na42
  obtain ⟨na45, na46⟩ := and_e na44
  obtain ⟨na47, na48⟩ := and_e na46
  obtain ⟨na49, na50⟩ := and_e na48
  obtain ⟨na51, na52⟩ := and_e na50
  obtain ⟨na53, na54⟩ := and_e na52
  obtain ⟨na55, na56⟩ := and_e na54
  obtain ⟨na57, na58⟩ := and_e na56
  obtain ⟨na59, na60⟩ := and_e na58
  obtain ⟨na61, na62⟩ := and_e na60
  obtain ⟨na63, na64⟩ := and_e na62
  obtain ⟨na65, na66⟩ := and_e na64
  obtain ⟨na67, na68⟩ := and_e na66
  obtain ⟨na69, na70⟩ := and_e na68
  obtain ⟨na71, na72⟩ := and_e na70
  obtain ⟨na73, na74⟩ := and_e na72
  obtain ⟨na75, na76⟩ := and_e na74
  obtain ⟨na77, na78⟩ := and_e na76
  obtain ⟨na79, na80⟩ := and_e na78
  obtain ⟨na81, na82⟩ := and_e na80
  obtain ⟨na83, na84⟩ := and_e na82
  obtain ⟨na85, na86⟩ := and_e na84
  obtain ⟨na87, na88⟩ := and_e na86
  obtain ⟨na89, na90⟩ := and_e na88
  obtain ⟨na91, na92⟩ := and_e na90
  obtain ⟨na93, na94⟩ := and_e na92
  obtain ⟨na95, na96⟩ := and_e na94
  obtain ⟨na97, na98⟩ := and_e na96
  obtain ⟨na99, na100⟩ := and_e na98
  obtain ⟨na101, na102⟩ := and_e na100
  obtain ⟨na103, na104⟩ := and_e na102
  obtain ⟨na105, na106⟩ := and_e na104
  obtain ⟨w_UsageKind_SMS, ev107⟩ := exa_v na11
  have S_UsageKind_SMS : Sta s s.heap "com/example/bill_run/billrun/UsageKind" "SMS" "Lcom/example/bill_run/billrun/UsageKind;" (.ref w_UsageKind_SMS) := Sta.start ev107 (Or.inr ⟨(hwk hw 1 rfl), (hwk hw 51 rfl)⟩)
  have E_w_UsageKind_SMS : Exa s s.heap w_UsageKind_SMS "com/example/bill_run/billrun/UsageKind" := Exa.start ev107 na11
  obtain ⟨w_UsageKind_CALL, ev108⟩ := exa_v na1
  have S_UsageKind_CALL : Sta s s.heap "com/example/bill_run/billrun/UsageKind" "CALL" "Lcom/example/bill_run/billrun/UsageKind;" (.ref w_UsageKind_CALL) := Sta.start ev108 (Or.inr ⟨(hwk hw 1 rfl), (hwk hw 2 rfl)⟩)
  have E_w_UsageKind_CALL : Exa s s.heap w_UsageKind_CALL "com/example/bill_run/billrun/UsageKind" := Exa.start ev108 na1
  obtain ⟨w_UsageKind_DATA, ev109⟩ := exa_v na15
  have S_UsageKind_DATA : Sta s s.heap "com/example/bill_run/billrun/UsageKind" "DATA" "Lcom/example/bill_run/billrun/UsageKind;" (.ref w_UsageKind_DATA) := Sta.start ev109 (Or.inr ⟨(hwk hw 1 rfl), (hwk hw 52 rfl)⟩)
  have E_w_UsageKind_DATA : Exa s s.heap w_UsageKind_DATA "com/example/bill_run/billrun/UsageKind" := Exa.start ev109 na15
  obtain ⟨w_UsageKind__VALUES, ev110⟩ := arr_v na3
  have S_UsageKind__VALUES : Sta s s.heap "com/example/bill_run/billrun/UsageKind" "$VALUES" "[Lcom/example/bill_run/billrun/UsageKind;" (.ref w_UsageKind__VALUES) := Sta.start ev110 (Or.inl (hwk hw 54 rfl))
  obtain ⟨cl_w_UsageKind__VALUES, Ar_w_UsageKind__VALUES⟩ := Arr.start ev110 na3
  have E_w_UsageKind__VALUES : Exa s s.heap w_UsageKind__VALUES "[Lcom/example/bill_run/billrun/UsageKind;" := Exa.start ev110 na5
  obtain ⟨w_UsageKind_LOCAL_DATA, ev111⟩ := exa_v na19
  have S_UsageKind_LOCAL_DATA : Sta s s.heap "com/example/bill_run/billrun/UsageKind" "LOCAL_DATA" "Lcom/example/bill_run/billrun/UsageKind;" (.ref w_UsageKind_LOCAL_DATA) := Sta.start ev111 (Or.inr ⟨(hwk hw 1 rfl), (hwk hw 53 rfl)⟩)
  have E_w_UsageKind_LOCAL_DATA : Exa s s.heap w_UsageKind_LOCAL_DATA "com/example/bill_run/billrun/UsageKind" := Exa.start ev111 na19
  obtain ⟨w_UsageKind_SMS_written, ev112⟩ := exa_v na39
  have F_w_UsageKind_SMS_written : Fld s s.heap w_UsageKind_SMS "com/example/bill_run/billrun/UsageKind" "written" "Ljava/lang/String;" (.ref w_UsageKind_SMS_written) := Fld.start ((fld_at ev107).symm.trans ev112)
  have E_w_UsageKind_SMS_written : Exa s s.heap w_UsageKind_SMS_written "java/lang/String" := Exa.start ev112 na39
  obtain ⟨w_UsageKind_CALL_written, ev113⟩ := exa_v na23
  have F_w_UsageKind_CALL_written : Fld s s.heap w_UsageKind_CALL "com/example/bill_run/billrun/UsageKind" "written" "Ljava/lang/String;" (.ref w_UsageKind_CALL_written) := Fld.start ((fld_at ev108).symm.trans ev113)
  have E_w_UsageKind_CALL_written : Exa s s.heap w_UsageKind_CALL_written "java/lang/String" := Exa.start ev113 na23
  obtain ⟨w_UsageKind_DATA_written, ev114⟩ := exa_v na47
  have F_w_UsageKind_DATA_written : Fld s s.heap w_UsageKind_DATA "com/example/bill_run/billrun/UsageKind" "written" "Ljava/lang/String;" (.ref w_UsageKind_DATA_written) := Fld.start ((fld_at ev109).symm.trans ev114)
  have E_w_UsageKind_DATA_written : Exa s s.heap w_UsageKind_DATA_written "java/lang/String" := Exa.start ev114 na47
  obtain ⟨w_UsageKind_LOCAL_DATA_written, ev115⟩ := exa_v na69
  have F_w_UsageKind_LOCAL_DATA_written : Fld s s.heap w_UsageKind_LOCAL_DATA "com/example/bill_run/billrun/UsageKind" "written" "Ljava/lang/String;" (.ref w_UsageKind_LOCAL_DATA_written) := Fld.start ((fld_at ev111).symm.trans ev115)
  have E_w_UsageKind_LOCAL_DATA_written : Exa s s.heap w_UsageKind_LOCAL_DATA_written "java/lang/String" := Exa.start ev115 na69
  obtain ⟨w_UsageKind_SMS_written_value, ev116⟩ := arr_v na43
  have F_w_UsageKind_SMS_written_value : Fld s s.heap w_UsageKind_SMS_written "java/lang/String" "value" "[B" (.ref w_UsageKind_SMS_written_value) := Fld.start ((fld_at ev112).symm.trans ev116)
  obtain ⟨cl_w_UsageKind_SMS_written_value, Ar_w_UsageKind_SMS_written_value⟩ := Arr.start ev116 na43
  obtain ⟨w_UsageKind_CALL_written_value, ev117⟩ := arr_v na27
  have F_w_UsageKind_CALL_written_value : Fld s s.heap w_UsageKind_CALL_written "java/lang/String" "value" "[B" (.ref w_UsageKind_CALL_written_value) := Fld.start ((fld_at ev113).symm.trans ev117)
  obtain ⟨cl_w_UsageKind_CALL_written_value, Ar_w_UsageKind_CALL_written_value⟩ := Arr.start ev117 na27
  obtain ⟨w_UsageKind_DATA_written_value, ev118⟩ := arr_v na51
  have F_w_UsageKind_DATA_written_value : Fld s s.heap w_UsageKind_DATA_written "java/lang/String" "value" "[B" (.ref w_UsageKind_DATA_written_value) := Fld.start ((fld_at ev114).symm.trans ev118)
  obtain ⟨cl_w_UsageKind_DATA_written_value, Ar_w_UsageKind_DATA_written_value⟩ := Arr.start ev118 na51
  obtain ⟨w_UsageKind_LOCAL_DATA_written_value, ev119⟩ := arr_v na75
  have F_w_UsageKind_LOCAL_DATA_written_value : Fld s s.heap w_UsageKind_LOCAL_DATA_written "java/lang/String" "value" "[B" (.ref w_UsageKind_LOCAL_DATA_written_value) := Fld.start ((fld_at ev115).symm.trans ev119)
  obtain ⟨cl_w_UsageKind_LOCAL_DATA_written_value, Ar_w_UsageKind_LOCAL_DATA_written_value⟩ := Arr.start ev119 na75
  have ev120 := own_eqI na7 rfl
  have ev122 := own_evR na9 ev108
  have ev124 := own_evR na13 ev107
  have ev126 := own_evR na17 ev109
  have ev128 := own_evR na21 ev111
  have ev129 := own_eqI na25 rfl
  have F_w_UsageKind_CALL_written_coder : Fld s s.heap w_UsageKind_CALL_written "java/lang/String" "coder" "B" (.int (0 : Int32)) := Fld.start ((fld_at ev113).symm.trans ev129)
  have ev130 := own_eqI na29 rfl
  have ev131 := own_eqI na31 rfl
  have ev132 := own_eqI na33 rfl
  have ev133 := own_eqI na35 rfl
  have ev134 := own_eqI na37 rfl
  have ev135 := own_eqI na41 rfl
  have F_w_UsageKind_SMS_written_coder : Fld s s.heap w_UsageKind_SMS_written "java/lang/String" "coder" "B" (.int (0 : Int32)) := Fld.start ((fld_at ev112).symm.trans ev135)
  have ev136 := own_eqI na45 rfl
  have ev137 := own_eqI na49 rfl
  have F_w_UsageKind_DATA_written_coder : Fld s s.heap w_UsageKind_DATA_written "java/lang/String" "coder" "B" (.int (0 : Int32)) := Fld.start ((fld_at ev114).symm.trans ev137)
  have ev138 := own_eqI na53 rfl
  have ev139 := own_eqI na55 rfl
  have ev140 := own_eqI na57 rfl
  have ev141 := own_eqI na59 rfl
  have ev142 := own_eqI na61 rfl
  have ev143 := own_eqI na63 rfl
  have ev144 := own_eqI na65 rfl
  have ev145 := own_eqI na67 rfl
  have ne146 : ¬ (w_UsageKind_CALL_written = w_UsageKind_LOCAL_DATA_written) := fun q => own_neR na71 ev113 ev115 rfl rfl (congrArg Value.ref q)
  have ev147 := own_eqI na73 rfl
  have F_w_UsageKind_LOCAL_DATA_written_coder : Fld s s.heap w_UsageKind_LOCAL_DATA_written "java/lang/String" "coder" "B" (.int (0 : Int32)) := Fld.start ((fld_at ev115).symm.trans ev147)
  have ev148 := own_eqI na77 rfl
  have ne149 : ¬ (w_UsageKind_LOCAL_DATA_written = w_UsageKind_SMS_written) := fun q => own_neR na79 ev115 ev112 rfl rfl (congrArg Value.ref q)
  have ne150 : ¬ (w_UsageKind_DATA_written = w_UsageKind_LOCAL_DATA_written) := fun q => own_neR na81 ev114 ev115 rfl rfl (congrArg Value.ref q)
  have ne151 : ¬ (w_UsageKind_CALL_written = w_UsageKind_SMS_written) := fun q => own_neR na83 ev113 ev112 rfl rfl (congrArg Value.ref q)
  have ne152 : ¬ (w_UsageKind_CALL_written = w_UsageKind_DATA_written) := fun q => own_neR na85 ev113 ev114 rfl rfl (congrArg Value.ref q)
  have ne153 : ¬ (w_UsageKind_DATA_written = w_UsageKind_SMS_written) := fun q => own_neR na87 ev114 ev112 rfl rfl (congrArg Value.ref q)
  have ev154 := own_eqI na89 rfl
  have ev155 := own_eqI na91 rfl
  have ev156 := own_eqI na93 rfl
  have ev157 := own_eqI na95 rfl
  have ev158 := own_eqI na97 rfl
  have ev159 := own_eqI na99 rfl
  have ev160 := own_eqI na101 rfl
  have ev161 := own_eqI na103 rfl
  have ev162 := own_eqI na105 rfl
  have ev163 := own_eqI na106 rfl
  obtain ⟨h31_w_UsageKind__VALUES, hsz_w_UsageKind__VALUES⟩ := own_len Ar_w_UsageKind__VALUES ev110 ev120
  have V_w_UsageKind__VALUES : Arv s s.heap w_UsageKind__VALUES cl_w_UsageKind__VALUES.cls (.object "com/example/bill_run/billrun/UsageKind") (4 : Int32) [(.ref w_UsageKind_CALL), (.ref w_UsageKind_SMS), (.ref w_UsageKind_DATA), (.ref w_UsageKind_LOCAL_DATA)] .null := Arv.start hfit Ar_w_UsageKind__VALUES h31_w_UsageKind__VALUES hsz_w_UsageKind__VALUES (by decide) rfl ⟨(elem_in ev122 ev110 rfl Ar_w_UsageKind__VALUES.1).2, (elem_in ev124 ev110 rfl Ar_w_UsageKind__VALUES.1).2, (elem_in ev126 ev110 rfl Ar_w_UsageKind__VALUES.1).2, (elem_in ev128 ev110 rfl Ar_w_UsageKind__VALUES.1).2, trivial⟩
  obtain ⟨h31_w_UsageKind_SMS_written_value, hsz_w_UsageKind_SMS_written_value⟩ := own_len Ar_w_UsageKind_SMS_written_value ev116 ev136
  have V_w_UsageKind_SMS_written_value : Arv s s.heap w_UsageKind_SMS_written_value cl_w_UsageKind_SMS_written_value.cls .byte (3 : Int32) [(.int (115 : Int32)), (.int (109 : Int32)), (.int (115 : Int32))] (.int (0 : Int32)) := Arv.start hfit Ar_w_UsageKind_SMS_written_value h31_w_UsageKind_SMS_written_value hsz_w_UsageKind_SMS_written_value (by decide) rfl ⟨(elem_in ev143 ev116 rfl Ar_w_UsageKind_SMS_written_value.1).2, (elem_in ev144 ev116 rfl Ar_w_UsageKind_SMS_written_value.1).2, (elem_in ev145 ev116 rfl Ar_w_UsageKind_SMS_written_value.1).2, trivial⟩
  obtain ⟨h31_w_UsageKind_CALL_written_value, hsz_w_UsageKind_CALL_written_value⟩ := own_len Ar_w_UsageKind_CALL_written_value ev117 ev130
  have V_w_UsageKind_CALL_written_value : Arv s s.heap w_UsageKind_CALL_written_value cl_w_UsageKind_CALL_written_value.cls .byte (4 : Int32) [(.int (99 : Int32)), (.int (97 : Int32)), (.int (108 : Int32)), (.int (108 : Int32))] (.int (0 : Int32)) := Arv.start hfit Ar_w_UsageKind_CALL_written_value h31_w_UsageKind_CALL_written_value hsz_w_UsageKind_CALL_written_value (by decide) rfl ⟨(elem_in ev131 ev117 rfl Ar_w_UsageKind_CALL_written_value.1).2, (elem_in ev132 ev117 rfl Ar_w_UsageKind_CALL_written_value.1).2, (elem_in ev133 ev117 rfl Ar_w_UsageKind_CALL_written_value.1).2, (elem_in ev134 ev117 rfl Ar_w_UsageKind_CALL_written_value.1).2, trivial⟩
  obtain ⟨h31_w_UsageKind_DATA_written_value, hsz_w_UsageKind_DATA_written_value⟩ := own_len Ar_w_UsageKind_DATA_written_value ev118 ev138
  have V_w_UsageKind_DATA_written_value : Arv s s.heap w_UsageKind_DATA_written_value cl_w_UsageKind_DATA_written_value.cls .byte (4 : Int32) [(.int (100 : Int32)), (.int (97 : Int32)), (.int (116 : Int32)), (.int (97 : Int32))] (.int (0 : Int32)) := Arv.start hfit Ar_w_UsageKind_DATA_written_value h31_w_UsageKind_DATA_written_value hsz_w_UsageKind_DATA_written_value (by decide) rfl ⟨(elem_in ev139 ev118 rfl Ar_w_UsageKind_DATA_written_value.1).2, (elem_in ev140 ev118 rfl Ar_w_UsageKind_DATA_written_value.1).2, (elem_in ev141 ev118 rfl Ar_w_UsageKind_DATA_written_value.1).2, (elem_in ev142 ev118 rfl Ar_w_UsageKind_DATA_written_value.1).2, trivial⟩
  obtain ⟨h31_w_UsageKind_LOCAL_DATA_written_value, hsz_w_UsageKind_LOCAL_DATA_written_value⟩ := own_len Ar_w_UsageKind_LOCAL_DATA_written_value ev119 ev148
  have V_w_UsageKind_LOCAL_DATA_written_value : Arv s s.heap w_UsageKind_LOCAL_DATA_written_value cl_w_UsageKind_LOCAL_DATA_written_value.cls .byte (10 : Int32) [(.int (108 : Int32)), (.int (111 : Int32)), (.int (99 : Int32)), (.int (97 : Int32)), (.int (108 : Int32)), (.int (45 : Int32)), (.int (100 : Int32)), (.int (97 : Int32)), (.int (116 : Int32)), (.int (97 : Int32))] (.int (0 : Int32)) := Arv.start hfit Ar_w_UsageKind_LOCAL_DATA_written_value h31_w_UsageKind_LOCAL_DATA_written_value hsz_w_UsageKind_LOCAL_DATA_written_value (by decide) rfl ⟨(elem_in ev154 ev119 rfl Ar_w_UsageKind_LOCAL_DATA_written_value.1).2, (elem_in ev155 ev119 rfl Ar_w_UsageKind_LOCAL_DATA_written_value.1).2, (elem_in ev156 ev119 rfl Ar_w_UsageKind_LOCAL_DATA_written_value.1).2, (elem_in ev157 ev119 rfl Ar_w_UsageKind_LOCAL_DATA_written_value.1).2, (elem_in ev158 ev119 rfl Ar_w_UsageKind_LOCAL_DATA_written_value.1).2, (elem_in ev159 ev119 rfl Ar_w_UsageKind_LOCAL_DATA_written_value.1).2, (elem_in ev160 ev119 rfl Ar_w_UsageKind_LOCAL_DATA_written_value.1).2, (elem_in ev161 ev119 rfl Ar_w_UsageKind_LOCAL_DATA_written_value.1).2, (elem_in ev162 ev119 rfl Ar_w_UsageKind_LOCAL_DATA_written_value.1).2, (elem_in ev163 ev119 rfl Ar_w_UsageKind_LOCAL_DATA_written_value.1).2, trivial⟩
  obtain ⟨zc, evz⟩ := is_v (Cond.before_iff.mp (hsets _ (List.mem_of_getElem? (i := 1) rfl)))
  have SZ : Sta s s.heap "java/lang/String" "COMPACT_STRINGS" "Z" (.int zc) := Sta.start evz (Or.inl (hsets _ (List.mem_of_getElem? (i := 0) rfl)))
  have PZ : ¬ (zc = (0 : Int32)) := gotF (Jvm.Cond.eq_ints evz rfl) (not_v (Cond.before_iff.mp (hsets _ (List.mem_of_getElem? (i := 2) rfl))))
  obtain ⟨n, o, h1, h2, h3, _, L, rfl, hQ, CHX, hq⟩ := rm0 l s _ hw tables_1 i0 i1 w_UsageKind_SMS w_UsageKind_CALL w_UsageKind_DATA w_UsageKind__VALUES w_UsageKind_LOCAL_DATA w_UsageKind_SMS_written w_UsageKind_CALL_written w_UsageKind_DATA_written w_UsageKind_LOCAL_DATA_written w_UsageKind_SMS_written_value w_UsageKind_CALL_written_value w_UsageKind_DATA_written_value w_UsageKind_LOCAL_DATA_written_value cl_w_UsageKind__VALUES.cls cl_w_UsageKind_SMS_written_value.cls cl_w_UsageKind_CALL_written_value.cls cl_w_UsageKind_DATA_written_value.cls cl_w_UsageKind_LOCAL_DATA_written_value.cls zc s.heap s.heap.size (Old.start s) S_UsageKind_SMS E_w_UsageKind_SMS S_UsageKind_CALL E_w_UsageKind_CALL S_UsageKind_DATA E_w_UsageKind_DATA S_UsageKind__VALUES E_w_UsageKind__VALUES S_UsageKind_LOCAL_DATA E_w_UsageKind_LOCAL_DATA F_w_UsageKind_SMS_written E_w_UsageKind_SMS_written F_w_UsageKind_CALL_written E_w_UsageKind_CALL_written F_w_UsageKind_DATA_written E_w_UsageKind_DATA_written F_w_UsageKind_LOCAL_DATA_written E_w_UsageKind_LOCAL_DATA_written F_w_UsageKind_SMS_written_value F_w_UsageKind_CALL_written_value F_w_UsageKind_DATA_written_value F_w_UsageKind_LOCAL_DATA_written_value F_w_UsageKind_CALL_written_coder F_w_UsageKind_SMS_written_coder F_w_UsageKind_DATA_written_coder ne146 F_w_UsageKind_LOCAL_DATA_written_coder ne149 ne150 ne151 ne152 ne153 V_w_UsageKind__VALUES V_w_UsageKind_SMS_written_value V_w_UsageKind_CALL_written_value V_w_UsageKind_DATA_written_value V_w_UsageKind_LOCAL_DATA_written_value SZ PZ p e ha hc hk s m _ below hf ((Spec.applies_iff_loose hf).mp happ).1 ⟨rfl, State.Warmed39.refl s, rfl, CHv.start (own_EW hw) (fun p hp => hcalls.1 p hp) (hsets _ (List.mem_of_getElem? (i := 2) rfl)) (hwk hw 6 rfl) (hwk hw 5 rfl), fun x hx => nomatch hx⟩ trivial
  unfold Q_rm0 at hQ
  obtain ⟨rfl, N, -⟩ := hQ
  refine ⟨n, _, h1, h2, h3, hpost _ _ _ _ _ _ ⟨Cond.after_iff.mpr rfl, Cond.after_iff.mpr (eq_i res_at (Term.int_eval (1)) rfl), trivial⟩ ⟨hq.1, hq.2.1, hq.2.2.1, (hq.2.2.2.sift fun y hy => Or.inr (N y hy)).mono (by decide) (by decide)⟩⟩
theorem main_1_1 : Claimed_1_1 := comes_1 fun _ _ _ _ _ _ h hF => ⟨h.1, hF⟩
theorem main_1_2 : Claimed_1_2 := comes_1 fun _ _ _ _ _ _ h hF => ⟨h.2.1, hF⟩
end Jvm.Pilot.@@N@@
namespace Jvm.Pilot.@@N@@
open Jvm Jvm.ClassFile Sem Op Lib Jvm.Free Jvm.Stand Jvm.Pilot.@@N@@.Jvm.D
/-! MADE BY PROGRAM (witnessworld.py) out of the Statement's table words and the real class files: 22 classes; the members and pool entries that the words name. The judged class is class 1, her method 1. -/
namespace start1
open Jvm.ClassFile
def u (s : String) : CpInfo := .utf8 (stringToUtf16 s)
/-- a pool by its gaps: so many unusable entries, then the entry; so many at the end -/
def gap : Nat → List CpInfo → List CpInfo
  | 0, r => r
  | n + 1, r => .unusable :: gap n r
def poolList (es : List (Nat × CpInfo)) (last : Nat) : List CpInfo := es.foldr (fun e r => gap e.1 (e.2 :: r)) (gap last [])
def pool (es : List (Nat × CpInfo)) (last : Nat) : Array CpInfo := ⟨poolList es last⟩
def fileOf (pool : Array CpInfo) (this : Nat) (attrs : Array Attribute := #[]) (ms : Array MethodInfo := #[]) (fl : Nat := 33) (sup : Nat := 0) (ifs : Array Nat := #[]) (fds : Array FieldInfo := #[]) : ClassFile where
  minorVersion := 0
  majorVersion := 65
  constantPool := pool
  accessFlags := fl
  thisClass := this
  superClass := sup
  interfaces := ifs
  fields := fds
  methods := ms
  attributes := attrs
def plain (name : String) (sup : Option ClassId) : Class where
  name := name
  kind := .ordinary
  loader := none
  accessFlags := 33
  super := sup
  interfaces := #[]
  cf := none
  fields := #[]
  methods := #[]
  instanceTypes := #[]
  staticTypes := #[]
  resolved := #[]
  callSites := []
  init := .initialized
  statics := none
  mirror := none

def pool0 : Array CpInfo := pool [(5, u "<init>"), (0, u "()V"), (1, .class_ 10), (1, u "java/lang/Object"), (85, u "clone"), (0, u "()Ljava/lang/Object;")] 26

def k0c0 : Code := { maxStack := 0, maxLocals := 1, code := object_method_1_code, exceptionTable := #[], attributes := #[] }
def k0m0 : Method := { name := "<init>", desc := "()V", sig := { parameters := [], returnType := none }, accessFlags := 1, code := some k0c0 }
def k0m1 : Method := { name := "clone", desc := "()Ljava/lang/Object;", sig := { parameters := [], returnType := some (.object "java/lang/Object") }, accessFlags := 260, code := none }
/-- java/lang/Object -/
def k0 : Class := { plain "java/lang/Object" none with
  accessFlags := 33
  interfaces := #[]
  cf := some (fileOf pool0 8 #[] #[{ accessFlags := 1, nameIndex := 5, descriptorIndex := 6, attributes := #[] }, { accessFlags := 260, nameIndex := 96, descriptorIndex := 97, attributes := #[] }] 33 0 #[] #[])
  fields := #[]
  methods := #[k0m0, k0m1]
  instanceTypes := #[]
  staticTypes := #[]
  resolved := Array.replicate 124 none
  statics := none }

def pool1 : Array CpInfo := pool [(2, .class_ 4), (1, u "java/lang/Object"), (0, u "<init>"), (0, u "()V"), (0, .fieldref 8 9), (0, .class_ 10), (0, .nameAndType 11 12), (0, u "com/example/bill_run/billrun/UsageKind"), (0, u "CALL"), (0, u "Lcom/example/bill_run/billrun/UsageKind;"), (0, .string 14), (0, u "call"), (0, .fieldref 8 16), (0, .nameAndType 17 12), (0, u "SMS"), (0, .string 19), (0, u "sms"), (0, .fieldref 8 21), (0, .nameAndType 22 12), (0, u "DATA"), (0, .string 24), (0, u "data"), (0, .fieldref 8 26), (0, .nameAndType 27 12), (0, u "LOCAL_DATA"), (0, .string 29), (0, u "local-data"), (0, .methodref 8 31), (0, .nameAndType 32 33), (0, u "toString"), (0, u "()Ljava/lang/String;"), (0, .class_ 35), (0, u "java/lang/String"), (0, .methodref 34 37), (0, .nameAndType 5 38), (0, u "([C)V"), (0, .methodref 8 40), (0, .nameAndType 41 42), (0, u "named"), (0, u "(Ljava/lang/String;)Lcom/example/bill_run/billrun/UsageKind;"), (0, .methodref 34 44), (0, .nameAndType 45 46), (0, u "equals"), (0, u "(Ljava/lang/Object;)Z"), (0, .class_ 48), (0, u "com/example/bill_run/billrun/UsageKindNamedPinLaw"), (2, u "law"), (0, u "(II)Z")] 5

def k1m0 : Method := { name := "<init>", desc := "()V", sig := { parameters := [], returnType := none }, accessFlags := 2, code := none }
def k1c1 : Code := { maxStack := 4, maxLocals := 9, code := code, exceptionTable := #[], attributes := #[] }
def k1m1 : Method := { name := "law", desc := "(II)Z", sig := { parameters := [.int, .int], returnType := some .boolean }, accessFlags := 9, code := some k1c1 }
/-- com/example/bill_run/billrun/UsageKindNamedPinLaw -/
def k1 : Class := { plain "com/example/bill_run/billrun/UsageKindNamedPinLaw" (some 0) with
  accessFlags := 49
  interfaces := #[]
  cf := some (fileOf pool1 47 #[] #[{ accessFlags := 2, nameIndex := 5, descriptorIndex := 6, attributes := #[] }, { accessFlags := 9, nameIndex := 51, descriptorIndex := 52, attributes := #[] }] 49 2 #[] #[])
  fields := #[]
  methods := #[k1m0, k1m1]
  instanceTypes := #[]
  staticTypes := #[]
  resolved := Array.replicate 58 none
  statics := none }

def pool2 : Array CpInfo := pool [(1, .class_ 2), (0, u "java/lang/constant/Constable"), (0, .class_ 4), (0, u "java/lang/Object")] 6

/-- java/lang/constant/Constable -/
def k2 : Class := { plain "java/lang/constant/Constable" (some 0) with
  accessFlags := 1537
  interfaces := #[]
  cf := some (fileOf pool2 1 #[] #[] 1537 3 #[] #[])
  fields := #[]
  methods := #[]
  instanceTypes := #[]
  staticTypes := #[]
  resolved := Array.replicate 11 none
  statics := none }

def pool3 : Array CpInfo := pool [(1, .class_ 2), (0, u "java/lang/Comparable"), (0, .class_ 4), (0, u "java/lang/Object")] 7

/-- java/lang/Comparable -/
def k3 : Class := { plain "java/lang/Comparable" (some 0) with
  accessFlags := 1537
  interfaces := #[]
  cf := some (fileOf pool3 1 #[] #[] 1537 3 #[] #[])
  fields := #[]
  methods := #[]
  instanceTypes := #[]
  staticTypes := #[]
  resolved := Array.replicate 12 none
  statics := none }

def pool4 : Array CpInfo := pool [(1, .class_ 2), (0, u "java/io/Serializable"), (0, .class_ 4), (0, u "java/lang/Object")] 2

/-- java/io/Serializable -/
def k4 : Class := { plain "java/io/Serializable" (some 0) with
  accessFlags := 1537
  interfaces := #[]
  cf := some (fileOf pool4 1 #[] #[] 1537 3 #[] #[])
  fields := #[]
  methods := #[]
  instanceTypes := #[]
  staticTypes := #[]
  resolved := Array.replicate 7 none
  statics := none }

def pool5 : Array CpInfo := pool [(2, .class_ 4), (1, u "java/lang/Enum"), (0, u "name"), (0, u "Ljava/lang/String;"), (2, u "ordinal"), (0, u "I"), (1, .class_ 14), (1, u "java/lang/Object"), (4, u "hash"), (86, .class_ 108), (1, u "java/lang/Enum$EnumDesc"), (2, .class_ 112), (0, u "java/lang/constant/Constable"), (0, .class_ 114), (0, u "java/lang/Comparable"), (0, .class_ 116), (0, u "java/io/Serializable")] 87

/-- java/lang/Enum -/
def k5 : Class := { plain "java/lang/Enum" (some 0) with
  accessFlags := 1057
  interfaces := #[2, 3, 4]
  cf := some (fileOf pool5 2 #[.nestMembers #[106]] #[] 1057 12 #[111, 113, 115] #[{ accessFlags := 18, nameIndex := 5, descriptorIndex := 6, attributes := #[] }, { accessFlags := 18, nameIndex := 9, descriptorIndex := 10, attributes := #[] }, { accessFlags := 2, nameIndex := 19, descriptorIndex := 10, attributes := #[] }])
  fields := #[{ name := "name", type := (.object "java/lang/String"), accessFlags := 18, slot := 0, constantValue := 0 }, { name := "ordinal", type := .int, accessFlags := 18, slot := 1, constantValue := 0 }, { name := "hash", type := .int, accessFlags := 2, slot := 2, constantValue := 0 }]
  methods := #[]
  instanceTypes := #[(.object "java/lang/String"), .int, .int]
  staticTypes := #[]
  resolved := Array.replicate 204 none
  statics := none }

def pool6 : Array CpInfo := pool [(1, .class_ 2), (0, u "com/example/bill_run/billrun/UsageKind"), (2, u "CALL"), (0, u "Lcom/example/bill_run/billrun/UsageKind;"), (2, u "SMS"), (2, u "DATA"), (2, u "LOCAL_DATA"), (0, .fieldref 1 17), (0, .nameAndType 18 19), (0, u "$VALUES"), (0, u "[Lcom/example/bill_run/billrun/UsageKind;"), (0, .methodref 21 22), (0, .class_ 19), (0, .nameAndType 23 24), (0, u "clone"), (0, u "()Ljava/lang/Object;"), (1, .class_ 28), (1, u "java/lang/Enum"), (6, .fieldref 1 36), (0, .nameAndType 37 38), (0, u "written"), (0, u "Ljava/lang/String;"), (0, .methodref 1 40), (0, .nameAndType 41 42), (0, u "values"), (0, u "()[Lcom/example/bill_run/billrun/UsageKind;"), (0, .methodref 44 45), (0, .class_ 46), (0, .nameAndType 47 48), (0, u "java/lang/String"), (0, u "equals"), (0, u "(Ljava/lang/Object;)Z"), (34, u "(Ljava/lang/String;)Lcom/example/bill_run/billrun/UsageKind;"), (2, u "named"), (1, u "toString"), (0, u "()Ljava/lang/String;")] 20

def k6c0 : Code := { maxStack := 1, maxLocals := 0, code := prog_46_method_1_code, exceptionTable := #[], attributes := #[] }
def k6m0 : Method := { name := "values", desc := "()[Lcom/example/bill_run/billrun/UsageKind;", sig := { parameters := [], returnType := some (.array (.object "com/example/bill_run/billrun/UsageKind")) }, accessFlags := 9, code := some k6c0 }
def k6c1 : Code := { maxStack := 3, maxLocals := 5, code := prog_46_method_4_code, exceptionTable := #[], attributes := #[] }
def k6m1 : Method := { name := "named", desc := "(Ljava/lang/String;)Lcom/example/bill_run/billrun/UsageKind;", sig := { parameters := [(.object "java/lang/String")], returnType := some (.object "com/example/bill_run/billrun/UsageKind") }, accessFlags := 8, code := some k6c1 }
def k6c2 : Code := { maxStack := 1, maxLocals := 1, code := prog_46_method_5_code, exceptionTable := #[], attributes := #[] }
def k6m2 : Method := { name := "toString", desc := "()Ljava/lang/String;", sig := { parameters := [], returnType := some (.object "java/lang/String") }, accessFlags := 1, code := some k6c2 }
/-- com/example/bill_run/billrun/UsageKind -/
def k6 : Class := { plain "com/example/bill_run/billrun/UsageKind" (some 5) with
  accessFlags := 16432
  interfaces := #[]
  cf := some (fileOf pool6 1 #[] #[{ accessFlags := 9, nameIndex := 41, descriptorIndex := 42, attributes := #[] }, { accessFlags := 8, nameIndex := 86, descriptorIndex := 83, attributes := #[] }, { accessFlags := 1, nameIndex := 88, descriptorIndex := 89, attributes := #[] }] 16432 26 #[] #[{ accessFlags := 16409, nameIndex := 5, descriptorIndex := 6, attributes := #[] }, { accessFlags := 16409, nameIndex := 9, descriptorIndex := 6, attributes := #[] }, { accessFlags := 16409, nameIndex := 12, descriptorIndex := 6, attributes := #[] }, { accessFlags := 16409, nameIndex := 15, descriptorIndex := 6, attributes := #[] }, { accessFlags := 18, nameIndex := 37, descriptorIndex := 38, attributes := #[] }, { accessFlags := 4122, nameIndex := 18, descriptorIndex := 19, attributes := #[] }])
  fields := #[{ name := "CALL", type := (.object "com/example/bill_run/billrun/UsageKind"), accessFlags := 16409, slot := 0, constantValue := 0 }, { name := "SMS", type := (.object "com/example/bill_run/billrun/UsageKind"), accessFlags := 16409, slot := 1, constantValue := 0 }, { name := "DATA", type := (.object "com/example/bill_run/billrun/UsageKind"), accessFlags := 16409, slot := 2, constantValue := 0 }, { name := "LOCAL_DATA", type := (.object "com/example/bill_run/billrun/UsageKind"), accessFlags := 16409, slot := 3, constantValue := 0 }, { name := "written", type := (.object "java/lang/String"), accessFlags := 18, slot := 3, constantValue := 0 }, { name := "$VALUES", type := (.array (.object "com/example/bill_run/billrun/UsageKind")), accessFlags := 4122, slot := 4, constantValue := 0 }]
  methods := #[k6m0, k6m1, k6m2]
  instanceTypes := #[(.object "java/lang/String"), .int, .int, (.object "java/lang/String")]
  staticTypes := #[(.object "com/example/bill_run/billrun/UsageKind"), (.object "com/example/bill_run/billrun/UsageKind"), (.object "com/example/bill_run/billrun/UsageKind"), (.object "com/example/bill_run/billrun/UsageKind"), (.array (.object "com/example/bill_run/billrun/UsageKind"))]
  resolved := Array.replicate 110 none
  statics := some 0 }

def pool7 : Array CpInfo := pool [(2, .class_ 4), (1, u "java/lang/CharSequence"), (42, .class_ 48), (0, u "java/lang/CharSequence$1CodePointIterator"), (10, .class_ 60), (0, u "java/lang/CharSequence$1CharIterator"), (5, .class_ 67), (0, u "java/lang/Object")] 63

/-- java/lang/CharSequence -/
def k7 : Class := { plain "java/lang/CharSequence" (some 0) with
  accessFlags := 1537
  interfaces := #[]
  cf := some (fileOf pool7 2 #[.nestMembers #[47, 59]] #[] 1537 66 #[] #[])
  fields := #[]
  methods := #[]
  instanceTypes := #[]
  staticTypes := #[]
  resolved := Array.replicate 131 none
  statics := none }

def pool8 : Array CpInfo := pool [(1, .class_ 2), (0, u "java/lang/constant/ConstantDesc"), (0, .class_ 4), (0, u "java/lang/Object")] 32

/-- java/lang/constant/ConstantDesc -/
def k8 : Class := { plain "java/lang/constant/ConstantDesc" (some 0) with
  accessFlags := 1537
  interfaces := #[]
  cf := some (fileOf pool8 1 #[] #[] 1537 3 #[] #[])
  fields := #[]
  methods := #[]
  instanceTypes := #[]
  staticTypes := #[]
  resolved := Array.replicate 37 none
  statics := none }

def pool9 : Array CpInfo := pool [(1, .methodref 2 3), (0, .class_ 4), (0, .nameAndType 5 6), (0, u "java/lang/Object"), (0, u "<init>"), (0, u "()V"), (2, .fieldref 10 11), (0, .class_ 12), (0, .nameAndType 13 14), (0, u "java/lang/String"), (0, u "value"), (0, u "[B"), (0, .fieldref 10 16), (0, .nameAndType 17 18), (0, u "coder"), (0, u "B"), (2, u "hash"), (0, u "I"), (2, u "hashIsZero"), (0, u "Z"), (0, .methodref 10 28), (0, .nameAndType 5 29), (0, u "([CIILjava/lang/Void;)V"), (8, .fieldref 10 39), (0, .nameAndType 40 26), (0, u "COMPACT_STRINGS"), (1, .class_ 44), (1, u "java/lang/StringUTF16"), (0, u "compress"), (1, .methodref 42 48), (0, .nameAndType 49 50), (0, u "coderFromArrayLen"), (0, u "([BI)B"), (56, .class_ 109), (1, u "java/lang/StringLatin1"), (67, .methodref 42 178), (0, .nameAndType 45 179), (0, u "([CII)[B"), (361, .methodref 107 542), (0, .nameAndType 543 544), (0, u "equals"), (0, u "([B[B)Z"), (28, u "(Ljava/lang/Object;)Z"), (1, .class_ 576), (0, u "java/lang/CharSequence"), (22, u "CASE_INSENSITIVE_ORDER"), (0, u "Ljava/util/Comparator;"), (409, u "([C)V"), (90, u "serialPersistentFields"), (0, u "[Ljava/io/ObjectStreamField;"), (0, .class_ 1104), (0, u "java/lang/String$CaseInsensitiveComparator"), (1, .class_ 1107), (0, u "java/io/Serializable"), (0, .class_ 1109), (0, u "java/lang/Comparable"), (0, .class_ 1111), (0, u "java/lang/constant/Constable"), (0, .class_ 1113), (0, u "java/lang/constant/ConstantDesc"), (2, u "serialVersionUID"), (0, u "J"), (3, u "REPL"), (0, u "C"), (2, u "LATIN1"), (1, u "UTF16")] 323

def k9m0 : Method := { name := "<init>", desc := "()V", sig := { parameters := [], returnType := none }, accessFlags := 1, code := none }
def k9c1 : Code := { maxStack := 5, maxLocals := 2, code := jdk_42_method_3_code, exceptionTable := #[], attributes := #[] }
def k9m1 : Method := { name := "<init>", desc := "([C)V", sig := { parameters := [(.array .char)], returnType := none }, accessFlags := 1, code := some k9c1 }
def k9c2 : Code := { maxStack := 2, maxLocals := 3, code := jdk_42_method_66_code, exceptionTable := #[], attributes := #[] }
def k9m2 : Method := { name := "equals", desc := "(Ljava/lang/Object;)Z", sig := { parameters := [(.object "java/lang/Object")], returnType := some .boolean }, accessFlags := 1, code := some k9c2 }
def k9c3 : Code := { maxStack := 4, maxLocals := 6, code := jdk_42_method_149_code, exceptionTable := #[], attributes := #[] }
def k9m3 : Method := { name := "<init>", desc := "([CIILjava/lang/Void;)V", sig := { parameters := [(.array .char), .int, .int, (.object "java/lang/Void")], returnType := none }, accessFlags := 2, code := some k9c3 }
/-- java/lang/String -/
def k9 : Class := { plain "java/lang/String" (some 0) with
  accessFlags := 49
  interfaces := #[4, 3, 7, 2, 8]
  cf := some (fileOf pool9 10 #[.nestMembers #[1103]] #[{ accessFlags := 1, nameIndex := 5, descriptorIndex := 6, attributes := #[] }, { accessFlags := 1, nameIndex := 5, descriptorIndex := 1010, attributes := #[] }, { accessFlags := 1, nameIndex := 543, descriptorIndex := 573, attributes := #[] }, { accessFlags := 2, nameIndex := 5, descriptorIndex := 29, attributes := #[] }] 49 2 #[1106, 1108, 575, 1110, 1112] #[{ accessFlags := 18, nameIndex := 13, descriptorIndex := 14, attributes := #[] }, { accessFlags := 18, nameIndex := 17, descriptorIndex := 18, attributes := #[] }, { accessFlags := 2, nameIndex := 21, descriptorIndex := 22, attributes := #[] }, { accessFlags := 2, nameIndex := 25, descriptorIndex := 26, attributes := #[] }, { accessFlags := 26, nameIndex := 1116, descriptorIndex := 1117, attributes := #[] }, { accessFlags := 24, nameIndex := 40, descriptorIndex := 26, attributes := #[] }, { accessFlags := 26, nameIndex := 1101, descriptorIndex := 1102, attributes := #[] }, { accessFlags := 26, nameIndex := 1121, descriptorIndex := 1122, attributes := #[] }, { accessFlags := 25, nameIndex := 599, descriptorIndex := 600, attributes := #[] }, { accessFlags := 24, nameIndex := 1125, descriptorIndex := 18, attributes := #[] }, { accessFlags := 24, nameIndex := 1127, descriptorIndex := 18, attributes := #[] }])
  fields := #[{ name := "value", type := (.array .byte), accessFlags := 18, slot := 0, constantValue := 0 }, { name := "coder", type := .byte, accessFlags := 18, slot := 1, constantValue := 0 }, { name := "hash", type := .int, accessFlags := 2, slot := 2, constantValue := 0 }, { name := "hashIsZero", type := .boolean, accessFlags := 2, slot := 3, constantValue := 0 }, { name := "serialVersionUID", type := .long, accessFlags := 26, slot := 0, constantValue := 0 }, { name := "COMPACT_STRINGS", type := .boolean, accessFlags := 24, slot := 1, constantValue := 0 }, { name := "serialPersistentFields", type := (.array (.object "java/io/ObjectStreamField")), accessFlags := 26, slot := 2, constantValue := 0 }, { name := "REPL", type := .char, accessFlags := 26, slot := 3, constantValue := 0 }, { name := "CASE_INSENSITIVE_ORDER", type := (.object "java/util/Comparator"), accessFlags := 25, slot := 4, constantValue := 0 }, { name := "LATIN1", type := .byte, accessFlags := 24, slot := 5, constantValue := 0 }, { name := "UTF16", type := .byte, accessFlags := 24, slot := 6, constantValue := 0 }]
  methods := #[k9m0, k9m1, k9m2, k9m3]
  instanceTypes := #[(.array .byte), .byte, .int, .boolean]
  staticTypes := #[.long, .boolean, (.array (.object "java/io/ObjectStreamField")), .char, (.object "java/util/Comparator"), .byte, .byte]
  resolved := Array.replicate 1451 none
  statics := some 1 }

def pool10 : Array CpInfo := pool [(6, .class_ 8), (1, u "java/lang/Object"), (0, u "<init>"), (0, u "()V"), (1, .class_ 14), (1, u "java/lang/StringUTF16"), (31, u "$assertionsDisabled"), (0, u "Z"), (13, u "HI_BYTE_SHIFT"), (0, u "I"), (2, u "LO_BYTE_SHIFT"), (49, .methodref 12 116), (0, .nameAndType 117 118), (0, u "compress"), (0, u "([CI[BII)I"), (3, u "([CII)[B"), (138, u "coderFromArrayLen"), (0, u "([BI)B"), (106, .class_ 371), (1, u "java/lang/StringUTF16$LinesSpliterator"), (58, u "MAX_LENGTH"), (196, .class_ 628), (0, u "java/lang/StringUTF16$CodePointsSpliterator"), (0, .class_ 630), (0, u "java/lang/StringUTF16$CharsSpliterator")] 4

def k10m0 : Method := { name := "<init>", desc := "()V", sig := { parameters := [], returnType := none }, accessFlags := 0, code := none }
def k10c1 : Code := { maxStack := 2, maxLocals := 2, code := jdk_52_method_15_code, exceptionTable := #[], attributes := #[] }
def k10m1 : Method := { name := "coderFromArrayLen", desc := "([BI)B", sig := { parameters := [(.array .byte), .int], returnType := some .byte }, accessFlags := 8, code := some k10c1 }
def k10c2 : Code := { maxStack := 5, maxLocals := 6, code := jdk_52_method_16_code, exceptionTable := #[], attributes := #[] }
def k10m2 : Method := { name := "compress", desc := "([CII)[B", sig := { parameters := [(.array .char), .int, .int], returnType := some (.array .byte) }, accessFlags := 9, code := some k10c2 }
def k10c3 : Code := { maxStack := 3, maxLocals := 7, code := jdk_52_method_21_code, exceptionTable := #[], attributes := #[] }
def k10m3 : Method := { name := "compress", desc := "([CI[BII)I", sig := { parameters := [(.array .char), .int, (.array .byte), .int, .int], returnType := some .int }, accessFlags := 9, code := some k10c3 }
/-- java/lang/StringUTF16 -/
def k10 : Class := { plain "java/lang/StringUTF16" (some 0) with
  accessFlags := 48
  interfaces := #[]
  cf := some (fileOf pool10 12 #[.nestMembers #[627, 629, 369]] #[{ accessFlags := 0, nameIndex := 9, descriptorIndex := 10, attributes := #[] }, { accessFlags := 8, nameIndex := 261, descriptorIndex := 262, attributes := #[] }, { accessFlags := 9, nameIndex := 117, descriptorIndex := 122, attributes := #[] }, { accessFlags := 9, nameIndex := 117, descriptorIndex := 118, attributes := #[] }] 48 6 #[] #[{ accessFlags := 26, nameIndex := 61, descriptorIndex := 62, attributes := #[] }, { accessFlags := 26, nameIndex := 65, descriptorIndex := 62, attributes := #[] }, { accessFlags := 24, nameIndex := 430, descriptorIndex := 62, attributes := #[] }, { accessFlags := 4120, nameIndex := 46, descriptorIndex := 47, attributes := #[] }])
  fields := #[{ name := "HI_BYTE_SHIFT", type := .int, accessFlags := 26, slot := 0, constantValue := 0 }, { name := "LO_BYTE_SHIFT", type := .int, accessFlags := 26, slot := 1, constantValue := 0 }, { name := "MAX_LENGTH", type := .int, accessFlags := 24, slot := 2, constantValue := 0 }, { name := "$assertionsDisabled", type := .boolean, accessFlags := 4120, slot := 3, constantValue := 0 }]
  methods := #[k10m0, k10m1, k10m2, k10m3]
  instanceTypes := #[]
  staticTypes := #[.int, .int, .int, .boolean]
  resolved := Array.replicate 635 none
  statics := none }

def pool11 : Array CpInfo := pool [(1, .class_ 2), (0, u "java/lang/Cloneable"), (0, .class_ 4), (0, u "java/lang/Object")] 2

/-- java/lang/Cloneable -/
def k11 : Class := { plain "java/lang/Cloneable" (some 0) with
  accessFlags := 1537
  interfaces := #[]
  cf := some (fileOf pool11 1 #[] #[] 1537 3 #[] #[])
  fields := #[]
  methods := #[]
  instanceTypes := #[]
  staticTypes := #[]
  resolved := Array.replicate 7 none
  statics := none }

def pool12 : Array CpInfo := pool [(4, .class_ 6), (1, u "java/lang/Object"), (0, u "<init>"), (0, u "()V"), (5, .class_ 16), (1, u "java/lang/StringLatin1"), (104, u "$assertionsDisabled"), (0, u "Z"), (98, .class_ 223), (1, u "java/lang/StringLatin1$LinesSpliterator"), (57, u "equals"), (0, u "([B[B)Z"), (107, .class_ 391), (0, u "java/lang/StringLatin1$CharsSpliterator")] 3

def k12m0 : Method := { name := "<init>", desc := "()V", sig := { parameters := [], returnType := none }, accessFlags := 0, code := none }
def k12c1 : Code := { maxStack := 3, maxLocals := 3, code := jdk_43_method_13_code, exceptionTable := #[], attributes := #[] }
def k12m1 : Method := { name := "equals", desc := "([B[B)Z", sig := { parameters := [(.array .byte), (.array .byte)], returnType := some .boolean }, accessFlags := 9, code := some k12c1 }
/-- java/lang/StringLatin1 -/
def k12 : Class := { plain "java/lang/StringLatin1" (some 0) with
  accessFlags := 48
  interfaces := #[]
  cf := some (fileOf pool12 14 #[.nestMembers #[390, 221]] #[{ accessFlags := 0, nameIndex := 7, descriptorIndex := 8, attributes := #[] }, { accessFlags := 9, nameIndex := 281, descriptorIndex := 282, attributes := #[] }] 48 4 #[] #[{ accessFlags := 4120, nameIndex := 121, descriptorIndex := 122, attributes := #[] }])
  fields := #[{ name := "$assertionsDisabled", type := .boolean, accessFlags := 4120, slot := 0, constantValue := 0 }]
  methods := #[k12m0, k12m1]
  instanceTypes := #[]
  staticTypes := #[.boolean]
  resolved := Array.replicate 395 none
  statics := none }

def pool13 : Array CpInfo := pool [(2, .class_ 4), (1, u "java/lang/Object"), (0, u "<init>"), (0, u "()V"), (17, .class_ 26), (1, u "jdk/internal/util/Preconditions"), (28, .class_ 56), (0, u "jdk/internal/util/Preconditions$4"), (57, .class_ 115), (0, u "jdk/internal/util/Preconditions$1"), (7, u "SIOOBE_FORMATTER"), (0, u "Ljava/util/function/BiFunction;"), (0, .class_ 126), (0, u "jdk/internal/util/Preconditions$2"), (3, u "AIOOBE_FORMATTER"), (0, .class_ 132), (0, u "jdk/internal/util/Preconditions$3"), (3, u "IOOBE_FORMATTER")] 57

def k13m0 : Method := { name := "<init>", desc := "()V", sig := { parameters := [], returnType := none }, accessFlags := 1, code := none }
/-- jdk/internal/util/Preconditions -/
def k13 : Class := { plain "jdk/internal/util/Preconditions" (some 0) with
  accessFlags := 33
  interfaces := #[]
  cf := some (fileOf pool13 24 #[.nestMembers #[55, 131, 125, 114]] #[{ accessFlags := 1, nameIndex := 5, descriptorIndex := 6, attributes := #[] }] 33 2 #[] #[{ accessFlags := 25, nameIndex := 123, descriptorIndex := 124, attributes := #[] }, { accessFlags := 25, nameIndex := 130, descriptorIndex := 124, attributes := #[] }, { accessFlags := 25, nameIndex := 136, descriptorIndex := 124, attributes := #[] }])
  fields := #[{ name := "SIOOBE_FORMATTER", type := (.object "java/util/function/BiFunction"), accessFlags := 25, slot := 0, constantValue := 0 }, { name := "AIOOBE_FORMATTER", type := (.object "java/util/function/BiFunction"), accessFlags := 25, slot := 1, constantValue := 0 }, { name := "IOOBE_FORMATTER", type := (.object "java/util/function/BiFunction"), accessFlags := 25, slot := 2, constantValue := 0 }]
  methods := #[k13m0]
  instanceTypes := #[]
  staticTypes := #[(.object "java/util/function/BiFunction"), (.object "java/util/function/BiFunction"), (.object "java/util/function/BiFunction")]
  resolved := Array.replicate 194 none
  statics := some 2 }

def pool14 : Array CpInfo := pool [(9, u "<init>"), (6, .class_ 18), (1, u "java/lang/Object"), (0, u "()V"), (1, .class_ 23), (1, u "jdk/internal/util/ArraysSupport"), (0, u "LOG2_ARRAY_LONG_INDEX_SCALE"), (0, u "I"), (2, u "U"), (0, u "Ljdk/internal/misc/Unsafe;"), (8, u "BIG_ENDIAN"), (0, u "Z"), (8, u "LOG2_BYTE_BIT_SIZE"), (4, u "LOG2_ARRAY_INT_INDEX_SCALE"), (54, u "JLA"), (0, u "Ljdk/internal/access/JavaLangAccess;"), (11, u "LOG2_ARRAY_BOOLEAN_INDEX_SCALE"), (9, u "LOG2_ARRAY_BYTE_INDEX_SCALE"), (5, u "LOG2_ARRAY_CHAR_INDEX_SCALE"), (5, u "LOG2_ARRAY_SHORT_INDEX_SCALE"), (18, u "LOG2_ARRAY_FLOAT_INDEX_SCALE"), (24, u "LOG2_ARRAY_DOUBLE_INDEX_SCALE"), (89, u "T_BOOLEAN"), (2, u "T_CHAR"), (1, u "T_FLOAT"), (1, u "T_DOUBLE"), (1, u "T_BYTE"), (1, u "T_SHORT"), (1, u "T_INT"), (1, u "T_LONG"), (1, u "SOFT_MAX_ARRAY_LENGTH")] 83

def k14m0 : Method := { name := "<init>", desc := "()V", sig := { parameters := [], returnType := none }, accessFlags := 2, code := none }
/-- jdk/internal/util/ArraysSupport -/
def k14 : Class := { plain "jdk/internal/util/ArraysSupport" (some 0) with
  accessFlags := 33
  interfaces := #[]
  cf := some (fileOf pool14 21 #[] #[{ accessFlags := 2, nameIndex := 9, descriptorIndex := 19, attributes := #[] }] 33 16 #[] #[{ accessFlags := 24, nameIndex := 28, descriptorIndex := 29, attributes := #[] }, { accessFlags := 26, nameIndex := 38, descriptorIndex := 39, attributes := #[] }, { accessFlags := 25, nameIndex := 121, descriptorIndex := 25, attributes := #[] }, { accessFlags := 25, nameIndex := 131, descriptorIndex := 25, attributes := #[] }, { accessFlags := 25, nameIndex := 137, descriptorIndex := 25, attributes := #[] }, { accessFlags := 25, nameIndex := 143, descriptorIndex := 25, attributes := #[] }, { accessFlags := 25, nameIndex := 53, descriptorIndex := 25, attributes := #[] }, { accessFlags := 25, nameIndex := 24, descriptorIndex := 25, attributes := #[] }, { accessFlags := 25, nameIndex := 162, descriptorIndex := 25, attributes := #[] }, { accessFlags := 25, nameIndex := 187, descriptorIndex := 25, attributes := #[] }, { accessFlags := 26, nameIndex := 48, descriptorIndex := 25, attributes := #[] }, { accessFlags := 25, nameIndex := 277, descriptorIndex := 25, attributes := #[] }, { accessFlags := 25, nameIndex := 280, descriptorIndex := 25, attributes := #[] }, { accessFlags := 25, nameIndex := 282, descriptorIndex := 25, attributes := #[] }, { accessFlags := 25, nameIndex := 284, descriptorIndex := 25, attributes := #[] }, { accessFlags := 25, nameIndex := 286, descriptorIndex := 25, attributes := #[] }, { accessFlags := 25, nameIndex := 288, descriptorIndex := 25, attributes := #[] }, { accessFlags := 25, nameIndex := 290, descriptorIndex := 25, attributes := #[] }, { accessFlags := 25, nameIndex := 292, descriptorIndex := 25, attributes := #[] }, { accessFlags := 26, nameIndex := 108, descriptorIndex := 109, attributes := #[] }, { accessFlags := 25, nameIndex := 294, descriptorIndex := 25, attributes := #[] }])
  fields := #[{ name := "U", type := (.object "jdk/internal/misc/Unsafe"), accessFlags := 24, slot := 0, constantValue := 0 }, { name := "BIG_ENDIAN", type := .boolean, accessFlags := 26, slot := 1, constantValue := 0 }, { name := "LOG2_ARRAY_BOOLEAN_INDEX_SCALE", type := .int, accessFlags := 25, slot := 2, constantValue := 0 }, { name := "LOG2_ARRAY_BYTE_INDEX_SCALE", type := .int, accessFlags := 25, slot := 3, constantValue := 0 }, { name := "LOG2_ARRAY_CHAR_INDEX_SCALE", type := .int, accessFlags := 25, slot := 4, constantValue := 0 }, { name := "LOG2_ARRAY_SHORT_INDEX_SCALE", type := .int, accessFlags := 25, slot := 5, constantValue := 0 }, { name := "LOG2_ARRAY_INT_INDEX_SCALE", type := .int, accessFlags := 25, slot := 6, constantValue := 0 }, { name := "LOG2_ARRAY_LONG_INDEX_SCALE", type := .int, accessFlags := 25, slot := 7, constantValue := 0 }, { name := "LOG2_ARRAY_FLOAT_INDEX_SCALE", type := .int, accessFlags := 25, slot := 8, constantValue := 0 }, { name := "LOG2_ARRAY_DOUBLE_INDEX_SCALE", type := .int, accessFlags := 25, slot := 9, constantValue := 0 }, { name := "LOG2_BYTE_BIT_SIZE", type := .int, accessFlags := 26, slot := 10, constantValue := 0 }, { name := "T_BOOLEAN", type := .int, accessFlags := 25, slot := 11, constantValue := 0 }, { name := "T_CHAR", type := .int, accessFlags := 25, slot := 12, constantValue := 0 }, { name := "T_FLOAT", type := .int, accessFlags := 25, slot := 13, constantValue := 0 }, { name := "T_DOUBLE", type := .int, accessFlags := 25, slot := 14, constantValue := 0 }, { name := "T_BYTE", type := .int, accessFlags := 25, slot := 15, constantValue := 0 }, { name := "T_SHORT", type := .int, accessFlags := 25, slot := 16, constantValue := 0 }, { name := "T_INT", type := .int, accessFlags := 25, slot := 17, constantValue := 0 }, { name := "T_LONG", type := .int, accessFlags := 25, slot := 18, constantValue := 0 }, { name := "JLA", type := (.object "jdk/internal/access/JavaLangAccess"), accessFlags := 26, slot := 19, constantValue := 0 }, { name := "SOFT_MAX_ARRAY_LENGTH", type := .int, accessFlags := 25, slot := 20, constantValue := 0 }]
  methods := #[k14m0]
  instanceTypes := #[]
  staticTypes := #[(.object "jdk/internal/misc/Unsafe"), .boolean, .int, .int, .int, .int, .int, .int, .int, .int, .int, .int, .int, .int, .int, .int, .int, .int, .int, (.object "jdk/internal/access/JavaLangAccess"), .int]
  resolved := Array.replicate 378 none
  statics := none }

/-- the primitive byte -/
def k15 : Class := { plain "byte" none with kind := .primitive 'B', accessFlags := 0x411 }
/-- [B -/
def k16 : Class := { plain "[B" (some 0) with kind := .array 15 .byte, interfaces := #[11, 4], accessFlags := 1041 }

/-- the primitive char -/
def k17 : Class := { plain "char" none with kind := .primitive 'C', accessFlags := 0x411 }
/-- [C -/
def k18 : Class := { plain "[C" (some 0) with kind := .array 17 .char, interfaces := #[11, 4], accessFlags := 1041 }

/-- the primitive int -/
def k19 : Class := { plain "int" none with kind := .primitive 'I', accessFlags := 0x411 }
/-- [I -/
def k20 : Class := { plain "[I" (some 0) with kind := .array 19 .int, interfaces := #[11, 4], accessFlags := 1041 }

/-- [Lcom/example/bill_run/billrun/UsageKind; -/
def k21 : Class := { plain "[Lcom/example/bill_run/billrun/UsageKind;" (some 0) with kind := .array 6 (.object "com/example/bill_run/billrun/UsageKind"), interfaces := #[11, 4], accessFlags := 1041 }

def heap : Heap := #[{ cls := 6, slots := #[.ref 6, .ref 9, .ref 12, .ref 15, .ref 3], vm := .statics 6 },
  { cls := 9, slots := #[.long 0, .int 1, .null, .int 0, .null, .int 0, .int 0], vm := .statics 9 },
  { cls := 13, slots := #[.null, .null, .null], vm := .statics 13 },
  { cls := 21, slots := #[.ref 6, .ref 9, .ref 12, .ref 15], vm := .none },
  { cls := 16, slots := #[.int 99, .int 97, .int 108, .int 108], vm := .none },
  { cls := 9, slots := #[.ref 4, .int 0, .int 0, .int 0], vm := .none },
  { cls := 6, slots := #[.null, .int 0, .int 0, .ref 5], vm := .none },
  { cls := 16, slots := #[.int 115, .int 109, .int 115], vm := .none },
  { cls := 9, slots := #[.ref 7, .int 0, .int 0, .int 0], vm := .none },
  { cls := 6, slots := #[.null, .int 1, .int 0, .ref 8], vm := .none },
  { cls := 16, slots := #[.int 100, .int 97, .int 116, .int 97], vm := .none },
  { cls := 9, slots := #[.ref 10, .int 0, .int 0, .int 0], vm := .none },
  { cls := 6, slots := #[.null, .int 2, .int 0, .ref 11], vm := .none },
  { cls := 16, slots := #[.int 108, .int 111, .int 99, .int 97, .int 108, .int 45, .int 100, .int 97, .int 116, .int 97], vm := .none },
  { cls := 9, slots := #[.ref 13, .int 0, .int 0, .int 0], vm := .none },
  { cls := 6, slots := #[.null, .int 3, .int 0, .ref 14], vm := .none }]
def classes : Array Class := #[k0, k1, k2, k3, k4, k5, k6, k7, k8, k9, k10, k11, k12, k13, k14, k15, k16, k17, k18, k19, k20, k21]
def interned : List (Array UInt16 × Addr) := []
def slotsUsed : Nat := 72
def theMethod : MethodId := ⟨1, 1⟩
def args0 : Array Value := #[.int 1, .int 2]
def aboutOver (below : List Frame) : State where
  vm := { classes := classes, interned := interned.toArray }
  heap := heap
  slotsUsed := slotsUsed
  threads := #[{ frames := .invoking theMethod args0 :: below }]
def below0 : List Frame := [.native { method := ⟨0, 0⟩, args := #[] }]
def about1 : State := aboutOver below0
def p0 : Program := .bare "" "" ""
def e0 : Env := launch0.env 0 0 0
theorem w_frames : about1.frames = Frame.invoking theMethod args0 :: below0 := rfl
set_option maxRecDepth 65536 in
theorem w_args : argsFit about1.vm theMethod args0 = true := by decide +kernel
set_option maxRecDepth 65536 in
theorem w_heap : heapFits about1 = true := by decide +kernel
set_option maxRecDepth 65536 in
theorem w_runnable : about1.curStatus? = some .runnable := by decide +kernel
set_option maxRecDepth 65536 in
theorem w_alone : about1.alone = true := by decide +kernel
set_option maxRecDepth 65536 in
theorem w_named : about1.methodNamed? x = some theMethod := by decide +kernel
set_option maxRecDepth 65536 in
theorem w_hears : about1.hears theMethod below0 = true := by decide +kernel
set_option maxRecDepth 65536 in
theorem w_ripe : about1.ripe theMethod args0 below0 = true := by decide +kernel
theorem w_running : about1.status = .running := rfl
set_option maxRecDepth 65536 in
theorem w_room : about1.hasRoom e0.platform room_1 = true :=
  launch0.hasRoom_least _ room_1 (by decide +kernel) (by decide +kernel) (by decide +kernel) (by decide +kernel) (by decide +kernel) (by decide +kernel)
theorem allAtoms_all (ts : List Jvm.Cond) (a : Array Jvm.Value) (st : Jvm.State) : (allAtoms ts).before a st = ts.all (fun c => c.before a st) := by
  induction ts with
  | nil => rfl
  | cons c t ih =>
    show (Jvm.Cond.and c (allAtoms t)).before a st = _
    rw [Jvm.Cond.before_and, ih, List.all_cons]
def words1 : List Jvm.Cond := Jvm.Cond.code x code maxLocals ret :: tables_1
/-- a 'code' word, met by the world's own term for the bytes: nothing is compared byte by byte -/
theorem code_word {y : MethodName} {bytes : ByteArray} {mx : Nat} {rt : Option FieldType} {a : Array Value} {s : State} {m : MethodId} {meth : Method} {c : Code} (h1 : s.methodNamed? y = some m) (h2 : s.vm.method? m = some meth) (h3 : meth.code = some c) (h4 : c.code = bytes)
    (h5 : (c.maxLocals == mx && c.exceptionTable.isEmpty && decide (c.maxStack ≤ mostOperands) && decide (meth.sig.returnType = rt) && !meth.locks && decide (parseMethodDescriptor y.desc = some meth.sig)) = true) : (Jvm.Cond.code y bytes mx rt).before a s = true := by
  simp only [Bool.and_eq_true, beq_iff_eq, Bool.not_eq_true', decide_eq_true_eq] at h5
  obtain ⟨⟨⟨⟨⟨g1, g2⟩, g3⟩, g4⟩, g5⟩, g6⟩ := h5
  simp [Cond.before, Cond.holds, Cond.value, h1, h2, h3, h4, g1, g2, g3, g4, g5, g6]
def isCode : Jvm.Cond → Bool
  | .code _ _ _ _ => true
  | _ => false
theorem all_split {L : List Jvm.Cond} {P : Jvm.Cond → Bool} (h1 : L.all (fun c => isCode c || P c) = true) (h2 : ∀ c ∈ L.filter isCode, P c = true) : L.all P = true := by
  refine List.all_eq_true.mpr fun c hc => ?_
  have h := List.all_eq_true.mp h1 c hc
  rcases Bool.eq_false_or_eq_true (isCode c) with hi | hi
  · exact h2 c (List.mem_filter.mpr ⟨hc, hi⟩)
  · simpa [hi] using h
set_option maxRecDepth 65536 in
theorem w_c0 : (Jvm.Cond.code x code maxLocals ret).before args0 about1 = true := code_word (m := ⟨1, 1⟩) (meth := k1m1) (c := k1c1) (by decide +kernel) rfl rfl rfl (by decide +kernel)
set_option maxRecDepth 65536 in
theorem w_c1 : (Jvm.Cond.code ({ cls := "java/lang/String", name := "<init>", desc := "([C)V" } : Jvm.MethodName) jdk_42_method_3_code (2 : Nat) (Option.none : Option Jvm.ClassFile.FieldType)).before args0 about1 = true := code_word (m := ⟨9, 1⟩) (meth := k9m1) (c := k9c1) (by decide +kernel) rfl rfl rfl (by decide +kernel)
set_option maxRecDepth 65536 in
theorem w_c2 : (Jvm.Cond.code ({ cls := "java/lang/String", name := "<init>", desc := "([CIILjava/lang/Void;)V" } : Jvm.MethodName) jdk_42_method_149_code (6 : Nat) (Option.none : Option Jvm.ClassFile.FieldType)).before args0 about1 = true := code_word (m := ⟨9, 3⟩) (meth := k9m3) (c := k9c3) (by decide +kernel) rfl rfl rfl (by decide +kernel)
set_option maxRecDepth 65536 in
theorem w_c3 : (Jvm.Cond.code ({ cls := "java/lang/Object", name := "<init>", desc := "()V" } : Jvm.MethodName) object_method_1_code (1 : Nat) (Option.none : Option Jvm.ClassFile.FieldType)).before args0 about1 = true := code_word (m := ⟨0, 0⟩) (meth := k0m0) (c := k0c0) (by decide +kernel) rfl rfl rfl (by decide +kernel)
set_option maxRecDepth 65536 in
theorem w_c4 : (Jvm.Cond.code ({ cls := "java/lang/StringUTF16", name := "compress", desc := "([CII)[B" } : Jvm.MethodName) jdk_52_method_16_code (6 : Nat) (Option.some (Jvm.ClassFile.FieldType.array Jvm.ClassFile.FieldType.byte))).before args0 about1 = true := code_word (m := ⟨10, 2⟩) (meth := k10m2) (c := k10c2) (by decide +kernel) rfl rfl rfl (by decide +kernel)
set_option maxRecDepth 65536 in
theorem w_c5 : (Jvm.Cond.code ({ cls := "java/lang/StringUTF16", name := "compress", desc := "([CI[BII)I" } : Jvm.MethodName) jdk_52_method_21_code (7 : Nat) (Option.some Jvm.ClassFile.FieldType.int)).before args0 about1 = true := code_word (m := ⟨10, 3⟩) (meth := k10m3) (c := k10c3) (by decide +kernel) rfl rfl rfl (by decide +kernel)
set_option maxRecDepth 65536 in
theorem w_c6 : (Jvm.Cond.code ({ cls := "java/lang/StringUTF16", name := "coderFromArrayLen", desc := "([BI)B" } : Jvm.MethodName) jdk_52_method_15_code (2 : Nat) (Option.some Jvm.ClassFile.FieldType.byte)).before args0 about1 = true := code_word (m := ⟨10, 1⟩) (meth := k10m1) (c := k10c1) (by decide +kernel) rfl rfl rfl (by decide +kernel)
set_option maxRecDepth 65536 in
theorem w_c7 : (Jvm.Cond.code ({ cls := "com/example/bill_run/billrun/UsageKind", name := "named", desc := "(Ljava/lang/String;)Lcom/example/bill_run/billrun/UsageKind;" } : Jvm.MethodName) prog_46_method_4_code (5 : Nat) (Option.some (Jvm.ClassFile.FieldType.object "com/example/bill_run/billrun/UsageKind"))).before args0 about1 = true := code_word (m := ⟨6, 1⟩) (meth := k6m1) (c := k6c1) (by decide +kernel) rfl rfl rfl (by decide +kernel)
set_option maxRecDepth 65536 in
theorem w_c8 : (Jvm.Cond.code ({ cls := "com/example/bill_run/billrun/UsageKind", name := "values", desc := "()[Lcom/example/bill_run/billrun/UsageKind;" } : Jvm.MethodName) prog_46_method_1_code (0 : Nat) (Option.some (Jvm.ClassFile.FieldType.array (Jvm.ClassFile.FieldType.object "com/example/bill_run/billrun/UsageKind")))).before args0 about1 = true := code_word (m := ⟨6, 0⟩) (meth := k6m0) (c := k6c0) (by decide +kernel) rfl rfl rfl (by decide +kernel)
set_option maxRecDepth 65536 in
theorem w_c9 : (Jvm.Cond.code ({ cls := "java/lang/String", name := "equals", desc := "(Ljava/lang/Object;)Z" } : Jvm.MethodName) jdk_42_method_66_code (3 : Nat) (Option.some Jvm.ClassFile.FieldType.boolean)).before args0 about1 = true := code_word (m := ⟨9, 2⟩) (meth := k9m2) (c := k9c2) (by decide +kernel) rfl rfl rfl (by decide +kernel)
set_option maxRecDepth 65536 in
theorem w_c10 : (Jvm.Cond.code ({ cls := "java/lang/StringLatin1", name := "equals", desc := "([B[B)Z" } : Jvm.MethodName) jdk_43_method_13_code (3 : Nat) (Option.some Jvm.ClassFile.FieldType.boolean)).before args0 about1 = true := code_word (m := ⟨12, 1⟩) (meth := k12m1) (c := k12c1) (by decide +kernel) rfl rfl rfl (by decide +kernel)
set_option maxRecDepth 65536 in
theorem w_c11 : (Jvm.Cond.code ({ cls := "com/example/bill_run/billrun/UsageKind", name := "toString", desc := "()Ljava/lang/String;" } : Jvm.MethodName) prog_46_method_5_code (1 : Nat) (Option.some (Jvm.ClassFile.FieldType.object "java/lang/String"))).before args0 about1 = true := code_word (m := ⟨6, 2⟩) (meth := k6m2) (c := k6c2) (by decide +kernel) rfl rfl rfl (by decide +kernel)
def codes1 : List Jvm.Cond := [Jvm.Cond.code x code maxLocals ret, Jvm.Cond.code ({ cls := "java/lang/String", name := "<init>", desc := "([C)V" } : Jvm.MethodName) jdk_42_method_3_code (2 : Nat) (Option.none : Option Jvm.ClassFile.FieldType), Jvm.Cond.code ({ cls := "java/lang/String", name := "<init>", desc := "([CIILjava/lang/Void;)V" } : Jvm.MethodName) jdk_42_method_149_code (6 : Nat) (Option.none : Option Jvm.ClassFile.FieldType), Jvm.Cond.code ({ cls := "java/lang/Object", name := "<init>", desc := "()V" } : Jvm.MethodName) object_method_1_code (1 : Nat) (Option.none : Option Jvm.ClassFile.FieldType), Jvm.Cond.code ({ cls := "java/lang/StringUTF16", name := "compress", desc := "([CII)[B" } : Jvm.MethodName) jdk_52_method_16_code (6 : Nat) (Option.some (Jvm.ClassFile.FieldType.array Jvm.ClassFile.FieldType.byte)), Jvm.Cond.code ({ cls := "java/lang/StringUTF16", name := "compress", desc := "([CI[BII)I" } : Jvm.MethodName) jdk_52_method_21_code (7 : Nat) (Option.some Jvm.ClassFile.FieldType.int), Jvm.Cond.code ({ cls := "java/lang/StringUTF16", name := "coderFromArrayLen", desc := "([BI)B" } : Jvm.MethodName) jdk_52_method_15_code (2 : Nat) (Option.some Jvm.ClassFile.FieldType.byte), Jvm.Cond.code ({ cls := "com/example/bill_run/billrun/UsageKind", name := "named", desc := "(Ljava/lang/String;)Lcom/example/bill_run/billrun/UsageKind;" } : Jvm.MethodName) prog_46_method_4_code (5 : Nat) (Option.some (Jvm.ClassFile.FieldType.object "com/example/bill_run/billrun/UsageKind")), Jvm.Cond.code ({ cls := "com/example/bill_run/billrun/UsageKind", name := "values", desc := "()[Lcom/example/bill_run/billrun/UsageKind;" } : Jvm.MethodName) prog_46_method_1_code (0 : Nat) (Option.some (Jvm.ClassFile.FieldType.array (Jvm.ClassFile.FieldType.object "com/example/bill_run/billrun/UsageKind"))), Jvm.Cond.code ({ cls := "java/lang/String", name := "equals", desc := "(Ljava/lang/Object;)Z" } : Jvm.MethodName) jdk_42_method_66_code (3 : Nat) (Option.some Jvm.ClassFile.FieldType.boolean), Jvm.Cond.code ({ cls := "java/lang/StringLatin1", name := "equals", desc := "([B[B)Z" } : Jvm.MethodName) jdk_43_method_13_code (3 : Nat) (Option.some Jvm.ClassFile.FieldType.boolean), Jvm.Cond.code ({ cls := "com/example/bill_run/billrun/UsageKind", name := "toString", desc := "()Ljava/lang/String;" } : Jvm.MethodName) prog_46_method_5_code (1 : Nat) (Option.some (Jvm.ClassFile.FieldType.object "java/lang/String"))]
set_option maxRecDepth 65536 in
theorem codes_eq : words1.filter isCode = codes1 := rfl
theorem w_codes : ∀ c ∈ words1.filter isCode, c.before args0 about1 = true := by
  rw [codes_eq]
  intro c hc
  simp only [codes1, List.mem_cons, List.not_mem_nil, or_false] at hc
  rcases hc with rfl | rfl | rfl | rfl | rfl | rfl | rfl | rfl | rfl | rfl | rfl | rfl
  · exact w_c0
  · exact w_c1
  · exact w_c2
  · exact w_c3
  · exact w_c4
  · exact w_c5
  · exact w_c6
  · exact w_c7
  · exact w_c8
  · exact w_c9
  · exact w_c10
  · exact w_c11
set_option maxRecDepth 65536 in
theorem w_t1 : (words1.take 24).all (fun c => isCode c || c.before args0 about1) = true := by decide +kernel
set_option maxRecDepth 65536 in
theorem w_t2 : ((words1.drop 24).take 24).all (fun c => isCode c || c.before args0 about1) = true := by decide +kernel
set_option maxRecDepth 65536 in
theorem w_t3 : (((words1.drop 24).drop 24).take 24).all (fun c => isCode c || c.before args0 about1) = true := by decide +kernel
set_option maxRecDepth 65536 in
theorem w_t4 : (((words1.drop 24).drop 24).drop 24).all (fun c => isCode c || c.before args0 about1) = true := by decide +kernel
theorem w_tables : (allAtoms (Jvm.Cond.code x code maxLocals ret :: tables_1)).before args0 about1 = true := by
  rw [allAtoms_all]
  show words1.all (fun c => c.before args0 about1) = true
  refine all_split ?_ w_codes
  rw [← List.take_append_drop 24 words1, List.all_append, w_t1, ← List.take_append_drop 24 (words1.drop 24), List.all_append, w_t2, ← List.take_append_drop 24 ((words1.drop 24).drop 24), List.all_append, w_t3, w_t4]
  rfl
set_option maxRecDepth 65536 in
theorem w_rest : rest_1_c.before args0 about1 = true := by decide +kernel
set_option maxRecDepth 65536 in
theorem w_case : (Jvm.Cond.and given_1 narrow_1).before args0 about1 = true := by decide +kernel
set_option maxRecDepth 65536 in
theorem w_consts : constsHeld consts_1 about1 := Jvm.Lit.constsHeldB_iff.mp (by decide +kernel)
theorem w_applies : (headSpec (Jvm.Cond.code x code maxLocals ret :: tables_1) room_1).applies x e0.platform about1 = true :=
  (Spec.applies_iff w_frames).mpr ⟨w_running, w_runnable, w_alone, w_named, w_hears, w_ripe, w_room, w_tables⟩
theorem atStart : AtStart classFile x code maxLocals ret World_1 tables_1 room_1 Calls_1 rest_1 Pre_1 launch0 p0 e0 about1 theMethod args0 below0 :=
  ⟨lists_1, trivial, launch0.admits_env _ _ _, launch0.least_env, fairChoices_fair.cas, fairChoices_fair.clock, w_frames, w_args, w_heap, w_applies, ⟨w_consts, trivial⟩, w_rest, w_case⟩
end start1
theorem witness_1 : WitnessClaimed_1 := ⟨start1.p0, start1.e0, start1.about1, start1.theMethod, start1.args0, start1.below0, start1.atStart⟩
end Jvm.Pilot.@@N@@

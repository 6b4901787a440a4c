import JvmDerived
import JvmDerived.Pilot.@@N@@Statement
import JvmDerived.Pilot.@@N@@Code
set_option linter.unusedVariables false
set_option linter.unusedSimpArgs false
namespace Jvm.Pilot.@@N@@
open Jvm Jvm.ClassFile Sem Op Lib Jvm.Free Jvm.Stand Jvm.LawKit Jvm.RoadKit Bundle Jvm.Pilot.@@N@@.Jvm.D
theorem hwk {ts : List Jvm.Cond} {a0 : Array Value} {Z : State} (hw : ∀ d ∈ ts, d.before a0 Z = true) (i : Nat) {d : Jvm.Cond} (h : ts[i]? = some d) : d.before a0 Z = true := hw d (List.mem_of_getElem? h)
theorem old_le {Z : State} {n0 : Nat} {h : Heap} (O : Old Z n0 h) : n0 ≤ h.size := O.1 ▸ O.2.1
theorem narrow_refV {t : FieldType} {v : Value} (ht : t.isReference = true) (hv : v.isRef = true) : narrow t v = v := by rcases ref_cases hv with rfl | ⟨a, rfl⟩ <;> cases t <;> first | rfl | cases ht
theorem fits_refV {t : FieldType} {v : Value} (ht : t.isReference = true) (hv : v.isRef = true) : fits t v = true := by rcases ref_cases hv with rfl | ⟨a, rfl⟩ <;> cases t <;> first | rfl | cases ht
def SameStand {p : Program} {l : Launch} {e : Env} {R : Room} {s : State} {m : MethodId} {args : Array Value} {below : List Frame} {meth : Method} {c : Code} {T : State} {locs : List Loc} {cells slots : Nat} (_ : Stand p l e R s m args below meth c T locs cells slots) (T' : State) : Prop := Stand p l e R s m args below meth c T' locs cells slots
def WideStand {p : Program} {l : Launch} {e : Env} {R : Room} {s : State} {m : MethodId} {args : Array Value} {below : List Frame} {meth : Method} {c : Code} {T : State} {locs : List Loc} {cells slots : Nat} (_ : Stand p l e R s m args below meth c T locs cells slots) (s' T' : State) (dc ds : Nat) : Prop := Stand p l e R s' m args below meth c T' locs (cells + dc) (slots + ds)
def JoinStand {p : Program} {l : Launch} {e : Env} {R : Room} {s : State} {m : MethodId} {args : Array Value} {below : List Frame} {meth : Method} {c : Code} {T : State} {locs : List Loc} {cells slots : Nat} (_ : Stand p l e R s m args below meth c T locs cells slots) (s' T' : State) (L' : List Loc) (dc ds : Nat) : Prop := Stand p l e R s' m args below meth c T' (locs ++ L') (cells + dc) (slots + ds)
theorem own_jn {p : Program} {l : Launch} {e : Env} {R : Room} {s : State} {m : MethodId} {args : Array Value} {below : List Frame} {meth : Method} {c : Code} {T : State} {locs : List Loc} {cells slots : Nat} (X : Stand p l e R s m args below meth c T locs cells slots) : Stand p l e R s m args below meth c T (locs ++ []) cells slots := by rw [List.append_nil]; exact X
theorem own_ext {h h' h'' : Heap} (a : Ext h h') (b : Ext h' h'') : Ext h h'' := ⟨Nat.le_trans a.1 b.1, fun x c q => b.2 x c (a.2 x c q)⟩
theorem own_ite {c : Prop} [Decidable c] {a b : Value} (ha : a.isRef = true) (hb : b.isRef = true) : (if c then a else b).isRef = true := by split <;> assumption
theorem own_eqI {args : Array Value} {s : State} {a b : Term} {n : Int32} (h : (Jvm.Cond.eq a b).value args s none s [] = some true) (hb : b.eval args s none [] s = some (.int n)) : a.eval args s none [] s = some (.int n) := by
  obtain ⟨x, y, h1, h2, h3, h4⟩ := cmp_v (Or.inl h)
  cases h2.symm.trans hb
  obtain ⟨z, rfl⟩ := h4
  have q := gotT (Jvm.Cond.eq_ints h1 hb) h
  rw [h1, q]
theorem own_eqR {args : Array Value} {s : State} {a b : Term} {x y : Value} (h : (Jvm.Cond.eq a b).value args s none s [] = some true) (ha : a.eval args s none [] s = some x) (hb : b.eval args s none [] s = some y) (hx : x.isRef = true) (hy : y.isRef = true) : x = y := gotT (eq_R ha hb hx hy) h
theorem own_neR {args : Array Value} {s : State} {a b : Term} {x y : Value} (h : (Jvm.Cond.not (Jvm.Cond.eq a b)).value args s none s [] = some true) (ha : a.eval args s none [] s = some x) (hb : b.eval args s none [] s = some y) (hx : x.isRef = true) (hy : y.isRef = true) : ¬ x = y := gotF (eq_R ha hb hx hy) (not_v h)
theorem own_str {a0 : Array Value} {Z : State} (hw : ∀ d ∈ tables_1, d.before a0 Z = true) : ∀ a ∈ Bundle.stringAtoms, a.before a0 Z = true := fun a ha => by
  simp only [Bundle.stringAtoms, List.mem_cons, List.not_mem_nil, or_false] at ha
  rcases ha with rfl | rfl | rfl | rfl | rfl | rfl | rfl
  · exact (hwk hw 13 rfl)
  · exact (hwk hw 21 rfl)
  · exact (hwk hw 25 rfl)
  · exact (hwk hw 34 rfl)
  · exact (hwk hw 36 rfl)
  · exact (hwk hw 44 rfl)
  · exact (hwk hw 45 rfl)

theorem own_rem (x m : Int32) (hm : (0 : Int32) < m) : ¬ ((x &&& (2147483647 : Int32)) % m) < (0 : Int32) ∧ ((x &&& (2147483647 : Int32)) % m) < m := by
  have h1 := (c_and x (2147483647 : Int32) (by decide)).1
  rw [Int32.lt_iff_toInt_lt] at hm ⊢
  rw [Int32.lt_iff_toInt_lt]
  have e0 : (0 : Int32).toInt = 0 := by decide
  rw [e0] at hm ⊢
  have h2 := (c_iremV (x &&& (2147483647 : Int32)) m).1 h1 hm
  omega

theorem own_chm (x : Int32) : ¬ ((255 : Int32) < ((x &&& (255 : Int32)).toUInt32.toUInt16.toUInt32.toInt32)) := by
  rw [i2c_mask]
  have h := c_and x (255 : Int32) (by decide)
  rw [Int32.lt_iff_toInt_lt]
  omega

theorem ef_rm1 (m : MethodId) (x0 : Int32) : entryFrame m #[(.int x0)] 1 = mkF m 0 #[.val (.int x0)] [] := by first | (simp [entryFrame, mkF, argsToLocals, Value.category]; done) | rfl
def V1 (p : Int32) (a b c d : Addr) : Addr := if p = 0 then a else if p = 1 then b else if p = 2 then c else d
def Q_rm1 (Z : State) (p1 : Int32) (w_Execution_PENDING : Addr) (w_Execution_NOT_EXECUTED : Addr) (w_Execution_EXECUTED : Addr) (w_Execution_UNKNOWN : Addr) (h0 : Heap) (n0 : Nat) (v : Option Value) (h : Heap) (L : List Loc) : Prop := (v = some (.ref (V1 p1 w_Execution_PENDING w_Execution_NOT_EXECUTED w_Execution_EXECUTED w_Execution_UNKNOWN))) ∧ (Fr n0 L) ∧ (h = h0)
theorem pn_0 : plainName "com/example/done_once/doneonce/store/RequestEndedPinLaw" = true := by first | (simp [plainName, overriddenIn]; done) | decide +kernel
theorem d1_0 : decode method_3_code 0 = .ok (.iload_n 0, 1) := by decide +kernel
theorem d1_1 : decode method_3_code 1 = .ok (.ifCond .ne 7, 3) := by decide +kernel
theorem d1_4 : decode method_3_code 4 = .ok (.getstatic 28, 3) := by decide +kernel
theorem d1_7 : decode method_3_code 7 = .ok (.areturn, 1) := by decide +kernel
theorem d1_8 : decode method_3_code 8 = .ok (.iload_n 0, 1) := by decide +kernel
theorem d1_9 : decode method_3_code 9 = .ok (.iconst 1, 1) := by decide +kernel
theorem d1_10 : decode method_3_code 10 = .ok (.if_icmp .ne 7, 3) := by decide +kernel
theorem d1_13 : decode method_3_code 13 = .ok (.getstatic 34, 3) := by decide +kernel
theorem d1_16 : decode method_3_code 16 = .ok (.areturn, 1) := by decide +kernel
theorem d1_17 : decode method_3_code 17 = .ok (.iload_n 0, 1) := by decide +kernel
theorem d1_18 : decode method_3_code 18 = .ok (.iconst 2, 1) := by decide +kernel
theorem d1_19 : decode method_3_code 19 = .ok (.if_icmp .ne 7, 3) := by decide +kernel
theorem d1_22 : decode method_3_code 22 = .ok (.getstatic 37, 3) := by decide +kernel
theorem d1_25 : decode method_3_code 25 = .ok (.areturn, 1) := by decide +kernel
theorem d1_26 : decode method_3_code 26 = .ok (.getstatic 40, 3) := by decide +kernel
theorem d1_29 : decode method_3_code 29 = .ok (.areturn, 1) := by decide +kernel
set_option maxRecDepth 65536 in
set_option maxHeartbeats 40000000 in
theorem rm1 (l : Launch) (Z : State) (a0 : Array Value) (hw : ∀ d ∈ tables_1, d.before a0 Z = true) (ws : List Jvm.Cond) (p1 : Int32) (w_Execution_PENDING : Addr) (w_Execution_NOT_EXECUTED : Addr) (w_Execution_EXECUTED : Addr) (w_Execution_UNKNOWN : Addr) (h0 : Heap) (n0 : Nat) (O0 : Old Z n0 h0) (S_Execution_PENDING : Sta Z Z.heap "com/example/done_once/doneonce/core/Execution" "PENDING" "Lcom/example/done_once/doneonce/core/Execution;" (.ref w_Execution_PENDING)) (S_Execution_NOT_EXECUTED : Sta Z Z.heap "com/example/done_once/doneonce/core/Execution" "NOT_EXECUTED" "Lcom/example/done_once/doneonce/core/Execution;" (.ref w_Execution_NOT_EXECUTED)) (S_Execution_EXECUTED : Sta Z Z.heap "com/example/done_once/doneonce/core/Execution" "EXECUTED" "Lcom/example/done_once/doneonce/core/Execution;" (.ref w_Execution_EXECUTED)) (S_Execution_UNKNOWN : Sta Z Z.heap "com/example/done_once/doneonce/core/Execution" "UNKNOWN" "Lcom/example/done_once/doneonce/core/Execution;" (.ref w_Execution_UNKNOWN)) :
    MetFree l (⟨"com/example/done_once/doneonce/store/RequestEndedPinLaw", "execution", "(I)Lcom/example/done_once/doneonce/core/Execution;"⟩ : MethodName) (head1 (Jvm.Cond.code (⟨"com/example/done_once/doneonce/store/RequestEndedPinLaw", "execution", "(I)Lcom/example/done_once/doneonce/core/Execution;"⟩ : MethodName) method_3_code 1 (some (.object "com/example/done_once/doneonce/core/Execution")) :: ws) ({ frames := 0, cells := 0, slots := 0, locals := 0 } : Room)) (fun a U => a = #[(.int p1)] ∧ Z.Warmed39 U.vm ∧ U.heap = h0) (fun _ _ _ _ _ => True) (fun _ U o U' => ∃ v L, o = .returned v ∧ Q_rm1 Z p1 w_Execution_PENDING w_Execution_NOT_EXECUTED w_Execution_EXECUTED w_Execution_UNKNOWN h0 n0 v U'.heap L ∧ FrameEnd U o U' L ({ frames := 0, cells := 0, slots := 0, locals := 0 } : Room).cells ({ frames := 0, cells := 0, slots := 0, locals := 0 } : Room).slots) := by
  refine MetFree.of_bodySF (plainFor_of_name pn_0) hisR ?_
  intro p e s m args below meth c s₁ Bd hml0 hP hK
  obtain ⟨rfl, hZ, hh⟩ := hP
  have hx := Bd.exec
  have hby := Bd.bytes
  have hml : c.maxLocals = 1 := hml0
  have hown : s.vm.findClass "com/example/done_once/doneonce/store/RequestEndedPinLaw" = some m.cls := findClass_of_methodNamed Bd.named
  have hnm := (name_of_methodNamed Bd.named Bd.method).1
  have X0 : Stand p l e ({ frames := 0, cells := 0, slots := 0, locals := 0 } : Room) s m #[(.int p1)] below meth c s₁ [] 0 0 := Stand.of_body Bd
  have e0 : s₁.heap = h0 := by rw [← hh, Bd.state]; rfl
  have N0 := Fr.nil n0
  have Z0 : n0 ≤ h0.size := old_le O0
  have pre0 : ∀ t, Steps p.tables e below (s₁.setTop (mkF m 0 #[.val (.int p1)] [])) t → Steps p.tables e below (s₁.setTop (entryFrame m #[(.int p1)] 1)) t := fun t k => castTop (ef_rm1 m p1) k
  have S102 : ∀ t, Steps p.tables e below (s₁.setTop (mkF m 1 #[.val (.int p1)] [(.int p1)])) t → Steps p.tables e below (s₁.setTop (entryFrame m #[(.int p1)] 1)) t := fun t k => by
    refine pre0 t ?_
    show Steps p.tables e below (s₁.setTop (mkF m 0 #[.val (.int p1)] [])) _
    refine XS.iloadN X0.here hx rfl (hb hby d1_0) rfl ?_
    exact k
  by_cases hc101 : p1 = (0 : Int32)
  · have c103 : Sta Z h0 "com/example/done_once/doneonce/core/Execution" "PENDING" "Lcom/example/done_once/doneonce/core/Execution;" (.ref w_Execution_PENDING) := Sta.ext (O0).2 S_Execution_PENDING
    obtain ⟨T104, X104, e104, st104⟩ := getS2 X0 hx hZ hown (host := "") (Or.inl (hwk hw 93 rfl)) Via.refl e0 c103 (g := (mkF m 4 #[.val (.int p1)] [])) rfl (hb hby d1_4)
    obtain ⟨fs, hr, hrun, hended, hW, hsame⟩ := X104.leave (v := some (.ref w_Execution_PENDING)) (fun h => by rw [Bd.returns] at h; cases h)
    refine ⟨_, _, S102 _ ?_, hrun, hended, _, _, rfl, ?_, ⟨_, rfl⟩, hW, hsame.mono (by decide) (by decide)⟩
    · show Steps p.tables e below (s₁.setTop (mkF m 1 #[.val (.int p1)] [(.int p1)])) _
      refine XS.ifNo X0.here hx rfl (hb hby d1_1) rfl ((if0 _ _).trans (teq hc101).2) ?_
      show Steps p.tables e below (s₁.setTop (mkF m 4 #[.val (.int p1)] [])) _
      refine st104 _ ?_
      show Steps p.tables e below (T104.setTop (mkF m 7 #[.val (.int p1)] [(.ref w_Execution_PENDING)])) _
      exact Jvm.RoadKit.retOut X104 hx Bd.returns rfl (Or.inr (Or.inr (Or.inr (Or.inr ⟨rfl, rfl, rfl⟩)))) (hb hby d1_7) hr
    · show Q_rm1 Z p1 w_Execution_PENDING w_Execution_NOT_EXECUTED w_Execution_EXECUTED w_Execution_UNKNOWN h0 n0 _ T104.heap _
      rw [e104]
      unfold Q_rm1
      exact ⟨by simp [V1, hc101], N0, rfl⟩
  · have S106 : ∀ t, Steps p.tables e below (s₁.setTop (mkF m 10 #[.val (.int p1)] [(.int (1 : Int32)), (.int p1)])) t → Steps p.tables e below (s₁.setTop (entryFrame m #[(.int p1)] 1)) t := fun t k => by
      refine S102 t ?_
      show Steps p.tables e below (s₁.setTop (mkF m 1 #[.val (.int p1)] [(.int p1)])) _
      refine XS.ifYes X0.here hx rfl (pc0 := 1) (pc' := 8) rfl (hb hby d1_1) rfl ((if0 _ _).trans (feq hc101).2) (by decide) (by decide) ?_
      show Steps p.tables e below (s₁.setTop (mkF m 8 #[.val (.int p1)] [])) _
      refine XS.iloadN X0.here hx rfl (hb hby d1_8) rfl ?_
      show Steps p.tables e below (s₁.setTop (mkF m 9 #[.val (.int p1)] [(.int p1)])) _
      refine XS.iconst X0.here hx rfl (hb hby d1_9) ?_
      exact k
    by_cases hc105 : p1 = (1 : Int32)
    · have c107 : Sta Z h0 "com/example/done_once/doneonce/core/Execution" "NOT_EXECUTED" "Lcom/example/done_once/doneonce/core/Execution;" (.ref w_Execution_NOT_EXECUTED) := Sta.ext (O0).2 S_Execution_NOT_EXECUTED
      obtain ⟨T108, X108, e108, st108⟩ := getS2 X0 hx hZ hown (host := "") (Or.inl (hwk hw 8 rfl)) Via.refl e0 c107 (g := (mkF m 13 #[.val (.int p1)] [])) rfl (hb hby d1_13)
      obtain ⟨fs, hr, hrun, hended, hW, hsame⟩ := X108.leave (v := some (.ref w_Execution_NOT_EXECUTED)) (fun h => by rw [Bd.returns] at h; cases h)
      refine ⟨_, _, S106 _ ?_, hrun, hended, _, _, rfl, ?_, ⟨_, rfl⟩, hW, hsame.mono (by decide) (by decide)⟩
      · show Steps p.tables e below (s₁.setTop (mkF m 10 #[.val (.int p1)] [(.int (1 : Int32)), (.int p1)])) _
        refine XS.icmpNo X0.here hx rfl (hb hby d1_10) rfl (teq hc105).2 ?_
        show Steps p.tables e below (s₁.setTop (mkF m 13 #[.val (.int p1)] [])) _
        refine st108 _ ?_
        show Steps p.tables e below (T108.setTop (mkF m 16 #[.val (.int p1)] [(.ref w_Execution_NOT_EXECUTED)])) _
        exact Jvm.RoadKit.retOut X108 hx Bd.returns rfl (Or.inr (Or.inr (Or.inr (Or.inr ⟨rfl, rfl, rfl⟩)))) (hb hby d1_16) hr
      · show Q_rm1 Z p1 w_Execution_PENDING w_Execution_NOT_EXECUTED w_Execution_EXECUTED w_Execution_UNKNOWN h0 n0 _ T108.heap _
        rw [e108]
        unfold Q_rm1
        exact ⟨by simp [V1, hc101, hc105], N0, rfl⟩
    · have S110 : ∀ t, Steps p.tables e below (s₁.setTop (mkF m 19 #[.val (.int p1)] [(.int (2 : Int32)), (.int p1)])) t → Steps p.tables e below (s₁.setTop (entryFrame m #[(.int p1)] 1)) t := fun t k => by
        refine S106 t ?_
        show Steps p.tables e below (s₁.setTop (mkF m 10 #[.val (.int p1)] [(.int (1 : Int32)), (.int p1)])) _
        refine XS.icmpYes X0.here hx rfl (pc0 := 10) (pc' := 17) rfl (hb hby d1_10) rfl (feq hc105).2 (by decide) (by decide) ?_
        show Steps p.tables e below (s₁.setTop (mkF m 17 #[.val (.int p1)] [])) _
        refine XS.iloadN X0.here hx rfl (hb hby d1_17) rfl ?_
        show Steps p.tables e below (s₁.setTop (mkF m 18 #[.val (.int p1)] [(.int p1)])) _
        refine XS.iconst X0.here hx rfl (hb hby d1_18) ?_
        exact k
      by_cases hc109 : p1 = (2 : Int32)
      · have c111 : Sta Z h0 "com/example/done_once/doneonce/core/Execution" "EXECUTED" "Lcom/example/done_once/doneonce/core/Execution;" (.ref w_Execution_EXECUTED) := Sta.ext (O0).2 S_Execution_EXECUTED
        obtain ⟨T112, X112, e112, st112⟩ := getS2 X0 hx hZ hown (host := "") (Or.inl (hwk hw 182 rfl)) Via.refl e0 c111 (g := (mkF m 22 #[.val (.int p1)] [])) rfl (hb hby d1_22)
        obtain ⟨fs, hr, hrun, hended, hW, hsame⟩ := X112.leave (v := some (.ref w_Execution_EXECUTED)) (fun h => by rw [Bd.returns] at h; cases h)
        refine ⟨_, _, S110 _ ?_, hrun, hended, _, _, rfl, ?_, ⟨_, rfl⟩, hW, hsame.mono (by decide) (by decide)⟩
        · show Steps p.tables e below (s₁.setTop (mkF m 19 #[.val (.int p1)] [(.int (2 : Int32)), (.int p1)])) _
          refine XS.icmpNo X0.here hx rfl (hb hby d1_19) rfl (teq hc109).2 ?_
          show Steps p.tables e below (s₁.setTop (mkF m 22 #[.val (.int p1)] [])) _
          refine st112 _ ?_
          show Steps p.tables e below (T112.setTop (mkF m 25 #[.val (.int p1)] [(.ref w_Execution_EXECUTED)])) _
          exact Jvm.RoadKit.retOut X112 hx Bd.returns rfl (Or.inr (Or.inr (Or.inr (Or.inr ⟨rfl, rfl, rfl⟩)))) (hb hby d1_25) hr
        · show Q_rm1 Z p1 w_Execution_PENDING w_Execution_NOT_EXECUTED w_Execution_EXECUTED w_Execution_UNKNOWN h0 n0 _ T112.heap _
          rw [e112]
          unfold Q_rm1
          exact ⟨by simp [V1, hc101, hc105, hc109], N0, rfl⟩
      · have c113 : Sta Z h0 "com/example/done_once/doneonce/core/Execution" "UNKNOWN" "Lcom/example/done_once/doneonce/core/Execution;" (.ref w_Execution_UNKNOWN) := Sta.ext (O0).2 S_Execution_UNKNOWN
        obtain ⟨T114, X114, e114, st114⟩ := getS2 X0 hx hZ hown (host := "") (Or.inl (hwk hw 178 rfl)) Via.refl e0 c113 (g := (mkF m 26 #[.val (.int p1)] [])) rfl (hb hby d1_26)
        obtain ⟨fs, hr, hrun, hended, hW, hsame⟩ := X114.leave (v := some (.ref w_Execution_UNKNOWN)) (fun h => by rw [Bd.returns] at h; cases h)
        refine ⟨_, _, S110 _ ?_, hrun, hended, _, _, rfl, ?_, ⟨_, rfl⟩, hW, hsame.mono (by decide) (by decide)⟩
        · show Steps p.tables e below (s₁.setTop (mkF m 19 #[.val (.int p1)] [(.int (2 : Int32)), (.int p1)])) _
          refine XS.icmpYes X0.here hx rfl (pc0 := 19) (pc' := 26) rfl (hb hby d1_19) rfl (feq hc109).2 (by decide) (by decide) ?_
          show Steps p.tables e below (s₁.setTop (mkF m 26 #[.val (.int p1)] [])) _
          refine st114 _ ?_
          show Steps p.tables e below (T114.setTop (mkF m 29 #[.val (.int p1)] [(.ref w_Execution_UNKNOWN)])) _
          exact Jvm.RoadKit.retOut X114 hx Bd.returns rfl (Or.inr (Or.inr (Or.inr (Or.inr ⟨rfl, rfl, rfl⟩)))) (hb hby d1_29) hr
        · show Q_rm1 Z p1 w_Execution_PENDING w_Execution_NOT_EXECUTED w_Execution_EXECUTED w_Execution_UNKNOWN h0 n0 _ T114.heap _
          rw [e114]
          unfold Q_rm1
          exact ⟨by simp [V1, hc101, hc105, hc109], N0, rfl⟩
theorem ef_rm3 (m : MethodId) (x0 : Int32) : entryFrame m #[(.int x0)] 1 = mkF m 0 #[.val (.int x0)] [] := by first | (simp [entryFrame, mkF, argsToLocals, Value.category]; done) | rfl
def VCan (p : Int32) : Int32 := if (255 : Int32) < p then 0 else 1
def Q_rm3 (Z : State) (p1 : Int32) (h0 : Heap) (n0 : Nat) (v : Option Value) (h : Heap) (L : List Loc) : Prop := (v = some (.int (VCan p1))) ∧ (Fr n0 L) ∧ (h = h0)
theorem pn_1 : plainName "java/lang/StringLatin1" = true := by first | (simp [plainName, overriddenIn]; done) | decide +kernel
theorem d3_0 : decode jdk_43_method_3_code 0 = .ok (.iload_n 0, 1) := by decide +kernel
theorem d3_1 : decode jdk_43_method_3_code 1 = .ok (.sipush 255, 3) := by decide +kernel
theorem d3_4 : decode jdk_43_method_3_code 4 = .ok (.if_icmp .gt 7, 3) := by decide +kernel
theorem d3_11 : decode jdk_43_method_3_code 11 = .ok (.iconst 0, 1) := by decide +kernel
theorem d3_12 : decode jdk_43_method_3_code 12 = .ok (.ireturn, 1) := by decide +kernel
theorem d3_7 : decode jdk_43_method_3_code 7 = .ok (.iconst 1, 1) := by decide +kernel
theorem d3_8 : decode jdk_43_method_3_code 8 = .ok (.goto 4, 3) := by decide +kernel
set_option maxRecDepth 65536 in
set_option maxHeartbeats 40000000 in
theorem rm3 (l : Launch) (Z : State) (a0 : Array Value) (hw : ∀ d ∈ tables_1, d.before a0 Z = true) (ws : List Jvm.Cond) (p1 : Int32) (h0 : Heap) (n0 : Nat) (O0 : Old Z n0 h0)  :
    MetFree l (⟨"java/lang/StringLatin1", "canEncode", "(C)Z"⟩ : MethodName) (head1 (Jvm.Cond.code (⟨"java/lang/StringLatin1", "canEncode", "(C)Z"⟩ : MethodName) jdk_43_method_3_code 1 (some .boolean) :: ws) ({ frames := 0, cells := 0, slots := 0, locals := 0 } : Room)) (fun a U => a = #[(.int p1)] ∧ Z.Warmed39 U.vm ∧ U.heap = h0) (fun _ _ _ _ _ => True) (fun _ U o U' => ∃ v L, o = .returned v ∧ Q_rm3 Z p1 h0 n0 v U'.heap L ∧ FrameEnd U o U' L ({ frames := 0, cells := 0, slots := 0, locals := 0 } : Room).cells ({ frames := 0, cells := 0, slots := 0, locals := 0 } : Room).slots) := by
  refine MetFree.of_bodySF (plainFor_of_name pn_1) hisR ?_
  intro p e s m args below meth c s₁ Bd hml0 hP hK
  obtain ⟨rfl, hZ, hh⟩ := hP
  have hx := Bd.exec
  have hby := Bd.bytes
  have hml : c.maxLocals = 1 := hml0
  have hown : s.vm.findClass "java/lang/StringLatin1" = some m.cls := findClass_of_methodNamed Bd.named
  have hnm := (name_of_methodNamed Bd.named Bd.method).1
  have X0 : Stand p l e ({ frames := 0, cells := 0, slots := 0, locals := 0 } : Room) s m #[(.int p1)] below meth c s₁ [] 0 0 := Stand.of_body Bd
  have e0 : s₁.heap = h0 := by rw [← hh, Bd.state]; rfl
  have N0 := Fr.nil n0
  have Z0 : n0 ≤ h0.size := old_le O0
  have pre0 : ∀ t, Steps p.tables e below (s₁.setTop (mkF m 0 #[.val (.int p1)] [])) t → Steps p.tables e below (s₁.setTop (entryFrame m #[(.int p1)] 1)) t := fun t k => castTop (ef_rm3 m p1) k
  have S102 : ∀ t, Steps p.tables e below (s₁.setTop (mkF m 4 #[.val (.int p1)] [(.int (255 : Int32)), (.int p1)])) t → Steps p.tables e below (s₁.setTop (entryFrame m #[(.int p1)] 1)) t := fun t k => by
    refine pre0 t ?_
    show Steps p.tables e below (s₁.setTop (mkF m 0 #[.val (.int p1)] [])) _
    refine XS.iloadN X0.here hx rfl (hb hby d3_0) rfl ?_
    show Steps p.tables e below (s₁.setTop (mkF m 1 #[.val (.int p1)] [(.int p1)])) _
    refine XS.sipush X0.here hx rfl (hb hby d3_1) ?_
    exact k
  by_cases hc101 : (255 : Int32) < p1
  · obtain ⟨fs, hr, hrun, hended, hW, hsame⟩ := X0.leave (v := some (.int (0 : Int32))) (fun h => by rw [Bd.returns] at h; cases h)
    refine ⟨_, _, S102 _ ?_, hrun, hended, _, _, rfl, ?_, ⟨_, rfl⟩, hW, hsame.mono (by decide) (by decide)⟩
    · show Steps p.tables e below (s₁.setTop (mkF m 4 #[.val (.int p1)] [(.int (255 : Int32)), (.int p1)])) _
      refine XS.icmpYes X0.here hx rfl (pc0 := 4) (pc' := 11) rfl (hb hby d3_4) rfl (tlt hc101).2.2.1 (by decide) (by decide) ?_
      show Steps p.tables e below (s₁.setTop (mkF m 11 #[.val (.int p1)] [])) _
      refine XS.iconst X0.here hx rfl (hb hby d3_11) ?_
      show Steps p.tables e below (s₁.setTop (mkF m 12 #[.val (.int p1)] [(.int (0 : Int32))])) _
      exact Jvm.RoadKit.retOut X0 hx Bd.returns rfl (Or.inl ⟨rfl, by simp, _, rfl⟩) (hb hby d3_12) hr
    · show Q_rm3 Z p1 h0 n0 _ s₁.heap _
      rw [e0]
      unfold Q_rm3
      exact ⟨by simp [VCan, hc101], N0, rfl⟩
  · obtain ⟨fs, hr, hrun, hended, hW, hsame⟩ := X0.leave (v := some (.int (1 : Int32))) (fun h => by rw [Bd.returns] at h; cases h)
    refine ⟨_, _, S102 _ ?_, hrun, hended, _, _, rfl, ?_, ⟨_, rfl⟩, hW, hsame.mono (by decide) (by decide)⟩
    · show Steps p.tables e below (s₁.setTop (mkF m 4 #[.val (.int p1)] [(.int (255 : Int32)), (.int p1)])) _
      refine XS.icmpNo X0.here hx rfl (hb hby d3_4) rfl (flt hc101).2.2.1 ?_
      show Steps p.tables e below (s₁.setTop (mkF m 7 #[.val (.int p1)] [])) _
      refine XS.iconst X0.here hx rfl (hb hby d3_7) ?_
      show Steps p.tables e below (s₁.setTop (mkF m 8 #[.val (.int p1)] [(.int (1 : Int32))])) _
      refine XS.goto X0.here hx rfl (pc0 := 8) (pc' := 12) rfl (hb hby d3_8) (by decide) (by decide) ?_
      show Steps p.tables e below (s₁.setTop (mkF m 12 #[.val (.int p1)] [(.int (1 : Int32))])) _
      exact Jvm.RoadKit.retOut X0 hx Bd.returns rfl (Or.inl ⟨rfl, by simp, _, rfl⟩) (hb hby d3_12) hr
    · show Q_rm3 Z p1 h0 n0 _ s₁.heap _
      rw [e0]
      unfold Q_rm3
      exact ⟨by simp [VCan, hc101], N0, rfl⟩
theorem ef_rm4 (m : MethodId) (x0 : Int32) : entryFrame m #[(.int x0)] 1 = mkF m 0 #[.val (.int x0)] [] := by first | (simp [entryFrame, mkF, argsToLocals, Value.category]; done) | rfl
def Q_rm4 (Z : State) (p1 : Int32) (h0 : Heap) (n0 : Nat) (v : Option Value) (h : Heap) (L : List Loc) : Prop := ∃ t : Addr, ∃ k : ClassId, (v = some (.ref t)) ∧ (Fr n0 L) ∧ (Keep h0 h []) ∧ (h0.size ≤ t) ∧ (Arv Z h t k .byte (1 : Int32) [(.int (nar .byte (p1.toInt8.toInt32)))] (.int (0 : Int32)))
theorem d4_0 : decode jdk_43_method_46_code 0 = .ok (.iconst 1, 1) := by decide +kernel
theorem d4_1 : decode jdk_43_method_46_code 1 = .ok (.newarray .byte, 2) := by decide +kernel
theorem d4_3 : decode jdk_43_method_46_code 3 = .ok (.dup, 1) := by decide +kernel
theorem d4_4 : decode jdk_43_method_46_code 4 = .ok (.iconst 0, 1) := by decide +kernel
theorem d4_5 : decode jdk_43_method_46_code 5 = .ok (.iload_n 0, 1) := by decide +kernel
theorem d4_6 : decode jdk_43_method_46_code 6 = .ok (.i2b, 1) := by decide +kernel
theorem d4_7 : decode jdk_43_method_46_code 7 = .ok (.bastore, 1) := by decide +kernel
theorem d4_8 : decode jdk_43_method_46_code 8 = .ok (.areturn, 1) := by decide +kernel
set_option maxRecDepth 65536 in
set_option maxHeartbeats 40000000 in
theorem rm4 (l : Launch) (Z : State) (a0 : Array Value) (hw : ∀ d ∈ tables_1, d.before a0 Z = true) (ws : List Jvm.Cond) (p1 : Int32) (h0 : Heap) (n0 : Nat) (O0 : Old Z n0 h0)  :
    MetFree l (⟨"java/lang/StringLatin1", "toBytes", "(C)[B"⟩ : MethodName) (head1 (Jvm.Cond.code (⟨"java/lang/StringLatin1", "toBytes", "(C)[B"⟩ : MethodName) jdk_43_method_46_code 1 (some (.array .byte)) :: ws) ({ frames := 0, cells := 1, slots := 1, locals := 0 } : Room)) (fun a U => a = #[(.int p1)] ∧ Z.Warmed39 U.vm ∧ U.heap = h0) (fun _ _ _ _ _ => True) (fun _ U o U' => ∃ v L, o = .returned v ∧ Q_rm4 Z p1 h0 n0 v U'.heap L ∧ FrameEnd U o U' L ({ frames := 0, cells := 1, slots := 1, locals := 0 } : Room).cells ({ frames := 0, cells := 1, slots := 1, locals := 0 } : Room).slots) := by
  refine MetFree.of_bodySF (plainFor_of_name pn_1) hisR ?_
  intro p e s m args below meth c s₁ Bd hml0 hP hK
  obtain ⟨rfl, hZ, hh⟩ := hP
  have hx := Bd.exec
  have hby := Bd.bytes
  have hml : c.maxLocals = 1 := hml0
  have hown : s.vm.findClass "java/lang/StringLatin1" = some m.cls := findClass_of_methodNamed Bd.named
  have hnm := (name_of_methodNamed Bd.named Bd.method).1
  have X0 : Stand p l e ({ frames := 0, cells := 1, slots := 1, locals := 0 } : Room) s m #[(.int p1)] below meth c s₁ [] 0 0 := Stand.of_body Bd
  have e0 : s₁.heap = h0 := by rw [← hh, Bd.state]; rfl
  have N0 := Fr.nil n0
  have Z0 : n0 ≤ h0.size := old_le O0
  have pre0 : ∀ t, Steps p.tables e below (s₁.setTop (mkF m 0 #[.val (.int p1)] [])) t → Steps p.tables e below (s₁.setTop (entryFrame m #[(.int p1)] 1)) t := fun t k => castTop (ef_rm4 m p1) k
  obtain ⟨T101, h101, k101, X101, e101, E101, A101, st101⟩ := newP X0 hx hZ (hwk hw 25 rfl) e0 (g := (mkF m 1 #[.val (.int p1)] [(.int (1 : Int32))])) rfl (hb hby d4_1) rfl (by decide) (cap := 1) (by decide) (by decide) (by decide) (by decide)
  obtain ⟨b101, g101⟩ : ∃ z, z = h0.size := ⟨_, rfl⟩
  rw [← g101] at A101 st101
  have g_b101 : n0 ≤ b101 := Nat.le_trans (old_le O0) (Nat.le_of_eq g101.symm)
  have V101 : Arv Z h101 b101 k101 .byte (1 : Int32) [(.int (0 : Int32))] (.int (0 : Int32)) := (Arv.new A101 (by decide)).pad (pad_rep [] (.int (0 : Int32)) 1)
  obtain ⟨clq102, Arq102, kqq102, Szq102, Nnq102, Hsq102, Gsq102⟩ := V101
  have hinq102 : ¬ ((0 : Int32) < 0 ∨ clq102.slots.size ≤ ((0 : Int32)).toNatClampNeg) := inb_of Szq102 ⟨by decide, by decide⟩
  obtain ⟨T103, h103, X103, e103, W103, st103⟩ := stB X101 hx hZ e101 Arq102 (j := (0 : Int32)) hinq102 (g := (mkF m 7 #[.val (.int p1)] [(.int (p1.toInt8.toInt32)), (.int (0 : Int32)), (.ref b101), (.ref b101)])) rfl rfl (hb hby d4_7)
  have V103 : Arv Z h103 b101 k101 .byte (1 : Int32) [(.int (nar .byte (p1.toInt8.toInt32)))] (.int (0 : Int32)) := Arv.set Arq102 kqq102 Szq102 Nnq102 Hsq102 Gsq102 (fits_nar_byte _) W103 0 rfl (Nat.le_of_ble_eq_true rfl)
  have N103 := Fr.snoc X103 N0 g_b101
  have K104 : Keep h0 h101 [] := Keep.ext (Keep.refl h0 []) E101
  have K105 : Keep h0 h103 [] := Keep.wr K104 W103 (Or.inr (Nat.le_trans (Nat.le_refl _) (Nat.le_of_eq g101.symm)))
  obtain ⟨fs, hr, hrun, hended, hW, hsame⟩ := X103.leave (v := some (.ref b101)) (fun h => by rw [Bd.returns] at h; cases h)
  refine ⟨_, _, pre0 _ ?_, hrun, hended, _, _, rfl, ?_, ⟨_, rfl⟩, hW, hsame.mono (by decide) (by decide)⟩
  · show Steps p.tables e below (s₁.setTop (mkF m 0 #[.val (.int p1)] [])) _
    refine XS.iconst X0.here hx rfl (hb hby d4_0) ?_
    show Steps p.tables e below (s₁.setTop (mkF m 1 #[.val (.int p1)] [(.int (1 : Int32))])) _
    refine st101 _ ?_
    show Steps p.tables e below (T101.setTop (mkF m 3 #[.val (.int p1)] [(.ref b101)])) _
    refine XS.dup X101.here hx rfl (hb hby d4_3) rfl rfl ?_
    show Steps p.tables e below (T101.setTop (mkF m 4 #[.val (.int p1)] [(.ref b101), (.ref b101)])) _
    refine XS.iconst X101.here hx rfl (hb hby d4_4) ?_
    show Steps p.tables e below (T101.setTop (mkF m 5 #[.val (.int p1)] [(.int (0 : Int32)), (.ref b101), (.ref b101)])) _
    refine XS.iloadN X101.here hx rfl (hb hby d4_5) rfl ?_
    show Steps p.tables e below (T101.setTop (mkF m 6 #[.val (.int p1)] [(.int p1), (.int (0 : Int32)), (.ref b101), (.ref b101)])) _
    refine XS.i2b X101.here hx rfl (hb hby d4_6) rfl ?_
    show Steps p.tables e below (T101.setTop (mkF m 7 #[.val (.int p1)] [(.int (p1.toInt8.toInt32)), (.int (0 : Int32)), (.ref b101), (.ref b101)])) _
    refine st103 _ ?_
    show Steps p.tables e below (T103.setTop (mkF m 8 #[.val (.int p1)] [(.ref b101)])) _
    exact Jvm.RoadKit.retOut X103 hx Bd.returns rfl (Or.inr (Or.inr (Or.inr (Or.inr ⟨rfl, rfl, rfl⟩)))) (hb hby d4_8) hr
  · show Q_rm4 Z p1 h0 n0 _ T103.heap _
    rw [e103]
    unfold Q_rm4
    exact ⟨b101, k101, rfl, N103, K105, (Nat.le_trans (Nat.le_refl _) (Nat.le_of_eq g101.symm)), V103⟩
theorem ef_rm5 (m : MethodId) (x0 : Addr) (x1 : Addr) (x2 : Int32) : entryFrame m #[(.ref x0), (.ref x1), (.int x2)] 3 = mkF m 0 #[.val (.ref x0), .val (.ref x1), .val (.int x2)] [] := by first | (simp [entryFrame, mkF, argsToLocals, Value.category]; done) | rfl
def Q_rm5 (Z : State) (a1 : Addr) (t1 : Addr) (h0 : Heap) (n0 : Nat) (v : Option Value) (h : Heap) (L : List Loc) : Prop := (v = none) ∧ (Fr n0 L) ∧ (Keep h0 h [a1]) ∧ (Exa Z h a1 "java/lang/String") ∧ (Fld Z h a1 "java/lang/String" "value" "[B" (.ref t1)) ∧ (Fld Z h a1 "java/lang/String" "coder" "B" (.int (0 : Int32)))
theorem pn_2 : plainName "java/lang/String" = true := by first | (simp [plainName, overriddenIn]; done) | decide +kernel
theorem d5_0 : decode jdk_42_method_151_code 0 = .ok (.aload_n 0, 1) := by decide +kernel
theorem d5_1 : decode jdk_42_method_151_code 1 = .ok (.invokespecial 1, 3) := by decide +kernel
theorem d5_4 : decode jdk_42_method_151_code 4 = .ok (.aload_n 0, 1) := by decide +kernel
theorem d5_5 : decode jdk_42_method_151_code 5 = .ok (.aload_n 1, 1) := by decide +kernel
theorem d5_6 : decode jdk_42_method_151_code 6 = .ok (.putfield 9, 3) := by decide +kernel
theorem d5_9 : decode jdk_42_method_151_code 9 = .ok (.aload_n 0, 1) := by decide +kernel
theorem d5_10 : decode jdk_42_method_151_code 10 = .ok (.iload_n 2, 1) := by decide +kernel
theorem d5_11 : decode jdk_42_method_151_code 11 = .ok (.putfield 15, 3) := by decide +kernel
theorem d5_14 : decode jdk_42_method_151_code 14 = .ok (.return_, 1) := by decide +kernel
set_option maxRecDepth 65536 in
set_option maxHeartbeats 40000000 in
theorem rm5 (l : Launch) (Z : State) (a0 : Array Value) (hw : ∀ d ∈ tables_1, d.before a0 Z = true) (ws : List Jvm.Cond) (a1 : Addr) (t1 : Addr) (h0 : Heap) (n0 : Nat) (O0 : Old Z n0 h0) (E1 : Exa Z h0 a1 "java/lang/String") (g1 : n0 ≤ a1) (D0 : Fld Z h0 a1 "java/lang/String" "value" "[B" .null) (D1 : Fld Z h0 a1 "java/lang/String" "coder" "B" (.int (0 : Int32))) :
    MetFree l (⟨"java/lang/String", "<init>", "([BB)V"⟩ : MethodName) (head1 (Jvm.Cond.code (⟨"java/lang/String", "<init>", "([BB)V"⟩ : MethodName) jdk_42_method_151_code 3 none :: ws) ({ frames := 1, cells := 0, slots := 0, locals := 12 } : Room)) (fun a U => a = #[(.ref a1), (.ref t1), (.int (0 : Int32))] ∧ Z.Warmed39 U.vm ∧ U.heap = h0) (fun _ _ _ _ _ => True) (fun _ U o U' => ∃ v L, o = .returned v ∧ Q_rm5 Z a1 t1 h0 n0 v U'.heap L ∧ FrameEnd U o U' L ({ frames := 1, cells := 0, slots := 0, locals := 12 } : Room).cells ({ frames := 1, cells := 0, slots := 0, locals := 12 } : Room).slots) := by
  refine MetFree.of_bodySF (plainFor_of_name pn_2) hisR ?_
  intro p e s m args below meth c s₁ Bd hml0 hP hK
  obtain ⟨rfl, hZ, hh⟩ := hP
  have hx := Bd.exec
  have hby := Bd.bytes
  have hml : c.maxLocals = 3 := hml0
  have hown : s.vm.findClass "java/lang/String" = some m.cls := findClass_of_methodNamed Bd.named
  have hnm := (name_of_methodNamed Bd.named Bd.method).1
  have X0 : Stand p l e ({ frames := 1, cells := 0, slots := 0, locals := 12 } : Room) s m #[(.ref a1), (.ref t1), (.int (0 : Int32))] below meth c s₁ [] 0 0 := Stand.of_body Bd
  have e0 : s₁.heap = h0 := by rw [← hh, Bd.state]; rfl
  have N0 := Fr.nil n0
  have Z0 : n0 ≤ h0.size := old_le O0
  have pre0 : ∀ t, Steps p.tables e below (s₁.setTop (mkF m 0 #[.val (.ref a1), .val (.ref t1), .val (.int (0 : Int32))] [])) t → Steps p.tables e below (s₁.setTop (entryFrame m #[(.ref a1), (.ref t1), (.int (0 : Int32))] 3)) t := fun t k => castTop (ef_rm5 m a1 t1 (0 : Int32)) k
  obtain ⟨T101, X101, e101, st101⟩ := initO X0 hx hZ hown (hwk hw 30 rfl) (hwk hw 31 rfl) (hwk hw 32 rfl) e0 (g := (mkF m 1 #[.val (.ref a1), .val (.ref t1), .val (.int (0 : Int32))] [(.ref a1)])) rfl (by rw [hml]; rfl) rfl (hb hby d5_1) (by decide) (W := 0) (by show 2 * 0 + _ ≤ _; exact Nat.le_of_eq rfl) (by decide)
  obtain ⟨T102, h102, X102, e102, W102, st102⟩ := putF X101 hx hZ hown (host := "") (Or.inl (hwk hw 33 rfl)) Via.refl e101 D0 E1 (Or.inr ⟨(hwk hw 34 rfl), rfl, hnm⟩) (hwk hw 21 rfl) (ty := (.array .byte)) (by decide) rfl rfl (g := (mkF m 6 #[.val (.ref a1), .val (.ref t1), .val (.int (0 : Int32))] [(.ref t1), (.ref a1)])) rfl rfl (hb hby d5_6)
  have F102 : Fld Z h102 a1 "java/lang/String" "value" "[B" (.ref t1) := Fld.same W102 D0
  have N102 := Fr.snoc X102 N0 g1
  have c103 : Exa Z h102 a1 "java/lang/String" := (Exa.wr W102 E1)
  have c104 : Fld Z h102 a1 "java/lang/String" "coder" "B" (.int (0 : Int32)) := (Fld.other W102 D1 (Or.inr (slot_ne (Or.inr (hwk hw 36 rfl)) (Or.inr (hwk hw 34 rfl)) (by decide) (t := .byte) (t' := (.array .byte)) (by decide) (by decide))))
  obtain ⟨T105, h105, X105, e105, W105, st105⟩ := putF X102 hx hZ hown (host := "") (Or.inl (hwk hw 35 rfl)) Via.refl e102 c104 c103 (Or.inr ⟨(hwk hw 36 rfl), rfl, hnm⟩) (hwk hw 21 rfl) (ty := .byte) (by decide) rfl rfl (g := (mkF m 11 #[.val (.ref a1), .val (.ref t1), .val (.int (0 : Int32))] [(.int (0 : Int32)), (.ref a1)])) rfl rfl (hb hby d5_11)
  have F105 : Fld Z h105 a1 "java/lang/String" "coder" "B" (.int (0 : Int32)) := Fld.same W105 c104
  have N105 := Fr.snoc X105 N102 g1
  have K106 : Keep h0 h102 [a1] := Keep.wr (Keep.refl h0 [a1]) W102 (Or.inl (List.mem_of_getElem? (i := 0) rfl))
  have K107 : Keep h0 h105 [a1] := Keep.wr K106 W105 (Or.inl (List.mem_of_getElem? (i := 0) rfl))
  have c108 : Exa Z h105 a1 "java/lang/String" := (Exa.wr W105 c103)
  have c109 : Fld Z h105 a1 "java/lang/String" "value" "[B" (.ref t1) := (Fld.other W105 F102 (Or.inr (slot_ne (Or.inr (hwk hw 34 rfl)) (Or.inr (hwk hw 36 rfl)) (by decide) (t := (.array .byte)) (t' := .byte) (by decide) (by decide))))
  obtain ⟨fs, hr, hrun, hended, hW, hsame⟩ := X105.leave (v := none) (fun _ => rfl)
  refine ⟨_, _, pre0 _ ?_, hrun, hended, _, _, rfl, ?_, ⟨_, rfl⟩, hW, hsame.mono (by decide) (by decide)⟩
  · show Steps p.tables e below (s₁.setTop (mkF m 0 #[.val (.ref a1), .val (.ref t1), .val (.int (0 : Int32))] [])) _
    refine XS.aloadN X0.here hx rfl (hb hby d5_0) rfl rfl ?_
    show Steps p.tables e below (s₁.setTop (mkF m 1 #[.val (.ref a1), .val (.ref t1), .val (.int (0 : Int32))] [(.ref a1)])) _
    refine st101 _ ?_
    show Steps p.tables e below (T101.setTop (mkF m 4 #[.val (.ref a1), .val (.ref t1), .val (.int (0 : Int32))] [])) _
    refine XS.aloadN X101.here hx rfl (hb hby d5_4) rfl rfl ?_
    show Steps p.tables e below (T101.setTop (mkF m 5 #[.val (.ref a1), .val (.ref t1), .val (.int (0 : Int32))] [(.ref a1)])) _
    refine XS.aloadN X101.here hx rfl (hb hby d5_5) rfl rfl ?_
    show Steps p.tables e below (T101.setTop (mkF m 6 #[.val (.ref a1), .val (.ref t1), .val (.int (0 : Int32))] [(.ref t1), (.ref a1)])) _
    refine st102 _ ?_
    show Steps p.tables e below (T102.setTop (mkF m 9 #[.val (.ref a1), .val (.ref t1), .val (.int (0 : Int32))] [])) _
    refine XS.aloadN X102.here hx rfl (hb hby d5_9) rfl rfl ?_
    show Steps p.tables e below (T102.setTop (mkF m 10 #[.val (.ref a1), .val (.ref t1), .val (.int (0 : Int32))] [(.ref a1)])) _
    refine XS.iloadN X102.here hx rfl (hb hby d5_10) rfl ?_
    show Steps p.tables e below (T102.setTop (mkF m 11 #[.val (.ref a1), .val (.ref t1), .val (.int (0 : Int32))] [(.int (0 : Int32)), (.ref a1)])) _
    refine st105 _ ?_
    show Steps p.tables e below (T105.setTop (mkF m 14 #[.val (.ref a1), .val (.ref t1), .val (.int (0 : Int32))] [])) _
    exact X105.returnOut hx Bd.returns (hb hby d5_14) hr
  · show Q_rm5 Z a1 t1 h0 n0 _ T105.heap _
    rw [e105]
    unfold Q_rm5
    exact ⟨rfl, N105, K107, c108, c109, F105⟩
theorem ef_rm2 (m : MethodId) (x0 : Int32) : entryFrame m #[(.int x0)] 1 = mkF m 0 #[.val (.int x0)] [] := by first | (simp [entryFrame, mkF, argsToLocals, Value.category]; done) | rfl
def Q_rm2 (Z : State) (p1 : Int32) (zc : Int32) (h0 : Heap) (n0 : Nat) (v : Option Value) (h : Heap) (L : List Loc) : Prop := ∃ b : Addr, ∃ t : Addr, ∃ k : ClassId, (v = some (.ref b)) ∧ (Fr n0 L) ∧ (Keep h0 h []) ∧ (h0.size ≤ b) ∧ (h0.size ≤ t) ∧ (Exa Z h b "java/lang/String") ∧ (Fld Z h b "java/lang/String" "value" "[B" (.ref t)) ∧ (Fld Z h b "java/lang/String" "coder" "B" (.int (0 : Int32))) ∧ (Arv Z h t k .byte (1 : Int32) [(.int (nar .byte (p1.toInt8.toInt32)))] (.int (0 : Int32))) ∧ (¬ t = b)
theorem d2_0 : decode jdk_42_method_139_code 0 = .ok (.getstatic 38, 3) := by decide +kernel
theorem d2_3 : decode jdk_42_method_139_code 3 = .ok (.ifCond .eq 23, 3) := by decide +kernel
theorem d2_6 : decode jdk_42_method_139_code 6 = .ok (.iload_n 0, 1) := by decide +kernel
theorem d2_7 : decode jdk_42_method_139_code 7 = .ok (.invokestatic 1015, 3) := by decide +kernel
theorem pd_0 : parseMethodDescriptor "(C)Z" = some ⟨[.char], some .boolean⟩ := by decide +kernel
theorem d2_10 : decode jdk_42_method_139_code 10 = .ok (.ifCond .eq 16, 3) := by decide +kernel
theorem d2_13 : decode jdk_42_method_139_code 13 = .ok (.new 10, 3) := by decide +kernel
theorem d2_16 : decode jdk_42_method_139_code 16 = .ok (.dup, 1) := by decide +kernel
theorem d2_17 : decode jdk_42_method_139_code 17 = .ok (.iload_n 0, 1) := by decide +kernel
theorem d2_18 : decode jdk_42_method_139_code 18 = .ok (.invokestatic 1018, 3) := by decide +kernel
theorem pd_1 : parseMethodDescriptor "(C)[B" = some ⟨[.char], some (.array .byte)⟩ := by decide +kernel
theorem d2_21 : decode jdk_42_method_139_code 21 = .ok (.iconst 0, 1) := by decide +kernel
theorem d2_22 : decode jdk_42_method_139_code 22 = .ok (.invokespecial 209, 3) := by decide +kernel
theorem pd_2 : parseMethodDescriptor "([BB)V" = some ⟨[(.array .byte), .byte], none⟩ := by decide +kernel
theorem d2_25 : decode jdk_42_method_139_code 25 = .ok (.areturn, 1) := by decide +kernel
set_option maxRecDepth 65536 in
set_option maxHeartbeats 40000000 in
theorem rm2 (l : Launch) (Z : State) (a0 : Array Value) (hw : ∀ d ∈ tables_1, d.before a0 Z = true) (ws : List Jvm.Cond) (p1 : Int32) (zc : Int32) (h0 : Heap) (n0 : Nat) (O0 : Old Z n0 h0) (SZ : Sta Z Z.heap "java/lang/String" "COMPACT_STRINGS" "Z" (.int zc)) (PZ : ¬ (zc = (0 : Int32))) (hp1 : ¬ ((255 : Int32) < p1)) :
    MetFree l (⟨"java/lang/String", "valueOf", "(C)Ljava/lang/String;"⟩ : MethodName) (head1 (Jvm.Cond.code (⟨"java/lang/String", "valueOf", "(C)Ljava/lang/String;"⟩ : MethodName) jdk_42_method_139_code 1 (some (.object "java/lang/String")) :: ws) ({ frames := 2, cells := 2, slots := 5, locals := 27 } : Room)) (fun a U => a = #[(.int p1)] ∧ Z.Warmed39 U.vm ∧ U.heap = h0) (fun _ _ _ _ _ => True) (fun _ U o U' => ∃ v L, o = .returned v ∧ Q_rm2 Z p1 zc h0 n0 v U'.heap L ∧ FrameEnd U o U' L ({ frames := 2, cells := 2, slots := 5, locals := 27 } : Room).cells ({ frames := 2, cells := 2, slots := 5, locals := 27 } : Room).slots) := by
  refine MetFree.of_bodySF (plainFor_of_name pn_2) hisR ?_
  intro p e s m args below meth c s₁ Bd hml0 hP hK
  obtain ⟨rfl, hZ, hh⟩ := hP
  have hx := Bd.exec
  have hby := Bd.bytes
  have hml : c.maxLocals = 1 := hml0
  have hown : s.vm.findClass "java/lang/String" = some m.cls := findClass_of_methodNamed Bd.named
  have hnm := (name_of_methodNamed Bd.named Bd.method).1
  have X0 : Stand p l e ({ frames := 2, cells := 2, slots := 5, locals := 27 } : Room) s m #[(.int p1)] below meth c s₁ [] 0 0 := Stand.of_body Bd
  have e0 : s₁.heap = h0 := by rw [← hh, Bd.state]; rfl
  have N0 := Fr.nil n0
  have Z0 : n0 ≤ h0.size := old_le O0
  have pre0 : ∀ t, Steps p.tables e below (s₁.setTop (mkF m 0 #[.val (.int p1)] [])) t → Steps p.tables e below (s₁.setTop (entryFrame m #[(.int p1)] 1)) t := fun t k => castTop (ef_rm2 m p1) k
  have c101 : Sta Z h0 "java/lang/String" "COMPACT_STRINGS" "Z" (.int zc) := Sta.ext (O0).2 SZ
  obtain ⟨T102, X102, e102, st102⟩ := getS2 X0 hx hZ hown (host := "") (Or.inl (hwk hw 15 rfl)) Via.refl e0 c101 (g := (mkF m 0 #[.val (.int p1)] [])) rfl (hb hby d2_0)
  obtain ⟨_, _, ⟨T103, L103, k103, n103⟩, -, X103, ⟨Lc103, hQ103, l103, y103, z103⟩, st103⟩ := Jvm.LawKit.callS X102 hx (y := (⟨"java/lang/StringLatin1", "canEncode", "(C)Z"⟩ : MethodName)) hown (mvT hZ (hwk hw 16 rfl)) (mvT hZ (hwk hw 17 rfl)) (mvT hZ (hwk hw 18 rfl)) (mvT hZ (hwk hw 19 rfl)) (by decide) (backOf (W := 0) (rm3 l Z a0 hw [] p1 h0 n0 O0 ) hZ (hwk hw 19 rfl) (hwk hw 18 rfl) (by decide) (by decide)) (g := (mkF m 7 #[.val (.int p1)] [(.int p1)])) rfl (by rw [hml]; rfl) (argsL := [(.int p1)]) (rest := []) (lenOf pd_0 rfl) rfl (by show 2 * 0 + _ ≤ _; exact Nat.le_of_eq rfl) (hb hby d2_7) (fun _ _ => ⟨rfl, e102, (by decide : 0 + 0 ≤ _), (by decide : 0 + 0 ≤ _)⟩)
  dsimp only [Pt.U, Pt.locs, Pt.cells, Pt.slots] at X103 l103 y103 z103 st103 hQ103
  subst l103 y103 z103
  unfold Q_rm3 at hQ103
  obtain ⟨rfl, N103q, e103⟩ := hQ103
  have N103 := Fr.app N0 N103q
  obtain ⟨T104, h104, X104, e104, E104, A104, D104, -, st104⟩ := newO X103 hx hZ hown (hwk hw 20 rfl) (hwk hw 21 rfl) (hwk hw 13 rfl) e103 (g := (mkF m 13 #[.val (.int p1)] [])) rfl (hb hby d2_13) (by decide) (by decide)
  obtain ⟨b104, g104⟩ : ∃ z, z = h0.size := ⟨_, rfl⟩
  rw [← g104] at A104 D104 st104
  have g_b104 : n0 ≤ b104 := Nat.le_trans (old_le O0) (Nat.le_of_eq g104.symm)
  have O105 : Old Z n0 h104 := Old.ext O0 E104
  obtain ⟨_, _, ⟨T106, L106, k106, n106⟩, -, X106, ⟨Lc106, hQ106, l106, y106, z106⟩, st106⟩ := Jvm.LawKit.callS X104 hx (y := (⟨"java/lang/StringLatin1", "toBytes", "(C)[B"⟩ : MethodName)) hown (mvT hZ (hwk hw 22 rfl)) (mvT hZ (hwk hw 23 rfl)) (mvT hZ (hwk hw 18 rfl)) (mvT hZ (hwk hw 24 rfl)) (by decide) (backOf (W := 2) (rm4 l Z a0 hw [] p1 h104 n0 O105 ) hZ (hwk hw 24 rfl) (hwk hw 18 rfl) (by decide) (by decide)) (g := (mkF m 18 #[.val (.int p1)] [(.int p1), (.ref b104), (.ref b104)])) rfl (by rw [hml]; rfl) (argsL := [(.int p1)]) (rest := [(.ref b104), (.ref b104)]) (lenOf pd_1 rfl) rfl (by show 2 * 0 + _ ≤ _; exact Nat.le_of_eq rfl) (hb hby d2_18) (fun _ _ => ⟨rfl, e104, (by decide : 1 + 1 ≤ _), (by decide : 4 + 1 ≤ _)⟩)
  dsimp only [Pt.U, Pt.locs, Pt.cells, Pt.slots] at X106 l106 y106 z106 st106 hQ106
  subst l106 y106 z106
  unfold Q_rm4 at hQ106
  obtain ⟨t_106, k_106, rfl, N106q, K106, ge_t_106, f106_0⟩ := hQ106
  have N106 := Fr.app N103 N106q
  have g_t_106 : n0 ≤ t_106 := Nat.le_trans (old_le O105) ge_t_106
  have c107 : Exa Z T106.heap b104 "java/lang/String" := (Exa.keep A104 K106)
  have c108 : Fld Z T106.heap b104 "java/lang/String" "value" "[B" .null := (Fld.keep (show Fld Z h104 b104 "java/lang/String" "value" "[B" .null from D104 (Or.inr (hwk hw 34 rfl)) (ty := (.array .byte)) (by decide)) K106 nin0)
  have c109 : Fld Z T106.heap b104 "java/lang/String" "coder" "B" (.int (0 : Int32)) := (Fld.keep (show Fld Z h104 b104 "java/lang/String" "coder" "B" (.int (0 : Int32)) from D104 (Or.inr (hwk hw 36 rfl)) (ty := .byte) (by decide)) K106 nin0)
  have O110 : Old Z n0 T106.heap := Old.keep O105 K106 all0
  obtain ⟨_, _, ⟨T111, L111, k111, n111⟩, -, X111, ⟨Lc111, hQ111, l111, y111, z111⟩, st111⟩ := X106.specialBack hx (y := (⟨"java/lang/String", "<init>", "([BB)V"⟩ : MethodName)) rfl hown (mvT hZ (hwk hw 26 rfl)) (mvT hZ (hwk hw 27 rfl)) (mvT hZ (hwk hw 29 rfl)) (by decide) (backOf (W := 1) (rm5 l Z a0 hw [] b104 t_106 T106.heap n0 O110 c107 g_b104 c108 c109) hZ (hwk hw 29 rfl) (hwk hw 13 rfl) (by decide) (by decide)) (g := (mkF m 22 #[.val (.int p1)] [(.int (0 : Int32)), (.ref t_106), (.ref b104), (.ref b104)])) rfl (by rw [hml]; rfl) (Steps.refl _) (a := b104) (argsL := [(.ref t_106), (.int (0 : Int32))]) (rest := [(.ref b104)]) (lenOf pd_2 rfl) rfl (by show 2 * 0 + _ ≤ _; exact Nat.le_of_eq rfl) (hb hby d2_22) (fun _ _ => ⟨rfl, (rfl : T106.heap = T106.heap), (by decide : 2 + 0 ≤ _), (by decide : 5 + 0 ≤ _)⟩)
  dsimp only [Pt.U, Pt.locs, Pt.cells, Pt.slots] at X111 l111 y111 z111 st111 hQ111
  subst l111 y111 z111
  unfold Q_rm5 at hQ111
  obtain ⟨rfl, N111q, K111, f111_0, f111_1, f111_2⟩ := hQ111
  have N111 := Fr.app N106 N111q
  have K112 : Keep h0 h104 [] := Keep.ext (Keep.refl h0 []) E104
  have K113 : Keep h0 T106.heap [] := Keep.trans K112 K106 all0
  have K114 : Keep h0 T111.heap [] := Keep.trans K113 K111 (allS (Or.inr (Nat.le_trans (Nat.le_refl _) (Nat.le_of_eq g104.symm))) all0)
  have c115 : Arv Z T111.heap t_106 k_106 .byte (1 : Int32) [(.int (nar .byte (p1.toInt8.toInt32)))] (.int (0 : Int32)) := (Arv.keep f106_0 K111 (ninS (Ne.symm (Nat.ne_of_lt (Nat.lt_of_lt_of_le (A104).lt ge_t_106))) nin0))
  obtain ⟨fs, hr, hrun, hended, hW, hsame⟩ := X111.leave (v := some (.ref b104)) (fun h => by rw [Bd.returns] at h; cases h)
  refine ⟨_, _, pre0 _ ?_, hrun, hended, _, _, rfl, ?_, ⟨_, rfl⟩, hW, hsame.mono (by decide) (by decide)⟩
  · show Steps p.tables e below (s₁.setTop (mkF m 0 #[.val (.int p1)] [])) _
    refine st102 _ ?_
    show Steps p.tables e below (T102.setTop (mkF m 3 #[.val (.int p1)] [(.int zc)])) _
    refine XS.ifNo X102.here hx rfl (hb hby d2_3) rfl ((if0 _ _).trans (feq (PZ : ¬ (zc = (0 : Int32)))).1) ?_
    show Steps p.tables e below (T102.setTop (mkF m 6 #[.val (.int p1)] [])) _
    refine XS.iloadN X102.here hx rfl (hb hby d2_6) rfl ?_
    show Steps p.tables e below (T102.setTop (mkF m 7 #[.val (.int p1)] [(.int p1)])) _
    refine st103 _ ?_
    show Steps p.tables e below (T103.setTop (mkF m 10 #[.val (.int p1)] [(.int (VCan p1))])) _
    refine XS.ifNo X103.here hx rfl (hb hby d2_10) rfl ((if0 _ _).trans (feq (by simp [VCan, hp1] : ¬ ((VCan p1) = (0 : Int32)))).1) ?_
    show Steps p.tables e below (T103.setTop (mkF m 13 #[.val (.int p1)] [])) _
    refine st104 _ ?_
    show Steps p.tables e below (T104.setTop (mkF m 16 #[.val (.int p1)] [(.ref b104)])) _
    refine XS.dup X104.here hx rfl (hb hby d2_16) rfl rfl ?_
    show Steps p.tables e below (T104.setTop (mkF m 17 #[.val (.int p1)] [(.ref b104), (.ref b104)])) _
    refine XS.iloadN X104.here hx rfl (hb hby d2_17) rfl ?_
    show Steps p.tables e below (T104.setTop (mkF m 18 #[.val (.int p1)] [(.int p1), (.ref b104), (.ref b104)])) _
    refine st106 _ ?_
    show Steps p.tables e below (T106.setTop (mkF m 21 #[.val (.int p1)] [(.ref t_106), (.ref b104), (.ref b104)])) _
    refine XS.iconst X106.here hx rfl (hb hby d2_21) ?_
    show Steps p.tables e below (T106.setTop (mkF m 22 #[.val (.int p1)] [(.int (0 : Int32)), (.ref t_106), (.ref b104), (.ref b104)])) _
    refine st111.trans ?_
    show Steps p.tables e below (T111.setTop (mkF m 25 #[.val (.int p1)] [(.ref b104)])) _
    exact Jvm.RoadKit.retOut X111 hx Bd.returns rfl (Or.inr (Or.inr (Or.inr (Or.inr ⟨rfl, rfl, rfl⟩)))) (hb hby d2_25) hr
  · show Q_rm2 Z p1 zc h0 n0 _ T111.heap _
    unfold Q_rm2
    exact ⟨b104, t_106, k_106, rfl, N111, K114, (Nat.le_trans (Nat.le_refl _) (Nat.le_of_eq g104.symm)), (Nat.le_trans (Nat.le_trans (Nat.le_refl _) E104.1) ge_t_106), f111_0, f111_1, f111_2, c115, (Ne.symm (Nat.ne_of_lt (Nat.lt_of_lt_of_le (A104).lt ge_t_106)))⟩
theorem ef_rm8 (m : MethodId) (x0 : Addr) : entryFrame m #[(.ref x0)] 1 = mkF m 0 #[.val (.ref x0)] [] := by first | (simp [entryFrame, mkF, argsToLocals, Value.category]; done) | rfl
def Q_rm8 (Z : State) (a1 : Addr) (h0 : Heap) (n0 : Nat) (v : Option Value) (h : Heap) (L : List Loc) : Prop := (v = none) ∧ (Fr n0 L) ∧ (h = h0)
theorem pn_3 : plainName "java/lang/Record" = true := by first | (simp [plainName, overriddenIn]; done) | decide +kernel
theorem d8_0 : decode jdk_30_method_1_code 0 = .ok (.aload_n 0, 1) := by decide +kernel
theorem d8_1 : decode jdk_30_method_1_code 1 = .ok (.invokespecial 1, 3) := by decide +kernel
theorem d8_4 : decode jdk_30_method_1_code 4 = .ok (.return_, 1) := by decide +kernel
set_option maxRecDepth 65536 in
set_option maxHeartbeats 40000000 in
theorem rm8 (l : Launch) (Z : State) (a0 : Array Value) (hw : ∀ d ∈ tables_1, d.before a0 Z = true) (ws : List Jvm.Cond) (a1 : Addr) (h0 : Heap) (n0 : Nat) (O0 : Old Z n0 h0)  :
    MetFree l (⟨"java/lang/Record", "<init>", "()V"⟩ : MethodName) (head1 (Jvm.Cond.code (⟨"java/lang/Record", "<init>", "()V"⟩ : MethodName) jdk_30_method_1_code 1 none :: ws) ({ frames := 1, cells := 0, slots := 0, locals := 12 } : Room)) (fun a U => a = #[(.ref a1)] ∧ Z.Warmed39 U.vm ∧ U.heap = h0) (fun _ _ _ _ _ => True) (fun _ U o U' => ∃ v L, o = .returned v ∧ Q_rm8 Z a1 h0 n0 v U'.heap L ∧ FrameEnd U o U' L ({ frames := 1, cells := 0, slots := 0, locals := 12 } : Room).cells ({ frames := 1, cells := 0, slots := 0, locals := 12 } : Room).slots) := by
  refine MetFree.of_bodySF (plainFor_of_name pn_3) hisR ?_
  intro p e s m args below meth c s₁ Bd hml0 hP hK
  obtain ⟨rfl, hZ, hh⟩ := hP
  have hx := Bd.exec
  have hby := Bd.bytes
  have hml : c.maxLocals = 1 := hml0
  have hown : s.vm.findClass "java/lang/Record" = some m.cls := findClass_of_methodNamed Bd.named
  have hnm := (name_of_methodNamed Bd.named Bd.method).1
  have X0 : Stand p l e ({ frames := 1, cells := 0, slots := 0, locals := 12 } : Room) s m #[(.ref a1)] below meth c s₁ [] 0 0 := Stand.of_body Bd
  have e0 : s₁.heap = h0 := by rw [← hh, Bd.state]; rfl
  have N0 := Fr.nil n0
  have Z0 : n0 ≤ h0.size := old_le O0
  have pre0 : ∀ t, Steps p.tables e below (s₁.setTop (mkF m 0 #[.val (.ref a1)] [])) t → Steps p.tables e below (s₁.setTop (entryFrame m #[(.ref a1)] 1)) t := fun t k => castTop (ef_rm8 m a1) k
  obtain ⟨T101, X101, e101, st101⟩ := initO X0 hx hZ hown (hwk hw 55 rfl) (hwk hw 31 rfl) (hwk hw 32 rfl) e0 (g := (mkF m 1 #[.val (.ref a1)] [(.ref a1)])) rfl (by rw [hml]; rfl) rfl (hb hby d8_1) (by decide) (W := 0) (by show 2 * 0 + _ ≤ _; exact Nat.le_of_eq rfl) (by decide)
  obtain ⟨fs, hr, hrun, hended, hW, hsame⟩ := X101.leave (v := none) (fun _ => rfl)
  refine ⟨_, _, pre0 _ ?_, hrun, hended, _, _, rfl, ?_, ⟨_, rfl⟩, hW, hsame.mono (by decide) (by decide)⟩
  · show Steps p.tables e below (s₁.setTop (mkF m 0 #[.val (.ref a1)] [])) _
    refine XS.aloadN X0.here hx rfl (hb hby d8_0) rfl rfl ?_
    show Steps p.tables e below (s₁.setTop (mkF m 1 #[.val (.ref a1)] [(.ref a1)])) _
    refine st101 _ ?_
    show Steps p.tables e below (T101.setTop (mkF m 4 #[.val (.ref a1)] [])) _
    exact X101.returnOut hx Bd.returns (hb hby d8_4) hr
  · show Q_rm8 Z a1 h0 n0 _ T101.heap _
    rw [e101]
    unfold Q_rm8
    exact ⟨rfl, N0, rfl⟩
theorem ef_rm9 (m : MethodId) (x0 : Addr) (x1 : Addr) : entryFrame m #[(.ref x0), (.ref x1)] 2 = mkF m 0 #[.val (.ref x0), .val (.ref x1)] [] := by first | (simp [entryFrame, mkF, argsToLocals, Value.category]; done) | rfl
def Q_rm9 (Z : State) (a1 : Addr) (a2 : Addr) (h0 : Heap) (n0 : Nat) (v : Option Value) (h : Heap) (L : List Loc) : Prop := (v = some (.ref a1)) ∧ (Fr n0 L) ∧ (h = h0)
theorem pn_4 : plainName "java/util/Objects" = true := by first | (simp [plainName, overriddenIn]; done) | decide +kernel
theorem d9_0 : decode jdk_31_method_11_code 0 = .ok (.aload_n 0, 1) := by decide +kernel
theorem d9_1 : decode jdk_31_method_11_code 1 = .ok (.ifnonnull 12, 3) := by decide +kernel
theorem d9_13 : decode jdk_31_method_11_code 13 = .ok (.aload_n 0, 1) := by decide +kernel
theorem d9_14 : decode jdk_31_method_11_code 14 = .ok (.areturn, 1) := by decide +kernel
set_option maxRecDepth 65536 in
set_option maxHeartbeats 40000000 in
theorem rm9 (l : Launch) (Z : State) (a0 : Array Value) (hw : ∀ d ∈ tables_1, d.before a0 Z = true) (ws : List Jvm.Cond) (a1 : Addr) (a2 : Addr) (h0 : Heap) (n0 : Nat) (O0 : Old Z n0 h0)  :
    MetFree l (⟨"java/util/Objects", "requireNonNull", "(Ljava/lang/Object;Ljava/lang/String;)Ljava/lang/Object;"⟩ : MethodName) (head1 (Jvm.Cond.code (⟨"java/util/Objects", "requireNonNull", "(Ljava/lang/Object;Ljava/lang/String;)Ljava/lang/Object;"⟩ : MethodName) jdk_31_method_11_code 2 (some (.object "java/lang/Object")) :: ws) ({ frames := 0, cells := 0, slots := 0, locals := 0 } : Room)) (fun a U => a = #[(.ref a1), (.ref a2)] ∧ Z.Warmed39 U.vm ∧ U.heap = h0) (fun _ _ _ _ _ => True) (fun _ U o U' => ∃ v L, o = .returned v ∧ Q_rm9 Z a1 a2 h0 n0 v U'.heap L ∧ FrameEnd U o U' L ({ frames := 0, cells := 0, slots := 0, locals := 0 } : Room).cells ({ frames := 0, cells := 0, slots := 0, locals := 0 } : Room).slots) := by
  refine MetFree.of_bodySF (plainFor_of_name pn_4) hisR ?_
  intro p e s m args below meth c s₁ Bd hml0 hP hK
  obtain ⟨rfl, hZ, hh⟩ := hP
  have hx := Bd.exec
  have hby := Bd.bytes
  have hml : c.maxLocals = 2 := hml0
  have hown : s.vm.findClass "java/util/Objects" = some m.cls := findClass_of_methodNamed Bd.named
  have hnm := (name_of_methodNamed Bd.named Bd.method).1
  have X0 : Stand p l e ({ frames := 0, cells := 0, slots := 0, locals := 0 } : Room) s m #[(.ref a1), (.ref a2)] below meth c s₁ [] 0 0 := Stand.of_body Bd
  have e0 : s₁.heap = h0 := by rw [← hh, Bd.state]; rfl
  have N0 := Fr.nil n0
  have Z0 : n0 ≤ h0.size := old_le O0
  have pre0 : ∀ t, Steps p.tables e below (s₁.setTop (mkF m 0 #[.val (.ref a1), .val (.ref a2)] [])) t → Steps p.tables e below (s₁.setTop (entryFrame m #[(.ref a1), (.ref a2)] 2)) t := fun t k => castTop (ef_rm9 m a1 a2) k
  obtain ⟨fs, hr, hrun, hended, hW, hsame⟩ := X0.leave (v := some (.ref a1)) (fun h => by rw [Bd.returns] at h; cases h)
  refine ⟨_, _, pre0 _ ?_, hrun, hended, _, _, rfl, ?_, ⟨_, rfl⟩, hW, hsame.mono (by decide) (by decide)⟩
  · show Steps p.tables e below (s₁.setTop (mkF m 0 #[.val (.ref a1), .val (.ref a2)] [])) _
    refine XS.aloadN X0.here hx rfl (hb hby d9_0) rfl rfl ?_
    show Steps p.tables e below (s₁.setTop (mkF m 1 #[.val (.ref a1), .val (.ref a2)] [(.ref a1)])) _
    refine XS.ifnonnullYes X0.here hx rfl (pc0 := 1) (pc' := 13) rfl (hb hby d9_1) rfl (by decide) (by decide) ?_
    show Steps p.tables e below (s₁.setTop (mkF m 13 #[.val (.ref a1), .val (.ref a2)] [])) _
    refine XS.aloadN X0.here hx rfl (hb hby d9_13) rfl rfl ?_
    show Steps p.tables e below (s₁.setTop (mkF m 14 #[.val (.ref a1), .val (.ref a2)] [(.ref a1)])) _
    exact Jvm.RoadKit.retOut X0 hx Bd.returns rfl (Or.inr (Or.inr (Or.inr (Or.inr ⟨rfl, rfl, rfl⟩)))) (hb hby d9_14) hr
  · show Q_rm9 Z a1 a2 h0 n0 _ s₁.heap _
    rw [e0]
    unfold Q_rm9
    exact ⟨rfl, N0, rfl⟩
theorem ef_rm7j (m : MethodId) (x0 : Addr) (x1 : Addr) (x2 : Addr) (x3 : Addr) (x4 : Addr) (x5 : Addr) (x6 : Value) (hr6 : x6.isRef = true) (x7 : Addr) : entryFrame m #[(.ref x0), (.ref x1), (.ref x2), (.ref x3), (.ref x4), (.ref x5), x6, (.ref x7)] 9 = mkF m 0 #[.val (.ref x0), .val (.ref x1), .val (.ref x2), .val (.ref x3), .val (.ref x4), .val (.ref x5), .val x6, .val (.ref x7), .unset] [] := by rcases ref_cases hr6 with rfl | ⟨y6, rfl⟩ <;> first | (simp [entryFrame, mkF, argsToLocals, Value.category]; done) | rfl
def Q_rm7j (Z : State) (a1 : Addr) (i1 : Addr) (k2 : Addr) (l3 : Addr) (t4 : Addr) (v6 : Value) (j7 : Addr) (w_RequestState_SUCCEEDED : Addr) (h0 : Heap) (n0 : Nat) (v : Option Value) (h : Heap) (L : List Loc) : Prop := (v = none) ∧ (Fr n0 L) ∧ (Keep h0 h [a1]) ∧ (Exa Z h a1 "com/example/done_once/doneonce/store/Request") ∧ (Fld Z h a1 "com/example/done_once/doneonce/store/Request" "state" "Lcom/example/done_once/doneonce/core/RequestState;" (.ref w_RequestState_SUCCEEDED)) ∧ (Fld Z h a1 "com/example/done_once/doneonce/store/Request" "job" "Lcom/example/done_once/doneonce/store/Job;" (.ref j7))
theorem pn_5 : plainName "com/example/done_once/doneonce/store/Request" = true := by first | (simp [plainName, overriddenIn]; done) | decide +kernel
theorem d7_0 : decode prog_55_method_1_code 0 = .ok (.aload_n 0, 1) := by decide +kernel
theorem d7_1 : decode prog_55_method_1_code 1 = .ok (.invokespecial 1, 3) := by decide +kernel
theorem pd_3 : parseMethodDescriptor "()V" = some ⟨[], none⟩ := by decide +kernel
theorem d7_4 : decode prog_55_method_1_code 4 = .ok (.aload_n 1, 1) := by decide +kernel
theorem d7_5 : decode prog_55_method_1_code 5 = .ok (.ldc 7, 2) := by decide +kernel
theorem d7_7 : decode prog_55_method_1_code 7 = .ok (.invokestatic 9, 3) := by decide +kernel
theorem pd_4 : parseMethodDescriptor "(Ljava/lang/Object;Ljava/lang/String;)Ljava/lang/Object;" = some ⟨[(.object "java/lang/Object"), (.object "java/lang/String")], some (.object "java/lang/Object")⟩ := by decide +kernel
theorem d7_10 : decode prog_55_method_1_code 10 = .ok (.pop, 1) := by decide +kernel
theorem d7_11 : decode prog_55_method_1_code 11 = .ok (.aload_n 2, 1) := by decide +kernel
theorem d7_12 : decode prog_55_method_1_code 12 = .ok (.ldc 15, 2) := by decide +kernel
theorem d7_14 : decode prog_55_method_1_code 14 = .ok (.invokestatic 9, 3) := by decide +kernel
theorem d7_17 : decode prog_55_method_1_code 17 = .ok (.pop, 1) := by decide +kernel
theorem d7_18 : decode prog_55_method_1_code 18 = .ok (.aload 5, 2) := by decide +kernel
theorem d7_20 : decode prog_55_method_1_code 20 = .ok (.ldc 17, 2) := by decide +kernel
theorem d7_22 : decode prog_55_method_1_code 22 = .ok (.invokestatic 9, 3) := by decide +kernel
theorem d7_25 : decode prog_55_method_1_code 25 = .ok (.pop, 1) := by decide +kernel
theorem d7_26 : decode prog_55_method_1_code 26 = .ok (.aload 5, 2) := by decide +kernel
theorem d7_28 : decode prog_55_method_1_code 28 = .ok (.getstatic 19, 3) := by decide +kernel
theorem d7_31 : decode prog_55_method_1_code 31 = .ok (.if_acmp .ne 7, 3) := by decide +kernel
theorem d7_34 : decode prog_55_method_1_code 34 = .ok (.iconst 1, 1) := by decide +kernel
theorem d7_35 : decode prog_55_method_1_code 35 = .ok (.goto 4, 3) := by decide +kernel
theorem d7_39 : decode prog_55_method_1_code 39 = .ok (.aload 7, 2) := by decide +kernel
theorem d7_41 : decode prog_55_method_1_code 41 = .ok (.ifnull 7, 3) := by decide +kernel
theorem d7_44 : decode prog_55_method_1_code 44 = .ok (.iconst 1, 1) := by decide +kernel
theorem d7_45 : decode prog_55_method_1_code 45 = .ok (.goto 4, 3) := by decide +kernel
theorem d7_49 : decode prog_55_method_1_code 49 = .ok (.if_icmp .eq 34, 3) := by decide +kernel
theorem d7_83 : decode prog_55_method_1_code 83 = .ok (.aload_n 0, 1) := by decide +kernel
theorem d7_84 : decode prog_55_method_1_code 84 = .ok (.aload_n 1, 1) := by decide +kernel
theorem d7_85 : decode prog_55_method_1_code 85 = .ok (.putfield 40, 3) := by decide +kernel
theorem d7_88 : decode prog_55_method_1_code 88 = .ok (.aload_n 0, 1) := by decide +kernel
theorem d7_89 : decode prog_55_method_1_code 89 = .ok (.aload_n 2, 1) := by decide +kernel
theorem d7_90 : decode prog_55_method_1_code 90 = .ok (.putfield 46, 3) := by decide +kernel
theorem d7_93 : decode prog_55_method_1_code 93 = .ok (.aload_n 0, 1) := by decide +kernel
theorem d7_94 : decode prog_55_method_1_code 94 = .ok (.aload_n 3, 1) := by decide +kernel
theorem d7_95 : decode prog_55_method_1_code 95 = .ok (.putfield 50, 3) := by decide +kernel
theorem d7_98 : decode prog_55_method_1_code 98 = .ok (.aload_n 0, 1) := by decide +kernel
theorem d7_99 : decode prog_55_method_1_code 99 = .ok (.aload 4, 2) := by decide +kernel
theorem d7_101 : decode prog_55_method_1_code 101 = .ok (.putfield 53, 3) := by decide +kernel
theorem d7_104 : decode prog_55_method_1_code 104 = .ok (.aload_n 0, 1) := by decide +kernel
theorem d7_105 : decode prog_55_method_1_code 105 = .ok (.aload 5, 2) := by decide +kernel
theorem d7_107 : decode prog_55_method_1_code 107 = .ok (.putfield 56, 3) := by decide +kernel
theorem d7_110 : decode prog_55_method_1_code 110 = .ok (.aload_n 0, 1) := by decide +kernel
theorem d7_111 : decode prog_55_method_1_code 111 = .ok (.aload 6, 2) := by decide +kernel
theorem d7_113 : decode prog_55_method_1_code 113 = .ok (.putfield 59, 3) := by decide +kernel
theorem d7_116 : decode prog_55_method_1_code 116 = .ok (.aload_n 0, 1) := by decide +kernel
theorem d7_117 : decode prog_55_method_1_code 117 = .ok (.aload 7, 2) := by decide +kernel
theorem d7_119 : decode prog_55_method_1_code 119 = .ok (.putfield 62, 3) := by decide +kernel
theorem d7_122 : decode prog_55_method_1_code 122 = .ok (.return_, 1) := by decide +kernel
set_option maxRecDepth 65536 in
set_option maxHeartbeats 40000000 in
theorem rm7j (l : Launch) (Z : State) (a0 : Array Value) (hw : ∀ d ∈ tables_1, d.before a0 Z = true) (ws : List Jvm.Cond) (a1 : Addr) (i1 : Addr) (k2 : Addr) (l3 : Addr) (t4 : Addr) (v6 : Value) (j7 : Addr) (w_RequestState_SUCCEEDED : Addr) (h0 : Heap) (n0 : Nat) (O0 : Old Z n0 h0) (E1 : Exa Z h0 a1 "com/example/done_once/doneonce/store/Request") (g1 : n0 ≤ a1) (D0 : Fld Z h0 a1 "com/example/done_once/doneonce/store/Request" "requestId" "Ljava/lang/String;" .null) (D1 : Fld Z h0 a1 "com/example/done_once/doneonce/store/Request" "kind" "Lcom/example/done_once/doneonce/core/RequestKind;" .null) (D2 : Fld Z h0 a1 "com/example/done_once/doneonce/store/Request" "lane" "Ljava/lang/String;" .null) (D3 : Fld Z h0 a1 "com/example/done_once/doneonce/store/Request" "tool" "Ljava/lang/String;" .null) (D4 : Fld Z h0 a1 "com/example/done_once/doneonce/store/Request" "state" "Lcom/example/done_once/doneonce/core/RequestState;" .null) (D5 : Fld Z h0 a1 "com/example/done_once/doneonce/store/Request" "error" "Ljava/lang/String;" .null) (D6 : Fld Z h0 a1 "com/example/done_once/doneonce/store/Request" "job" "Lcom/example/done_once/doneonce/store/Job;" .null) (hv6 : v6.isRef = true) (S_RequestState_SUCCEEDED : Sta Z Z.heap "com/example/done_once/doneonce/core/RequestState" "SUCCEEDED" "Lcom/example/done_once/doneonce/core/RequestState;" (.ref w_RequestState_SUCCEEDED)) :
    MetFree l (⟨"com/example/done_once/doneonce/store/Request", "<init>", "(Ljava/lang/String;Lcom/example/done_once/doneonce/core/RequestKind;Ljava/lang/String;Ljava/lang/String;Lcom/example/done_once/doneonce/core/RequestState;Ljava/lang/String;Lcom/example/done_once/doneonce/store/Job;)V"⟩ : MethodName) (head1 (Jvm.Cond.code (⟨"com/example/done_once/doneonce/store/Request", "<init>", "(Ljava/lang/String;Lcom/example/done_once/doneonce/core/RequestKind;Ljava/lang/String;Ljava/lang/String;Lcom/example/done_once/doneonce/core/RequestState;Ljava/lang/String;Lcom/example/done_once/doneonce/store/Job;)V"⟩ : MethodName) prog_55_method_1_code 9 none :: ws) ({ frames := 2, cells := 6, slots := 292, locals := 24 } : Room)) (fun a U => a = #[(.ref a1), (.ref i1), (.ref k2), (.ref l3), (.ref t4), (.ref w_RequestState_SUCCEEDED), v6, (.ref j7)] ∧ Z.Warmed39 U.vm ∧ U.heap = h0) (fun _ _ _ _ _ => True) (fun _ U o U' => ∃ v L, o = .returned v ∧ Q_rm7j Z a1 i1 k2 l3 t4 v6 j7 w_RequestState_SUCCEEDED h0 n0 v U'.heap L ∧ ReturnedEndW U o U' L ({ frames := 2, cells := 6, slots := 292, locals := 24 } : Room).cells ({ frames := 2, cells := 6, slots := 292, locals := 24 } : Room).slots) := by
  refine MetFree.of_bodySF (plainFor_of_name pn_5) hisR ?_
  intro p e s m args below meth c s₁ Bd hml0 hP hK
  obtain ⟨rfl, hZ, hh⟩ := hP
  have hx := Bd.exec
  have hby := Bd.bytes
  have hml : c.maxLocals = 9 := hml0
  have hown : s.vm.findClass "com/example/done_once/doneonce/store/Request" = some m.cls := findClass_of_methodNamed Bd.named
  have hnm := (name_of_methodNamed Bd.named Bd.method).1
  have hS0 : s.Since s.vm h0.size := (State.WarmedH.refl s).since _
  have hstr : ∀ a ∈ Bundle.stringAtoms, a.before a0 Z = true := own_str hw
  have X0 : Stand p l e ({ frames := 2, cells := 6, slots := 292, locals := 24 } : Room) (s.setVm s.vm) m #[(.ref a1), (.ref i1), (.ref k2), (.ref l3), (.ref t4), (.ref w_RequestState_SUCCEEDED), v6, (.ref j7)] below meth c s₁ [] 0 0 := Stand.of_body Bd
  have e0 : s₁.heap = h0 := by rw [← hh, Bd.state]; rfl
  have N0 := Fr.nil n0
  have Z0 : n0 ≤ h0.size := old_le O0
  have pre0 : ∀ t, Steps p.tables e below (s₁.setTop (mkF m 0 #[.val (.ref a1), .val (.ref i1), .val (.ref k2), .val (.ref l3), .val (.ref t4), .val (.ref w_RequestState_SUCCEEDED), .val v6, .val (.ref j7), .unset] [])) t → Steps p.tables e below (s₁.setTop (entryFrame m #[(.ref a1), (.ref i1), (.ref k2), (.ref l3), (.ref t4), (.ref w_RequestState_SUCCEEDED), v6, (.ref j7)] 9)) t := fun t k => castTop (ef_rm7j m a1 i1 k2 l3 t4 w_RequestState_SUCCEEDED v6 hv6 j7) k
  obtain ⟨_, _, ⟨T101, L101, k101, n101⟩, -, X101, ⟨Lc101, hQ101, l101, y101, z101⟩, st101⟩ := X0.specialBack hx (y := (⟨"java/lang/Record", "<init>", "()V"⟩ : MethodName)) rfl hown (mvT hZ (hwk hw 50 rfl)) (mvT hZ (hwk hw 51 rfl)) (mvT hZ (hwk hw 54 rfl)) (by decide) (backOf (W := 0) (rm8 l Z a0 hw [] a1 h0 n0 O0 ) hZ (hwk hw 54 rfl) (hwk hw 53 rfl) (by decide) (by decide)) (g := (mkF m 1 #[.val (.ref a1), .val (.ref i1), .val (.ref k2), .val (.ref l3), .val (.ref t4), .val (.ref w_RequestState_SUCCEEDED), .val v6, .val (.ref j7), .unset] [(.ref a1)])) rfl (by rw [hml]; rfl) (Steps.refl _) (a := a1) (argsL := []) (rest := []) (lenOf pd_3 rfl) rfl (by show 2 * 0 + _ ≤ _; exact Nat.le_of_eq rfl) (hb hby d7_1) (fun _ _ => ⟨rfl, e0, (by decide : 0 + 0 ≤ _), (by decide : 0 + 0 ≤ _)⟩)
  dsimp only [Pt.U, Pt.locs, Pt.cells, Pt.slots] at X101 l101 y101 z101 st101 hQ101
  subst l101 y101 z101
  unfold Q_rm8 at hQ101
  obtain ⟨rfl, N101q, e101⟩ := hQ101
  have N101 := Fr.app N0 N101q
  obtain ⟨a102, T102, h102, k102, X102, e102, E102, hS102, hk102, hZ102, hown102, st102⟩ := ldcS X101 hx hZ hown (hwk hw 56 rfl) hstr e101 hS0 (Nat.le_refl _) (g := (mkF m 5 #[.val (.ref a1), .val (.ref i1), .val (.ref k2), .val (.ref l3), .val (.ref t4), .val (.ref w_RequestState_SUCCEEDED), .val v6, .val (.ref j7), .unset] [(.ref i1)])) rfl (hb hby d7_5) (n := 108) (by decide) (by decide) (by decide) (by decide)
  have O103 : Old Z n0 h102 := Old.ext O0 E102
  obtain ⟨_, _, ⟨T104, L104, k104, n104⟩, -, X104, ⟨Lc104, hQ104, l104, y104, z104⟩, st104⟩ := Jvm.LawKit.callS X102 hx (y := (⟨"java/util/Objects", "requireNonNull", "(Ljava/lang/Object;Ljava/lang/String;)Ljava/lang/Object;"⟩ : MethodName)) hown102 (mvT hZ102 (hwk hw 57 rfl)) (mvT hZ102 (hwk hw 58 rfl)) (mvT hZ102 (hwk hw 59 rfl)) (mvT hZ102 (hwk hw 60 rfl)) (by decide) (backOf (W := 0) (rm9 l Z a0 hw [] i1 a102 h102 n0 O103 ) hZ102 (hwk hw 60 rfl) (hwk hw 59 rfl) (by decide) (by decide)) (g := (mkF m 7 #[.val (.ref a1), .val (.ref i1), .val (.ref k2), .val (.ref l3), .val (.ref t4), .val (.ref w_RequestState_SUCCEEDED), .val v6, .val (.ref j7), .unset] [(.ref a102), (.ref i1)])) rfl (by rw [hml]; rfl) (argsL := [(.ref i1), (.ref a102)]) (rest := []) (lenOf pd_4 rfl) rfl (by show 2 * 0 + _ ≤ _; exact Nat.le_of_eq rfl) (hb hby d7_7) (fun _ _ => ⟨rfl, e102, (by decide : 2 + 0 ≤ _), (by decide : 112 + 0 ≤ _)⟩)
  dsimp only [Pt.U, Pt.locs, Pt.cells, Pt.slots] at X104 l104 y104 z104 st104 hQ104
  subst l104 y104 z104
  unfold Q_rm9 at hQ104
  obtain ⟨rfl, N104q, e104⟩ := hQ104
  have N104 := Fr.app N101 N104q
  obtain ⟨a105, T105, h105, k105, X105, e105, E105, hS105, hk105, hZ105, hown105, st105⟩ := ldcS X104 hx hZ102 hown102 (hwk hw 61 rfl) hstr e104 hS102 hk102 (g := (mkF m 12 #[.val (.ref a1), .val (.ref i1), .val (.ref k2), .val (.ref l3), .val (.ref t4), .val (.ref w_RequestState_SUCCEEDED), .val v6, .val (.ref j7), .unset] [(.ref k2)])) rfl (hb hby d7_12) (n := 84) (by decide) (by decide) (by decide) (by decide)
  have O106 : Old Z n0 h105 := Old.ext O103 E105
  obtain ⟨_, _, ⟨T107, L107, k107, n107⟩, -, X107, ⟨Lc107, hQ107, l107, y107, z107⟩, st107⟩ := Jvm.LawKit.callS X105 hx (y := (⟨"java/util/Objects", "requireNonNull", "(Ljava/lang/Object;Ljava/lang/String;)Ljava/lang/Object;"⟩ : MethodName)) hown105 (mvT hZ105 (hwk hw 57 rfl)) (mvT hZ105 (hwk hw 58 rfl)) (mvT hZ105 (hwk hw 59 rfl)) (mvT hZ105 (hwk hw 60 rfl)) (by decide) (backOf (W := 0) (rm9 l Z a0 hw [] k2 a105 h105 n0 O106 ) hZ105 (hwk hw 60 rfl) (hwk hw 59 rfl) (by decide) (by decide)) (g := (mkF m 14 #[.val (.ref a1), .val (.ref i1), .val (.ref k2), .val (.ref l3), .val (.ref t4), .val (.ref w_RequestState_SUCCEEDED), .val v6, .val (.ref j7), .unset] [(.ref a105), (.ref k2)])) rfl (by rw [hml]; rfl) (argsL := [(.ref k2), (.ref a105)]) (rest := []) (lenOf pd_4 rfl) rfl (by show 2 * 0 + _ ≤ _; exact Nat.le_of_eq rfl) (hb hby d7_14) (fun _ _ => ⟨rfl, e105, (by decide : 4 + 0 ≤ _), (by decide : 200 + 0 ≤ _)⟩)
  dsimp only [Pt.U, Pt.locs, Pt.cells, Pt.slots] at X107 l107 y107 z107 st107 hQ107
  subst l107 y107 z107
  unfold Q_rm9 at hQ107
  obtain ⟨rfl, N107q, e107⟩ := hQ107
  have N107 := Fr.app N104 N107q
  obtain ⟨a108, T108, h108, k108, X108, e108, E108, hS108, hk108, hZ108, hown108, st108⟩ := ldcS X107 hx hZ105 hown105 (hwk hw 62 rfl) hstr e107 hS105 hk105 (g := (mkF m 20 #[.val (.ref a1), .val (.ref i1), .val (.ref k2), .val (.ref l3), .val (.ref t4), .val (.ref w_RequestState_SUCCEEDED), .val v6, .val (.ref j7), .unset] [(.ref w_RequestState_SUCCEEDED)])) rfl (hb hby d7_20) (n := 88) (by decide) (by decide) (by decide) (by decide)
  have O109 : Old Z n0 h108 := Old.ext O106 E108
  obtain ⟨_, _, ⟨T110, L110, k110, n110⟩, -, X110, ⟨Lc110, hQ110, l110, y110, z110⟩, st110⟩ := Jvm.LawKit.callS X108 hx (y := (⟨"java/util/Objects", "requireNonNull", "(Ljava/lang/Object;Ljava/lang/String;)Ljava/lang/Object;"⟩ : MethodName)) hown108 (mvT hZ108 (hwk hw 57 rfl)) (mvT hZ108 (hwk hw 58 rfl)) (mvT hZ108 (hwk hw 59 rfl)) (mvT hZ108 (hwk hw 60 rfl)) (by decide) (backOf (W := 0) (rm9 l Z a0 hw [] w_RequestState_SUCCEEDED a108 h108 n0 O109 ) hZ108 (hwk hw 60 rfl) (hwk hw 59 rfl) (by decide) (by decide)) (g := (mkF m 22 #[.val (.ref a1), .val (.ref i1), .val (.ref k2), .val (.ref l3), .val (.ref t4), .val (.ref w_RequestState_SUCCEEDED), .val v6, .val (.ref j7), .unset] [(.ref a108), (.ref w_RequestState_SUCCEEDED)])) rfl (by rw [hml]; rfl) (argsL := [(.ref w_RequestState_SUCCEEDED), (.ref a108)]) (rest := []) (lenOf pd_4 rfl) rfl (by show 2 * 0 + _ ≤ _; exact Nat.le_of_eq rfl) (hb hby d7_22) (fun _ _ => ⟨rfl, e108, (by decide : 6 + 0 ≤ _), (by decide : 292 + 0 ≤ _)⟩)
  dsimp only [Pt.U, Pt.locs, Pt.cells, Pt.slots] at X110 l110 y110 z110 st110 hQ110
  subst l110 y110 z110
  unfold Q_rm9 at hQ110
  obtain ⟨rfl, N110q, e110⟩ := hQ110
  have N110 := Fr.app N107 N110q
  have c111 : Sta Z h108 "com/example/done_once/doneonce/core/RequestState" "SUCCEEDED" "Lcom/example/done_once/doneonce/core/RequestState;" (.ref w_RequestState_SUCCEEDED) := Sta.ext (O109).2 S_RequestState_SUCCEEDED
  obtain ⟨T112, X112, e112, st112⟩ := getS2 X110 hx hZ108 hown108 (host := "") (Or.inl (hwk hw 63 rfl)) Via.refl e110 c111 (g := (mkF m 28 #[.val (.ref a1), .val (.ref i1), .val (.ref k2), .val (.ref l3), .val (.ref t4), .val (.ref w_RequestState_SUCCEEDED), .val v6, .val (.ref j7), .unset] [(.ref w_RequestState_SUCCEEDED)])) rfl (hb hby d7_28)
  have c113 : Exa Z h108 a1 "com/example/done_once/doneonce/store/Request" := (Exa.ext E108 (Exa.ext E105 (Exa.ext E102 E1)))
  have c114 : Fld Z h108 a1 "com/example/done_once/doneonce/store/Request" "requestId" "Ljava/lang/String;" .null := (Fld.ext E108 (Fld.ext E105 (Fld.ext E102 D0)))
  obtain ⟨T115, h115, X115, e115, W115, st115⟩ := putF X112 hx hZ108 hown108 (host := "") (Or.inl (hwk hw 65 rfl)) Via.refl e112 c114 c113 (Or.inr ⟨(hwk hw 66 rfl), rfl, hnm⟩) (hwk hw 41 rfl) (ty := (.object "java/lang/String")) (by decide) rfl rfl (g := (mkF m 85 #[.val (.ref a1), .val (.ref i1), .val (.ref k2), .val (.ref l3), .val (.ref t4), .val (.ref w_RequestState_SUCCEEDED), .val v6, .val (.ref j7), .unset] [(.ref i1), (.ref a1)])) rfl rfl (hb hby d7_85)
  have F115 : Fld Z h115 a1 "com/example/done_once/doneonce/store/Request" "requestId" "Ljava/lang/String;" (.ref i1) := Fld.same W115 c114
  have N115 := Fr.snoc X115 N110 g1
  have c116 : Exa Z h115 a1 "com/example/done_once/doneonce/store/Request" := (Exa.wr W115 c113)
  have c117 : Fld Z h115 a1 "com/example/done_once/doneonce/store/Request" "kind" "Lcom/example/done_once/doneonce/core/RequestKind;" .null := (Fld.other W115 (Fld.ext E108 (Fld.ext E105 (Fld.ext E102 D1))) (Or.inr (slot_ne (Or.inr (hwk hw 68 rfl)) (Or.inr (hwk hw 66 rfl)) (by decide) (t := (.object "com/example/done_once/doneonce/core/RequestKind")) (t' := (.object "java/lang/String")) (by decide) (by decide))))
  obtain ⟨T118, h118, X118, e118, W118, st118⟩ := putF X115 hx hZ108 hown108 (host := "") (Or.inl (hwk hw 67 rfl)) Via.refl e115 c117 c116 (Or.inr ⟨(hwk hw 68 rfl), rfl, hnm⟩) (hwk hw 41 rfl) (ty := (.object "com/example/done_once/doneonce/core/RequestKind")) (by decide) rfl rfl (g := (mkF m 90 #[.val (.ref a1), .val (.ref i1), .val (.ref k2), .val (.ref l3), .val (.ref t4), .val (.ref w_RequestState_SUCCEEDED), .val v6, .val (.ref j7), .unset] [(.ref k2), (.ref a1)])) rfl rfl (hb hby d7_90)
  have F118 : Fld Z h118 a1 "com/example/done_once/doneonce/store/Request" "kind" "Lcom/example/done_once/doneonce/core/RequestKind;" (.ref k2) := Fld.same W118 c117
  have N118 := Fr.snoc X118 N115 g1
  have c119 : Exa Z h118 a1 "com/example/done_once/doneonce/store/Request" := (Exa.wr W118 c116)
  have c120 : Fld Z h118 a1 "com/example/done_once/doneonce/store/Request" "lane" "Ljava/lang/String;" .null := (Fld.other W118 (Fld.other W115 (Fld.ext E108 (Fld.ext E105 (Fld.ext E102 D2))) (Or.inr (slot_ne (Or.inr (hwk hw 70 rfl)) (Or.inr (hwk hw 66 rfl)) (by decide) (t := (.object "java/lang/String")) (t' := (.object "java/lang/String")) (by decide) (by decide)))) (Or.inr (slot_ne (Or.inr (hwk hw 70 rfl)) (Or.inr (hwk hw 68 rfl)) (by decide) (t := (.object "java/lang/String")) (t' := (.object "com/example/done_once/doneonce/core/RequestKind")) (by decide) (by decide))))
  obtain ⟨T121, h121, X121, e121, W121, st121⟩ := putF X118 hx hZ108 hown108 (host := "") (Or.inl (hwk hw 69 rfl)) Via.refl e118 c120 c119 (Or.inr ⟨(hwk hw 70 rfl), rfl, hnm⟩) (hwk hw 41 rfl) (ty := (.object "java/lang/String")) (by decide) rfl rfl (g := (mkF m 95 #[.val (.ref a1), .val (.ref i1), .val (.ref k2), .val (.ref l3), .val (.ref t4), .val (.ref w_RequestState_SUCCEEDED), .val v6, .val (.ref j7), .unset] [(.ref l3), (.ref a1)])) rfl rfl (hb hby d7_95)
  have F121 : Fld Z h121 a1 "com/example/done_once/doneonce/store/Request" "lane" "Ljava/lang/String;" (.ref l3) := Fld.same W121 c120
  have N121 := Fr.snoc X121 N118 g1
  have c122 : Exa Z h121 a1 "com/example/done_once/doneonce/store/Request" := (Exa.wr W121 c119)
  have c123 : Fld Z h121 a1 "com/example/done_once/doneonce/store/Request" "tool" "Ljava/lang/String;" .null := (Fld.other W121 (Fld.other W118 (Fld.other W115 (Fld.ext E108 (Fld.ext E105 (Fld.ext E102 D3))) (Or.inr (slot_ne (Or.inr (hwk hw 72 rfl)) (Or.inr (hwk hw 66 rfl)) (by decide) (t := (.object "java/lang/String")) (t' := (.object "java/lang/String")) (by decide) (by decide)))) (Or.inr (slot_ne (Or.inr (hwk hw 72 rfl)) (Or.inr (hwk hw 68 rfl)) (by decide) (t := (.object "java/lang/String")) (t' := (.object "com/example/done_once/doneonce/core/RequestKind")) (by decide) (by decide)))) (Or.inr (slot_ne (Or.inr (hwk hw 72 rfl)) (Or.inr (hwk hw 70 rfl)) (by decide) (t := (.object "java/lang/String")) (t' := (.object "java/lang/String")) (by decide) (by decide))))
  obtain ⟨T124, h124, X124, e124, W124, st124⟩ := putF X121 hx hZ108 hown108 (host := "") (Or.inl (hwk hw 71 rfl)) Via.refl e121 c123 c122 (Or.inr ⟨(hwk hw 72 rfl), rfl, hnm⟩) (hwk hw 41 rfl) (ty := (.object "java/lang/String")) (by decide) rfl rfl (g := (mkF m 101 #[.val (.ref a1), .val (.ref i1), .val (.ref k2), .val (.ref l3), .val (.ref t4), .val (.ref w_RequestState_SUCCEEDED), .val v6, .val (.ref j7), .unset] [(.ref t4), (.ref a1)])) rfl rfl (hb hby d7_101)
  have F124 : Fld Z h124 a1 "com/example/done_once/doneonce/store/Request" "tool" "Ljava/lang/String;" (.ref t4) := Fld.same W124 c123
  have N124 := Fr.snoc X124 N121 g1
  have c125 : Exa Z h124 a1 "com/example/done_once/doneonce/store/Request" := (Exa.wr W124 c122)
  have c126 : Fld Z h124 a1 "com/example/done_once/doneonce/store/Request" "state" "Lcom/example/done_once/doneonce/core/RequestState;" .null := (Fld.other W124 (Fld.other W121 (Fld.other W118 (Fld.other W115 (Fld.ext E108 (Fld.ext E105 (Fld.ext E102 D4))) (Or.inr (slot_ne (Or.inr (hwk hw 74 rfl)) (Or.inr (hwk hw 66 rfl)) (by decide) (t := (.object "com/example/done_once/doneonce/core/RequestState")) (t' := (.object "java/lang/String")) (by decide) (by decide)))) (Or.inr (slot_ne (Or.inr (hwk hw 74 rfl)) (Or.inr (hwk hw 68 rfl)) (by decide) (t := (.object "com/example/done_once/doneonce/core/RequestState")) (t' := (.object "com/example/done_once/doneonce/core/RequestKind")) (by decide) (by decide)))) (Or.inr (slot_ne (Or.inr (hwk hw 74 rfl)) (Or.inr (hwk hw 70 rfl)) (by decide) (t := (.object "com/example/done_once/doneonce/core/RequestState")) (t' := (.object "java/lang/String")) (by decide) (by decide)))) (Or.inr (slot_ne (Or.inr (hwk hw 74 rfl)) (Or.inr (hwk hw 72 rfl)) (by decide) (t := (.object "com/example/done_once/doneonce/core/RequestState")) (t' := (.object "java/lang/String")) (by decide) (by decide))))
  obtain ⟨T127, h127, X127, e127, W127, st127⟩ := putF X124 hx hZ108 hown108 (host := "") (Or.inl (hwk hw 73 rfl)) Via.refl e124 c126 c125 (Or.inr ⟨(hwk hw 74 rfl), rfl, hnm⟩) (hwk hw 41 rfl) (ty := (.object "com/example/done_once/doneonce/core/RequestState")) (by decide) rfl rfl (g := (mkF m 107 #[.val (.ref a1), .val (.ref i1), .val (.ref k2), .val (.ref l3), .val (.ref t4), .val (.ref w_RequestState_SUCCEEDED), .val v6, .val (.ref j7), .unset] [(.ref w_RequestState_SUCCEEDED), (.ref a1)])) rfl rfl (hb hby d7_107)
  have F127 : Fld Z h127 a1 "com/example/done_once/doneonce/store/Request" "state" "Lcom/example/done_once/doneonce/core/RequestState;" (.ref w_RequestState_SUCCEEDED) := Fld.same W127 c126
  have N127 := Fr.snoc X127 N124 g1
  have c128 : Exa Z h127 a1 "com/example/done_once/doneonce/store/Request" := (Exa.wr W127 c125)
  have c129 : Fld Z h127 a1 "com/example/done_once/doneonce/store/Request" "error" "Ljava/lang/String;" .null := (Fld.other W127 (Fld.other W124 (Fld.other W121 (Fld.other W118 (Fld.other W115 (Fld.ext E108 (Fld.ext E105 (Fld.ext E102 D5))) (Or.inr (slot_ne (Or.inr (hwk hw 76 rfl)) (Or.inr (hwk hw 66 rfl)) (by decide) (t := (.object "java/lang/String")) (t' := (.object "java/lang/String")) (by decide) (by decide)))) (Or.inr (slot_ne (Or.inr (hwk hw 76 rfl)) (Or.inr (hwk hw 68 rfl)) (by decide) (t := (.object "java/lang/String")) (t' := (.object "com/example/done_once/doneonce/core/RequestKind")) (by decide) (by decide)))) (Or.inr (slot_ne (Or.inr (hwk hw 76 rfl)) (Or.inr (hwk hw 70 rfl)) (by decide) (t := (.object "java/lang/String")) (t' := (.object "java/lang/String")) (by decide) (by decide)))) (Or.inr (slot_ne (Or.inr (hwk hw 76 rfl)) (Or.inr (hwk hw 72 rfl)) (by decide) (t := (.object "java/lang/String")) (t' := (.object "java/lang/String")) (by decide) (by decide)))) (Or.inr (slot_ne (Or.inr (hwk hw 76 rfl)) (Or.inr (hwk hw 74 rfl)) (by decide) (t := (.object "java/lang/String")) (t' := (.object "com/example/done_once/doneonce/core/RequestState")) (by decide) (by decide))))
  obtain ⟨T130, h130, X130, e130, W130, st130⟩ := putF X127 hx hZ108 hown108 (host := "") (Or.inl (hwk hw 75 rfl)) Via.refl e127 c129 c128 (Or.inr ⟨(hwk hw 76 rfl), rfl, hnm⟩) (hwk hw 41 rfl) (ty := (.object "java/lang/String")) (by decide) (narrow_refV rfl hv6) (fits_refV rfl hv6) (g := (mkF m 113 #[.val (.ref a1), .val (.ref i1), .val (.ref k2), .val (.ref l3), .val (.ref t4), .val (.ref w_RequestState_SUCCEEDED), .val v6, .val (.ref j7), .unset] [v6, (.ref a1)])) rfl rfl (hb hby d7_113)
  have F130 : Fld Z h130 a1 "com/example/done_once/doneonce/store/Request" "error" "Ljava/lang/String;" v6 := Fld.same W130 c129
  have N130 := Fr.snoc X130 N127 g1
  have c131 : Exa Z h130 a1 "com/example/done_once/doneonce/store/Request" := (Exa.wr W130 c128)
  have c132 : Fld Z h130 a1 "com/example/done_once/doneonce/store/Request" "job" "Lcom/example/done_once/doneonce/store/Job;" .null := (Fld.other W130 (Fld.other W127 (Fld.other W124 (Fld.other W121 (Fld.other W118 (Fld.other W115 (Fld.ext E108 (Fld.ext E105 (Fld.ext E102 D6))) (Or.inr (slot_ne (Or.inr (hwk hw 78 rfl)) (Or.inr (hwk hw 66 rfl)) (by decide) (t := (.object "com/example/done_once/doneonce/store/Job")) (t' := (.object "java/lang/String")) (by decide) (by decide)))) (Or.inr (slot_ne (Or.inr (hwk hw 78 rfl)) (Or.inr (hwk hw 68 rfl)) (by decide) (t := (.object "com/example/done_once/doneonce/store/Job")) (t' := (.object "com/example/done_once/doneonce/core/RequestKind")) (by decide) (by decide)))) (Or.inr (slot_ne (Or.inr (hwk hw 78 rfl)) (Or.inr (hwk hw 70 rfl)) (by decide) (t := (.object "com/example/done_once/doneonce/store/Job")) (t' := (.object "java/lang/String")) (by decide) (by decide)))) (Or.inr (slot_ne (Or.inr (hwk hw 78 rfl)) (Or.inr (hwk hw 72 rfl)) (by decide) (t := (.object "com/example/done_once/doneonce/store/Job")) (t' := (.object "java/lang/String")) (by decide) (by decide)))) (Or.inr (slot_ne (Or.inr (hwk hw 78 rfl)) (Or.inr (hwk hw 74 rfl)) (by decide) (t := (.object "com/example/done_once/doneonce/store/Job")) (t' := (.object "com/example/done_once/doneonce/core/RequestState")) (by decide) (by decide)))) (Or.inr (slot_ne (Or.inr (hwk hw 78 rfl)) (Or.inr (hwk hw 76 rfl)) (by decide) (t := (.object "com/example/done_once/doneonce/store/Job")) (t' := (.object "java/lang/String")) (by decide) (by decide))))
  obtain ⟨T133, h133, X133, e133, W133, st133⟩ := putF X130 hx hZ108 hown108 (host := "") (Or.inl (hwk hw 77 rfl)) Via.refl e130 c132 c131 (Or.inr ⟨(hwk hw 78 rfl), rfl, hnm⟩) (hwk hw 41 rfl) (ty := (.object "com/example/done_once/doneonce/store/Job")) (by decide) rfl rfl (g := (mkF m 119 #[.val (.ref a1), .val (.ref i1), .val (.ref k2), .val (.ref l3), .val (.ref t4), .val (.ref w_RequestState_SUCCEEDED), .val v6, .val (.ref j7), .unset] [(.ref j7), (.ref a1)])) rfl rfl (hb hby d7_119)
  have F133 : Fld Z h133 a1 "com/example/done_once/doneonce/store/Request" "job" "Lcom/example/done_once/doneonce/store/Job;" (.ref j7) := Fld.same W133 c132
  have N133 := Fr.snoc X133 N130 g1
  have K134 : Keep h0 h102 [a1] := Keep.ext (Keep.refl h0 [a1]) E102
  have K135 : Keep h0 h105 [a1] := Keep.ext K134 E105
  have K136 : Keep h0 h108 [a1] := Keep.ext K135 E108
  have K137 : Keep h0 h115 [a1] := Keep.wr K136 W115 (Or.inl (List.mem_of_getElem? (i := 0) rfl))
  have K138 : Keep h0 h118 [a1] := Keep.wr K137 W118 (Or.inl (List.mem_of_getElem? (i := 0) rfl))
  have K139 : Keep h0 h121 [a1] := Keep.wr K138 W121 (Or.inl (List.mem_of_getElem? (i := 0) rfl))
  have K140 : Keep h0 h124 [a1] := Keep.wr K139 W124 (Or.inl (List.mem_of_getElem? (i := 0) rfl))
  have K141 : Keep h0 h127 [a1] := Keep.wr K140 W127 (Or.inl (List.mem_of_getElem? (i := 0) rfl))
  have K142 : Keep h0 h130 [a1] := Keep.wr K141 W130 (Or.inl (List.mem_of_getElem? (i := 0) rfl))
  have K143 : Keep h0 h133 [a1] := Keep.wr K142 W133 (Or.inl (List.mem_of_getElem? (i := 0) rfl))
  have c144 : Exa Z h133 a1 "com/example/done_once/doneonce/store/Request" := (Exa.wr W133 c131)
  have c145 : Fld Z h133 a1 "com/example/done_once/doneonce/store/Request" "state" "Lcom/example/done_once/doneonce/core/RequestState;" (.ref w_RequestState_SUCCEEDED) := (Fld.other W133 (Fld.other W130 F127 (Or.inr (slot_ne (Or.inr (hwk hw 74 rfl)) (Or.inr (hwk hw 76 rfl)) (by decide) (t := (.object "com/example/done_once/doneonce/core/RequestState")) (t' := (.object "java/lang/String")) (by decide) (by decide)))) (Or.inr (slot_ne (Or.inr (hwk hw 74 rfl)) (Or.inr (hwk hw 78 rfl)) (by decide) (t := (.object "com/example/done_once/doneonce/core/RequestState")) (t' := (.object "com/example/done_once/doneonce/store/Job")) (by decide) (by decide))))
  obtain ⟨fs, hr, hrun, hended, hRE⟩ := X133.leaveW hS108 (show _ ≤ T133.heap.size from by rw [e133]; exact (Nat.le_trans hk108 (Nat.le_trans (Nat.le_trans (Nat.le_trans (Nat.le_trans (Nat.le_trans (Nat.le_trans (Nat.le_trans (Nat.le_refl _) (Nat.le_of_eq W115.size.symm)) (Nat.le_of_eq W118.size.symm)) (Nat.le_of_eq W121.size.symm)) (Nat.le_of_eq W124.size.symm)) (Nat.le_of_eq W127.size.symm)) (Nat.le_of_eq W130.size.symm)) (Nat.le_of_eq W133.size.symm)))) (v := none) (fun _ => rfl)
  refine ⟨_, _, pre0 _ ?_, hrun, hended, _, _, rfl, ?_, hRE.1, hRE.2.1, hRE.2.2.1, hRE.2.2.2.mono (by decide) (by decide)⟩
  · show Steps p.tables e below (s₁.setTop (mkF m 0 #[.val (.ref a1), .val (.ref i1), .val (.ref k2), .val (.ref l3), .val (.ref t4), .val (.ref w_RequestState_SUCCEEDED), .val v6, .val (.ref j7), .unset] [])) _
    refine XS.aloadN X0.here hx rfl (hb hby d7_0) rfl rfl ?_
    show Steps p.tables e below (s₁.setTop (mkF m 1 #[.val (.ref a1), .val (.ref i1), .val (.ref k2), .val (.ref l3), .val (.ref t4), .val (.ref w_RequestState_SUCCEEDED), .val v6, .val (.ref j7), .unset] [(.ref a1)])) _
    refine st101.trans ?_
    show Steps p.tables e below (T101.setTop (mkF m 4 #[.val (.ref a1), .val (.ref i1), .val (.ref k2), .val (.ref l3), .val (.ref t4), .val (.ref w_RequestState_SUCCEEDED), .val v6, .val (.ref j7), .unset] [])) _
    refine XS.aloadN X101.here hx rfl (hb hby d7_4) rfl rfl ?_
    show Steps p.tables e below (T101.setTop (mkF m 5 #[.val (.ref a1), .val (.ref i1), .val (.ref k2), .val (.ref l3), .val (.ref t4), .val (.ref w_RequestState_SUCCEEDED), .val v6, .val (.ref j7), .unset] [(.ref i1)])) _
    refine st102 _ ?_
    show Steps p.tables e below (T102.setTop (mkF m 7 #[.val (.ref a1), .val (.ref i1), .val (.ref k2), .val (.ref l3), .val (.ref t4), .val (.ref w_RequestState_SUCCEEDED), .val v6, .val (.ref j7), .unset] [(.ref a102), (.ref i1)])) _
    refine st104 _ ?_
    show Steps p.tables e below (T104.setTop (mkF m 10 #[.val (.ref a1), .val (.ref i1), .val (.ref k2), .val (.ref l3), .val (.ref t4), .val (.ref w_RequestState_SUCCEEDED), .val v6, .val (.ref j7), .unset] [(.ref i1)])) _
    refine XS.pop X104.here hx rfl (hb hby d7_10) rfl rfl ?_
    show Steps p.tables e below (T104.setTop (mkF m 11 #[.val (.ref a1), .val (.ref i1), .val (.ref k2), .val (.ref l3), .val (.ref t4), .val (.ref w_RequestState_SUCCEEDED), .val v6, .val (.ref j7), .unset] [])) _
    refine XS.aloadN X104.here hx rfl (hb hby d7_11) rfl rfl ?_
    show Steps p.tables e below (T104.setTop (mkF m 12 #[.val (.ref a1), .val (.ref i1), .val (.ref k2), .val (.ref l3), .val (.ref t4), .val (.ref w_RequestState_SUCCEEDED), .val v6, .val (.ref j7), .unset] [(.ref k2)])) _
    refine st105 _ ?_
    show Steps p.tables e below (T105.setTop (mkF m 14 #[.val (.ref a1), .val (.ref i1), .val (.ref k2), .val (.ref l3), .val (.ref t4), .val (.ref w_RequestState_SUCCEEDED), .val v6, .val (.ref j7), .unset] [(.ref a105), (.ref k2)])) _
    refine st107 _ ?_
    show Steps p.tables e below (T107.setTop (mkF m 17 #[.val (.ref a1), .val (.ref i1), .val (.ref k2), .val (.ref l3), .val (.ref t4), .val (.ref w_RequestState_SUCCEEDED), .val v6, .val (.ref j7), .unset] [(.ref k2)])) _
    refine XS.pop X107.here hx rfl (hb hby d7_17) rfl rfl ?_
    show Steps p.tables e below (T107.setTop (mkF m 18 #[.val (.ref a1), .val (.ref i1), .val (.ref k2), .val (.ref l3), .val (.ref t4), .val (.ref w_RequestState_SUCCEEDED), .val v6, .val (.ref j7), .unset] [])) _
    refine XS.aload X107.here hx rfl (hb hby d7_18) rfl rfl ?_
    show Steps p.tables e below (T107.setTop (mkF m 20 #[.val (.ref a1), .val (.ref i1), .val (.ref k2), .val (.ref l3), .val (.ref t4), .val (.ref w_RequestState_SUCCEEDED), .val v6, .val (.ref j7), .unset] [(.ref w_RequestState_SUCCEEDED)])) _
    refine st108 _ ?_
    show Steps p.tables e below (T108.setTop (mkF m 22 #[.val (.ref a1), .val (.ref i1), .val (.ref k2), .val (.ref l3), .val (.ref t4), .val (.ref w_RequestState_SUCCEEDED), .val v6, .val (.ref j7), .unset] [(.ref a108), (.ref w_RequestState_SUCCEEDED)])) _
    refine st110 _ ?_
    show Steps p.tables e below (T110.setTop (mkF m 25 #[.val (.ref a1), .val (.ref i1), .val (.ref k2), .val (.ref l3), .val (.ref t4), .val (.ref w_RequestState_SUCCEEDED), .val v6, .val (.ref j7), .unset] [(.ref w_RequestState_SUCCEEDED)])) _
    refine XS.pop X110.here hx rfl (hb hby d7_25) rfl rfl ?_
    show Steps p.tables e below (T110.setTop (mkF m 26 #[.val (.ref a1), .val (.ref i1), .val (.ref k2), .val (.ref l3), .val (.ref t4), .val (.ref w_RequestState_SUCCEEDED), .val v6, .val (.ref j7), .unset] [])) _
    refine XS.aload X110.here hx rfl (hb hby d7_26) rfl rfl ?_
    show Steps p.tables e below (T110.setTop (mkF m 28 #[.val (.ref a1), .val (.ref i1), .val (.ref k2), .val (.ref l3), .val (.ref t4), .val (.ref w_RequestState_SUCCEEDED), .val v6, .val (.ref j7), .unset] [(.ref w_RequestState_SUCCEEDED)])) _
    refine st112 _ ?_
    show Steps p.tables e below (T112.setTop (mkF m 31 #[.val (.ref a1), .val (.ref i1), .val (.ref k2), .val (.ref l3), .val (.ref t4), .val (.ref w_RequestState_SUCCEEDED), .val v6, .val (.ref j7), .unset] [(.ref w_RequestState_SUCCEEDED), (.ref w_RequestState_SUCCEEDED)])) _
    refine Jvm.RoadKit.acmp (g := (mkF m 31 #[.val (.ref a1), .val (.ref i1), .val (.ref k2), .val (.ref l3), .val (.ref t4), .val (.ref w_RequestState_SUCCEEDED), .val v6, .val (.ref j7), .unset] [(.ref w_RequestState_SUCCEEDED), (.ref w_RequestState_SUCCEEDED)])) X112 hx rfl rfl rfl (pc0 := 31) (pc' := 34) (same := true) rfl (hb hby d7_31) rfl (decide_eq_true rfl) (by decide) (by decide) ?_
    show Steps p.tables e below (T112.setTop (mkF m 34 #[.val (.ref a1), .val (.ref i1), .val (.ref k2), .val (.ref l3), .val (.ref t4), .val (.ref w_RequestState_SUCCEEDED), .val v6, .val (.ref j7), .unset] [])) _
    refine XS.iconst X112.here hx rfl (hb hby d7_34) ?_
    show Steps p.tables e below (T112.setTop (mkF m 35 #[.val (.ref a1), .val (.ref i1), .val (.ref k2), .val (.ref l3), .val (.ref t4), .val (.ref w_RequestState_SUCCEEDED), .val v6, .val (.ref j7), .unset] [(.int (1 : Int32))])) _
    refine XS.goto X112.here hx rfl (pc0 := 35) (pc' := 39) rfl (hb hby d7_35) (by decide) (by decide) ?_
    show Steps p.tables e below (T112.setTop (mkF m 39 #[.val (.ref a1), .val (.ref i1), .val (.ref k2), .val (.ref l3), .val (.ref t4), .val (.ref w_RequestState_SUCCEEDED), .val v6, .val (.ref j7), .unset] [(.int (1 : Int32))])) _
    refine XS.aload X112.here hx rfl (hb hby d7_39) rfl rfl ?_
    show Steps p.tables e below (T112.setTop (mkF m 41 #[.val (.ref a1), .val (.ref i1), .val (.ref k2), .val (.ref l3), .val (.ref t4), .val (.ref w_RequestState_SUCCEEDED), .val v6, .val (.ref j7), .unset] [(.ref j7), (.int (1 : Int32))])) _
    refine XS.ifnullNo X112.here hx rfl (hb hby d7_41) rfl ?_
    show Steps p.tables e below (T112.setTop (mkF m 44 #[.val (.ref a1), .val (.ref i1), .val (.ref k2), .val (.ref l3), .val (.ref t4), .val (.ref w_RequestState_SUCCEEDED), .val v6, .val (.ref j7), .unset] [(.int (1 : Int32))])) _
    refine XS.iconst X112.here hx rfl (hb hby d7_44) ?_
    show Steps p.tables e below (T112.setTop (mkF m 45 #[.val (.ref a1), .val (.ref i1), .val (.ref k2), .val (.ref l3), .val (.ref t4), .val (.ref w_RequestState_SUCCEEDED), .val v6, .val (.ref j7), .unset] [(.int (1 : Int32)), (.int (1 : Int32))])) _
    refine XS.goto X112.here hx rfl (pc0 := 45) (pc' := 49) rfl (hb hby d7_45) (by decide) (by decide) ?_
    show Steps p.tables e below (T112.setTop (mkF m 49 #[.val (.ref a1), .val (.ref i1), .val (.ref k2), .val (.ref l3), .val (.ref t4), .val (.ref w_RequestState_SUCCEEDED), .val v6, .val (.ref j7), .unset] [(.int (1 : Int32)), (.int (1 : Int32))])) _
    refine XS.icmpYes X112.here hx rfl (pc0 := 49) (pc' := 83) rfl (hb hby d7_49) rfl (teq (by decide : (1 : Int32) = (1 : Int32))).1 (by decide) (by decide) ?_
    show Steps p.tables e below (T112.setTop (mkF m 83 #[.val (.ref a1), .val (.ref i1), .val (.ref k2), .val (.ref l3), .val (.ref t4), .val (.ref w_RequestState_SUCCEEDED), .val v6, .val (.ref j7), .unset] [])) _
    refine XS.aloadN X112.here hx rfl (hb hby d7_83) rfl rfl ?_
    show Steps p.tables e below (T112.setTop (mkF m 84 #[.val (.ref a1), .val (.ref i1), .val (.ref k2), .val (.ref l3), .val (.ref t4), .val (.ref w_RequestState_SUCCEEDED), .val v6, .val (.ref j7), .unset] [(.ref a1)])) _
    refine XS.aloadN X112.here hx rfl (hb hby d7_84) rfl rfl ?_
    show Steps p.tables e below (T112.setTop (mkF m 85 #[.val (.ref a1), .val (.ref i1), .val (.ref k2), .val (.ref l3), .val (.ref t4), .val (.ref w_RequestState_SUCCEEDED), .val v6, .val (.ref j7), .unset] [(.ref i1), (.ref a1)])) _
    refine st115 _ ?_
    show Steps p.tables e below (T115.setTop (mkF m 88 #[.val (.ref a1), .val (.ref i1), .val (.ref k2), .val (.ref l3), .val (.ref t4), .val (.ref w_RequestState_SUCCEEDED), .val v6, .val (.ref j7), .unset] [])) _
    refine XS.aloadN X115.here hx rfl (hb hby d7_88) rfl rfl ?_
    show Steps p.tables e below (T115.setTop (mkF m 89 #[.val (.ref a1), .val (.ref i1), .val (.ref k2), .val (.ref l3), .val (.ref t4), .val (.ref w_RequestState_SUCCEEDED), .val v6, .val (.ref j7), .unset] [(.ref a1)])) _
    refine XS.aloadN X115.here hx rfl (hb hby d7_89) rfl rfl ?_
    show Steps p.tables e below (T115.setTop (mkF m 90 #[.val (.ref a1), .val (.ref i1), .val (.ref k2), .val (.ref l3), .val (.ref t4), .val (.ref w_RequestState_SUCCEEDED), .val v6, .val (.ref j7), .unset] [(.ref k2), (.ref a1)])) _
    refine st118 _ ?_
    show Steps p.tables e below (T118.setTop (mkF m 93 #[.val (.ref a1), .val (.ref i1), .val (.ref k2), .val (.ref l3), .val (.ref t4), .val (.ref w_RequestState_SUCCEEDED), .val v6, .val (.ref j7), .unset] [])) _
    refine XS.aloadN X118.here hx rfl (hb hby d7_93) rfl rfl ?_
    show Steps p.tables e below (T118.setTop (mkF m 94 #[.val (.ref a1), .val (.ref i1), .val (.ref k2), .val (.ref l3), .val (.ref t4), .val (.ref w_RequestState_SUCCEEDED), .val v6, .val (.ref j7), .unset] [(.ref a1)])) _
    refine XS.aloadN X118.here hx rfl (hb hby d7_94) rfl rfl ?_
    show Steps p.tables e below (T118.setTop (mkF m 95 #[.val (.ref a1), .val (.ref i1), .val (.ref k2), .val (.ref l3), .val (.ref t4), .val (.ref w_RequestState_SUCCEEDED), .val v6, .val (.ref j7), .unset] [(.ref l3), (.ref a1)])) _
    refine st121 _ ?_
    show Steps p.tables e below (T121.setTop (mkF m 98 #[.val (.ref a1), .val (.ref i1), .val (.ref k2), .val (.ref l3), .val (.ref t4), .val (.ref w_RequestState_SUCCEEDED), .val v6, .val (.ref j7), .unset] [])) _
    refine XS.aloadN X121.here hx rfl (hb hby d7_98) rfl rfl ?_
    show Steps p.tables e below (T121.setTop (mkF m 99 #[.val (.ref a1), .val (.ref i1), .val (.ref k2), .val (.ref l3), .val (.ref t4), .val (.ref w_RequestState_SUCCEEDED), .val v6, .val (.ref j7), .unset] [(.ref a1)])) _
    refine XS.aload X121.here hx rfl (hb hby d7_99) rfl rfl ?_
    show Steps p.tables e below (T121.setTop (mkF m 101 #[.val (.ref a1), .val (.ref i1), .val (.ref k2), .val (.ref l3), .val (.ref t4), .val (.ref w_RequestState_SUCCEEDED), .val v6, .val (.ref j7), .unset] [(.ref t4), (.ref a1)])) _
    refine st124 _ ?_
    show Steps p.tables e below (T124.setTop (mkF m 104 #[.val (.ref a1), .val (.ref i1), .val (.ref k2), .val (.ref l3), .val (.ref t4), .val (.ref w_RequestState_SUCCEEDED), .val v6, .val (.ref j7), .unset] [])) _
    refine XS.aloadN X124.here hx rfl (hb hby d7_104) rfl rfl ?_
    show Steps p.tables e below (T124.setTop (mkF m 105 #[.val (.ref a1), .val (.ref i1), .val (.ref k2), .val (.ref l3), .val (.ref t4), .val (.ref w_RequestState_SUCCEEDED), .val v6, .val (.ref j7), .unset] [(.ref a1)])) _
    refine XS.aload X124.here hx rfl (hb hby d7_105) rfl rfl ?_
    show Steps p.tables e below (T124.setTop (mkF m 107 #[.val (.ref a1), .val (.ref i1), .val (.ref k2), .val (.ref l3), .val (.ref t4), .val (.ref w_RequestState_SUCCEEDED), .val v6, .val (.ref j7), .unset] [(.ref w_RequestState_SUCCEEDED), (.ref a1)])) _
    refine st127 _ ?_
    show Steps p.tables e below (T127.setTop (mkF m 110 #[.val (.ref a1), .val (.ref i1), .val (.ref k2), .val (.ref l3), .val (.ref t4), .val (.ref w_RequestState_SUCCEEDED), .val v6, .val (.ref j7), .unset] [])) _
    refine XS.aloadN X127.here hx rfl (hb hby d7_110) rfl rfl ?_
    show Steps p.tables e below (T127.setTop (mkF m 111 #[.val (.ref a1), .val (.ref i1), .val (.ref k2), .val (.ref l3), .val (.ref t4), .val (.ref w_RequestState_SUCCEEDED), .val v6, .val (.ref j7), .unset] [(.ref a1)])) _
    refine XS.aload X127.here hx rfl (hb hby d7_111) rfl hv6 ?_
    show Steps p.tables e below (T127.setTop (mkF m 113 #[.val (.ref a1), .val (.ref i1), .val (.ref k2), .val (.ref l3), .val (.ref t4), .val (.ref w_RequestState_SUCCEEDED), .val v6, .val (.ref j7), .unset] [v6, (.ref a1)])) _
    refine st130 _ ?_
    show Steps p.tables e below (T130.setTop (mkF m 116 #[.val (.ref a1), .val (.ref i1), .val (.ref k2), .val (.ref l3), .val (.ref t4), .val (.ref w_RequestState_SUCCEEDED), .val v6, .val (.ref j7), .unset] [])) _
    refine XS.aloadN X130.here hx rfl (hb hby d7_116) rfl rfl ?_
    show Steps p.tables e below (T130.setTop (mkF m 117 #[.val (.ref a1), .val (.ref i1), .val (.ref k2), .val (.ref l3), .val (.ref t4), .val (.ref w_RequestState_SUCCEEDED), .val v6, .val (.ref j7), .unset] [(.ref a1)])) _
    refine XS.aload X130.here hx rfl (hb hby d7_117) rfl rfl ?_
    show Steps p.tables e below (T130.setTop (mkF m 119 #[.val (.ref a1), .val (.ref i1), .val (.ref k2), .val (.ref l3), .val (.ref t4), .val (.ref w_RequestState_SUCCEEDED), .val v6, .val (.ref j7), .unset] [(.ref j7), (.ref a1)])) _
    refine st133 _ ?_
    show Steps p.tables e below (T133.setTop (mkF m 122 #[.val (.ref a1), .val (.ref i1), .val (.ref k2), .val (.ref l3), .val (.ref t4), .val (.ref w_RequestState_SUCCEEDED), .val v6, .val (.ref j7), .unset] [])) _
    exact X133.returnOut hx Bd.returns (hb hby d7_122) hr
  · show Q_rm7j Z a1 i1 k2 l3 t4 v6 j7 w_RequestState_SUCCEEDED h0 n0 _ T133.heap _
    rw [e133]
    unfold Q_rm7j
    exact ⟨rfl, N133, K143, c144, c145, F133⟩
theorem ef_rm7n (m : MethodId) (x0 : Addr) (x1 : Addr) (x2 : Addr) (x3 : Addr) (x4 : Addr) (x5 : Addr) (x6 : Value) (hr6 : x6.isRef = true) : entryFrame m #[(.ref x0), (.ref x1), (.ref x2), (.ref x3), (.ref x4), (.ref x5), x6, .null] 9 = mkF m 0 #[.val (.ref x0), .val (.ref x1), .val (.ref x2), .val (.ref x3), .val (.ref x4), .val (.ref x5), .val x6, .val .null, .unset] [] := by rcases ref_cases hr6 with rfl | ⟨y6, rfl⟩ <;> first | (simp [entryFrame, mkF, argsToLocals, Value.category]; done) | rfl
def Q_rm7n (Z : State) (a1 : Addr) (i1 : Addr) (k2 : Addr) (l3 : Addr) (t4 : Addr) (s5 : Addr) (v6 : Value) (w_RequestState_SUCCEEDED : Addr) (h0 : Heap) (n0 : Nat) (v : Option Value) (h : Heap) (L : List Loc) : Prop := (v = none) ∧ (Fr n0 L) ∧ (Keep h0 h [a1]) ∧ (Exa Z h a1 "com/example/done_once/doneonce/store/Request") ∧ (Fld Z h a1 "com/example/done_once/doneonce/store/Request" "state" "Lcom/example/done_once/doneonce/core/RequestState;" (.ref s5)) ∧ (Fld Z h a1 "com/example/done_once/doneonce/store/Request" "job" "Lcom/example/done_once/doneonce/store/Job;" .null)
theorem d7_38 : decode prog_55_method_1_code 38 = .ok (.iconst 0, 1) := by decide +kernel
theorem d7_48 : decode prog_55_method_1_code 48 = .ok (.iconst 0, 1) := by decide +kernel
set_option maxRecDepth 65536 in
set_option maxHeartbeats 40000000 in
theorem rm7n (l : Launch) (Z : State) (a0 : Array Value) (hw : ∀ d ∈ tables_1, d.before a0 Z = true) (ws : List Jvm.Cond) (a1 : Addr) (i1 : Addr) (k2 : Addr) (l3 : Addr) (t4 : Addr) (s5 : Addr) (v6 : Value) (w_RequestState_SUCCEEDED : Addr) (h0 : Heap) (n0 : Nat) (O0 : Old Z n0 h0) (E1 : Exa Z h0 a1 "com/example/done_once/doneonce/store/Request") (g1 : n0 ≤ a1) (D0 : Fld Z h0 a1 "com/example/done_once/doneonce/store/Request" "requestId" "Ljava/lang/String;" .null) (D1 : Fld Z h0 a1 "com/example/done_once/doneonce/store/Request" "kind" "Lcom/example/done_once/doneonce/core/RequestKind;" .null) (D2 : Fld Z h0 a1 "com/example/done_once/doneonce/store/Request" "lane" "Ljava/lang/String;" .null) (D3 : Fld Z h0 a1 "com/example/done_once/doneonce/store/Request" "tool" "Ljava/lang/String;" .null) (D4 : Fld Z h0 a1 "com/example/done_once/doneonce/store/Request" "state" "Lcom/example/done_once/doneonce/core/RequestState;" .null) (D5 : Fld Z h0 a1 "com/example/done_once/doneonce/store/Request" "error" "Ljava/lang/String;" .null) (D6 : Fld Z h0 a1 "com/example/done_once/doneonce/store/Request" "job" "Lcom/example/done_once/doneonce/store/Job;" .null) (hv6 : v6.isRef = true) (S_RequestState_SUCCEEDED : Sta Z Z.heap "com/example/done_once/doneonce/core/RequestState" "SUCCEEDED" "Lcom/example/done_once/doneonce/core/RequestState;" (.ref w_RequestState_SUCCEEDED)) (hne : ¬ (s5 = w_RequestState_SUCCEEDED)) :
    MetFree l (⟨"com/example/done_once/doneonce/store/Request", "<init>", "(Ljava/lang/String;Lcom/example/done_once/doneonce/core/RequestKind;Ljava/lang/String;Ljava/lang/String;Lcom/example/done_once/doneonce/core/RequestState;Ljava/lang/String;Lcom/example/done_once/doneonce/store/Job;)V"⟩ : MethodName) (head1 (Jvm.Cond.code (⟨"com/example/done_once/doneonce/store/Request", "<init>", "(Ljava/lang/String;Lcom/example/done_once/doneonce/core/RequestKind;Ljava/lang/String;Ljava/lang/String;Lcom/example/done_once/doneonce/core/RequestState;Ljava/lang/String;Lcom/example/done_once/doneonce/store/Job;)V"⟩ : MethodName) prog_55_method_1_code 9 none :: ws) ({ frames := 2, cells := 6, slots := 292, locals := 24 } : Room)) (fun a U => a = #[(.ref a1), (.ref i1), (.ref k2), (.ref l3), (.ref t4), (.ref s5), v6, .null] ∧ Z.Warmed39 U.vm ∧ U.heap = h0) (fun _ _ _ _ _ => True) (fun _ U o U' => ∃ v L, o = .returned v ∧ Q_rm7n Z a1 i1 k2 l3 t4 s5 v6 w_RequestState_SUCCEEDED h0 n0 v U'.heap L ∧ ReturnedEndW U o U' L ({ frames := 2, cells := 6, slots := 292, locals := 24 } : Room).cells ({ frames := 2, cells := 6, slots := 292, locals := 24 } : Room).slots) := by
  refine MetFree.of_bodySF (plainFor_of_name pn_5) hisR ?_
  intro p e s m args below meth c s₁ Bd hml0 hP hK
  obtain ⟨rfl, hZ, hh⟩ := hP
  have hx := Bd.exec
  have hby := Bd.bytes
  have hml : c.maxLocals = 9 := hml0
  have hown : s.vm.findClass "com/example/done_once/doneonce/store/Request" = some m.cls := findClass_of_methodNamed Bd.named
  have hnm := (name_of_methodNamed Bd.named Bd.method).1
  have hS0 : s.Since s.vm h0.size := (State.WarmedH.refl s).since _
  have hstr : ∀ a ∈ Bundle.stringAtoms, a.before a0 Z = true := own_str hw
  have X0 : Stand p l e ({ frames := 2, cells := 6, slots := 292, locals := 24 } : Room) (s.setVm s.vm) m #[(.ref a1), (.ref i1), (.ref k2), (.ref l3), (.ref t4), (.ref s5), v6, .null] below meth c s₁ [] 0 0 := Stand.of_body Bd
  have e0 : s₁.heap = h0 := by rw [← hh, Bd.state]; rfl
  have N0 := Fr.nil n0
  have Z0 : n0 ≤ h0.size := old_le O0
  have pre0 : ∀ t, Steps p.tables e below (s₁.setTop (mkF m 0 #[.val (.ref a1), .val (.ref i1), .val (.ref k2), .val (.ref l3), .val (.ref t4), .val (.ref s5), .val v6, .val .null, .unset] [])) t → Steps p.tables e below (s₁.setTop (entryFrame m #[(.ref a1), (.ref i1), (.ref k2), (.ref l3), (.ref t4), (.ref s5), v6, .null] 9)) t := fun t k => castTop (ef_rm7n m a1 i1 k2 l3 t4 s5 v6 hv6) k
  obtain ⟨_, _, ⟨T101, L101, k101, n101⟩, -, X101, ⟨Lc101, hQ101, l101, y101, z101⟩, st101⟩ := X0.specialBack hx (y := (⟨"java/lang/Record", "<init>", "()V"⟩ : MethodName)) rfl hown (mvT hZ (hwk hw 50 rfl)) (mvT hZ (hwk hw 51 rfl)) (mvT hZ (hwk hw 54 rfl)) (by decide) (backOf (W := 0) (rm8 l Z a0 hw [] a1 h0 n0 O0 ) hZ (hwk hw 54 rfl) (hwk hw 53 rfl) (by decide) (by decide)) (g := (mkF m 1 #[.val (.ref a1), .val (.ref i1), .val (.ref k2), .val (.ref l3), .val (.ref t4), .val (.ref s5), .val v6, .val .null, .unset] [(.ref a1)])) rfl (by rw [hml]; rfl) (Steps.refl _) (a := a1) (argsL := []) (rest := []) (lenOf pd_3 rfl) rfl (by show 2 * 0 + _ ≤ _; exact Nat.le_of_eq rfl) (hb hby d7_1) (fun _ _ => ⟨rfl, e0, (by decide : 0 + 0 ≤ _), (by decide : 0 + 0 ≤ _)⟩)
  dsimp only [Pt.U, Pt.locs, Pt.cells, Pt.slots] at X101 l101 y101 z101 st101 hQ101
  subst l101 y101 z101
  unfold Q_rm8 at hQ101
  obtain ⟨rfl, N101q, e101⟩ := hQ101
  have N101 := Fr.app N0 N101q
  obtain ⟨a102, T102, h102, k102, X102, e102, E102, hS102, hk102, hZ102, hown102, st102⟩ := ldcS X101 hx hZ hown (hwk hw 56 rfl) hstr e101 hS0 (Nat.le_refl _) (g := (mkF m 5 #[.val (.ref a1), .val (.ref i1), .val (.ref k2), .val (.ref l3), .val (.ref t4), .val (.ref s5), .val v6, .val .null, .unset] [(.ref i1)])) rfl (hb hby d7_5) (n := 108) (by decide) (by decide) (by decide) (by decide)
  have O103 : Old Z n0 h102 := Old.ext O0 E102
  obtain ⟨_, _, ⟨T104, L104, k104, n104⟩, -, X104, ⟨Lc104, hQ104, l104, y104, z104⟩, st104⟩ := Jvm.LawKit.callS X102 hx (y := (⟨"java/util/Objects", "requireNonNull", "(Ljava/lang/Object;Ljava/lang/String;)Ljava/lang/Object;"⟩ : MethodName)) hown102 (mvT hZ102 (hwk hw 57 rfl)) (mvT hZ102 (hwk hw 58 rfl)) (mvT hZ102 (hwk hw 59 rfl)) (mvT hZ102 (hwk hw 60 rfl)) (by decide) (backOf (W := 0) (rm9 l Z a0 hw [] i1 a102 h102 n0 O103 ) hZ102 (hwk hw 60 rfl) (hwk hw 59 rfl) (by decide) (by decide)) (g := (mkF m 7 #[.val (.ref a1), .val (.ref i1), .val (.ref k2), .val (.ref l3), .val (.ref t4), .val (.ref s5), .val v6, .val .null, .unset] [(.ref a102), (.ref i1)])) rfl (by rw [hml]; rfl) (argsL := [(.ref i1), (.ref a102)]) (rest := []) (lenOf pd_4 rfl) rfl (by show 2 * 0 + _ ≤ _; exact Nat.le_of_eq rfl) (hb hby d7_7) (fun _ _ => ⟨rfl, e102, (by decide : 2 + 0 ≤ _), (by decide : 112 + 0 ≤ _)⟩)
  dsimp only [Pt.U, Pt.locs, Pt.cells, Pt.slots] at X104 l104 y104 z104 st104 hQ104
  subst l104 y104 z104
  unfold Q_rm9 at hQ104
  obtain ⟨rfl, N104q, e104⟩ := hQ104
  have N104 := Fr.app N101 N104q
  obtain ⟨a105, T105, h105, k105, X105, e105, E105, hS105, hk105, hZ105, hown105, st105⟩ := ldcS X104 hx hZ102 hown102 (hwk hw 61 rfl) hstr e104 hS102 hk102 (g := (mkF m 12 #[.val (.ref a1), .val (.ref i1), .val (.ref k2), .val (.ref l3), .val (.ref t4), .val (.ref s5), .val v6, .val .null, .unset] [(.ref k2)])) rfl (hb hby d7_12) (n := 84) (by decide) (by decide) (by decide) (by decide)
  have O106 : Old Z n0 h105 := Old.ext O103 E105
  obtain ⟨_, _, ⟨T107, L107, k107, n107⟩, -, X107, ⟨Lc107, hQ107, l107, y107, z107⟩, st107⟩ := Jvm.LawKit.callS X105 hx (y := (⟨"java/util/Objects", "requireNonNull", "(Ljava/lang/Object;Ljava/lang/String;)Ljava/lang/Object;"⟩ : MethodName)) hown105 (mvT hZ105 (hwk hw 57 rfl)) (mvT hZ105 (hwk hw 58 rfl)) (mvT hZ105 (hwk hw 59 rfl)) (mvT hZ105 (hwk hw 60 rfl)) (by decide) (backOf (W := 0) (rm9 l Z a0 hw [] k2 a105 h105 n0 O106 ) hZ105 (hwk hw 60 rfl) (hwk hw 59 rfl) (by decide) (by decide)) (g := (mkF m 14 #[.val (.ref a1), .val (.ref i1), .val (.ref k2), .val (.ref l3), .val (.ref t4), .val (.ref s5), .val v6, .val .null, .unset] [(.ref a105), (.ref k2)])) rfl (by rw [hml]; rfl) (argsL := [(.ref k2), (.ref a105)]) (rest := []) (lenOf pd_4 rfl) rfl (by show 2 * 0 + _ ≤ _; exact Nat.le_of_eq rfl) (hb hby d7_14) (fun _ _ => ⟨rfl, e105, (by decide : 4 + 0 ≤ _), (by decide : 200 + 0 ≤ _)⟩)
  dsimp only [Pt.U, Pt.locs, Pt.cells, Pt.slots] at X107 l107 y107 z107 st107 hQ107
  subst l107 y107 z107
  unfold Q_rm9 at hQ107
  obtain ⟨rfl, N107q, e107⟩ := hQ107
  have N107 := Fr.app N104 N107q
  obtain ⟨a108, T108, h108, k108, X108, e108, E108, hS108, hk108, hZ108, hown108, st108⟩ := ldcS X107 hx hZ105 hown105 (hwk hw 62 rfl) hstr e107 hS105 hk105 (g := (mkF m 20 #[.val (.ref a1), .val (.ref i1), .val (.ref k2), .val (.ref l3), .val (.ref t4), .val (.ref s5), .val v6, .val .null, .unset] [(.ref s5)])) rfl (hb hby d7_20) (n := 88) (by decide) (by decide) (by decide) (by decide)
  have O109 : Old Z n0 h108 := Old.ext O106 E108
  obtain ⟨_, _, ⟨T110, L110, k110, n110⟩, -, X110, ⟨Lc110, hQ110, l110, y110, z110⟩, st110⟩ := Jvm.LawKit.callS X108 hx (y := (⟨"java/util/Objects", "requireNonNull", "(Ljava/lang/Object;Ljava/lang/String;)Ljava/lang/Object;"⟩ : MethodName)) hown108 (mvT hZ108 (hwk hw 57 rfl)) (mvT hZ108 (hwk hw 58 rfl)) (mvT hZ108 (hwk hw 59 rfl)) (mvT hZ108 (hwk hw 60 rfl)) (by decide) (backOf (W := 0) (rm9 l Z a0 hw [] s5 a108 h108 n0 O109 ) hZ108 (hwk hw 60 rfl) (hwk hw 59 rfl) (by decide) (by decide)) (g := (mkF m 22 #[.val (.ref a1), .val (.ref i1), .val (.ref k2), .val (.ref l3), .val (.ref t4), .val (.ref s5), .val v6, .val .null, .unset] [(.ref a108), (.ref s5)])) rfl (by rw [hml]; rfl) (argsL := [(.ref s5), (.ref a108)]) (rest := []) (lenOf pd_4 rfl) rfl (by show 2 * 0 + _ ≤ _; exact Nat.le_of_eq rfl) (hb hby d7_22) (fun _ _ => ⟨rfl, e108, (by decide : 6 + 0 ≤ _), (by decide : 292 + 0 ≤ _)⟩)
  dsimp only [Pt.U, Pt.locs, Pt.cells, Pt.slots] at X110 l110 y110 z110 st110 hQ110
  subst l110 y110 z110
  unfold Q_rm9 at hQ110
  obtain ⟨rfl, N110q, e110⟩ := hQ110
  have N110 := Fr.app N107 N110q
  have c111 : Sta Z h108 "com/example/done_once/doneonce/core/RequestState" "SUCCEEDED" "Lcom/example/done_once/doneonce/core/RequestState;" (.ref w_RequestState_SUCCEEDED) := Sta.ext (O109).2 S_RequestState_SUCCEEDED
  obtain ⟨T112, X112, e112, st112⟩ := getS2 X110 hx hZ108 hown108 (host := "") (Or.inl (hwk hw 63 rfl)) Via.refl e110 c111 (g := (mkF m 28 #[.val (.ref a1), .val (.ref i1), .val (.ref k2), .val (.ref l3), .val (.ref t4), .val (.ref s5), .val v6, .val .null, .unset] [(.ref s5)])) rfl (hb hby d7_28)
  have c113 : Exa Z h108 a1 "com/example/done_once/doneonce/store/Request" := (Exa.ext E108 (Exa.ext E105 (Exa.ext E102 E1)))
  have c114 : Fld Z h108 a1 "com/example/done_once/doneonce/store/Request" "requestId" "Ljava/lang/String;" .null := (Fld.ext E108 (Fld.ext E105 (Fld.ext E102 D0)))
  obtain ⟨T115, h115, X115, e115, W115, st115⟩ := putF X112 hx hZ108 hown108 (host := "") (Or.inl (hwk hw 65 rfl)) Via.refl e112 c114 c113 (Or.inr ⟨(hwk hw 66 rfl), rfl, hnm⟩) (hwk hw 41 rfl) (ty := (.object "java/lang/String")) (by decide) rfl rfl (g := (mkF m 85 #[.val (.ref a1), .val (.ref i1), .val (.ref k2), .val (.ref l3), .val (.ref t4), .val (.ref s5), .val v6, .val .null, .unset] [(.ref i1), (.ref a1)])) rfl rfl (hb hby d7_85)
  have F115 : Fld Z h115 a1 "com/example/done_once/doneonce/store/Request" "requestId" "Ljava/lang/String;" (.ref i1) := Fld.same W115 c114
  have N115 := Fr.snoc X115 N110 g1
  have c116 : Exa Z h115 a1 "com/example/done_once/doneonce/store/Request" := (Exa.wr W115 c113)
  have c117 : Fld Z h115 a1 "com/example/done_once/doneonce/store/Request" "kind" "Lcom/example/done_once/doneonce/core/RequestKind;" .null := (Fld.other W115 (Fld.ext E108 (Fld.ext E105 (Fld.ext E102 D1))) (Or.inr (slot_ne (Or.inr (hwk hw 68 rfl)) (Or.inr (hwk hw 66 rfl)) (by decide) (t := (.object "com/example/done_once/doneonce/core/RequestKind")) (t' := (.object "java/lang/String")) (by decide) (by decide))))
  obtain ⟨T118, h118, X118, e118, W118, st118⟩ := putF X115 hx hZ108 hown108 (host := "") (Or.inl (hwk hw 67 rfl)) Via.refl e115 c117 c116 (Or.inr ⟨(hwk hw 68 rfl), rfl, hnm⟩) (hwk hw 41 rfl) (ty := (.object "com/example/done_once/doneonce/core/RequestKind")) (by decide) rfl rfl (g := (mkF m 90 #[.val (.ref a1), .val (.ref i1), .val (.ref k2), .val (.ref l3), .val (.ref t4), .val (.ref s5), .val v6, .val .null, .unset] [(.ref k2), (.ref a1)])) rfl rfl (hb hby d7_90)
  have F118 : Fld Z h118 a1 "com/example/done_once/doneonce/store/Request" "kind" "Lcom/example/done_once/doneonce/core/RequestKind;" (.ref k2) := Fld.same W118 c117
  have N118 := Fr.snoc X118 N115 g1
  have c119 : Exa Z h118 a1 "com/example/done_once/doneonce/store/Request" := (Exa.wr W118 c116)
  have c120 : Fld Z h118 a1 "com/example/done_once/doneonce/store/Request" "lane" "Ljava/lang/String;" .null := (Fld.other W118 (Fld.other W115 (Fld.ext E108 (Fld.ext E105 (Fld.ext E102 D2))) (Or.inr (slot_ne (Or.inr (hwk hw 70 rfl)) (Or.inr (hwk hw 66 rfl)) (by decide) (t := (.object "java/lang/String")) (t' := (.object "java/lang/String")) (by decide) (by decide)))) (Or.inr (slot_ne (Or.inr (hwk hw 70 rfl)) (Or.inr (hwk hw 68 rfl)) (by decide) (t := (.object "java/lang/String")) (t' := (.object "com/example/done_once/doneonce/core/RequestKind")) (by decide) (by decide))))
  obtain ⟨T121, h121, X121, e121, W121, st121⟩ := putF X118 hx hZ108 hown108 (host := "") (Or.inl (hwk hw 69 rfl)) Via.refl e118 c120 c119 (Or.inr ⟨(hwk hw 70 rfl), rfl, hnm⟩) (hwk hw 41 rfl) (ty := (.object "java/lang/String")) (by decide) rfl rfl (g := (mkF m 95 #[.val (.ref a1), .val (.ref i1), .val (.ref k2), .val (.ref l3), .val (.ref t4), .val (.ref s5), .val v6, .val .null, .unset] [(.ref l3), (.ref a1)])) rfl rfl (hb hby d7_95)
  have F121 : Fld Z h121 a1 "com/example/done_once/doneonce/store/Request" "lane" "Ljava/lang/String;" (.ref l3) := Fld.same W121 c120
  have N121 := Fr.snoc X121 N118 g1
  have c122 : Exa Z h121 a1 "com/example/done_once/doneonce/store/Request" := (Exa.wr W121 c119)
  have c123 : Fld Z h121 a1 "com/example/done_once/doneonce/store/Request" "tool" "Ljava/lang/String;" .null := (Fld.other W121 (Fld.other W118 (Fld.other W115 (Fld.ext E108 (Fld.ext E105 (Fld.ext E102 D3))) (Or.inr (slot_ne (Or.inr (hwk hw 72 rfl)) (Or.inr (hwk hw 66 rfl)) (by decide) (t := (.object "java/lang/String")) (t' := (.object "java/lang/String")) (by decide) (by decide)))) (Or.inr (slot_ne (Or.inr (hwk hw 72 rfl)) (Or.inr (hwk hw 68 rfl)) (by decide) (t := (.object "java/lang/String")) (t' := (.object "com/example/done_once/doneonce/core/RequestKind")) (by decide) (by decide)))) (Or.inr (slot_ne (Or.inr (hwk hw 72 rfl)) (Or.inr (hwk hw 70 rfl)) (by decide) (t := (.object "java/lang/String")) (t' := (.object "java/lang/String")) (by decide) (by decide))))
  obtain ⟨T124, h124, X124, e124, W124, st124⟩ := putF X121 hx hZ108 hown108 (host := "") (Or.inl (hwk hw 71 rfl)) Via.refl e121 c123 c122 (Or.inr ⟨(hwk hw 72 rfl), rfl, hnm⟩) (hwk hw 41 rfl) (ty := (.object "java/lang/String")) (by decide) rfl rfl (g := (mkF m 101 #[.val (.ref a1), .val (.ref i1), .val (.ref k2), .val (.ref l3), .val (.ref t4), .val (.ref s5), .val v6, .val .null, .unset] [(.ref t4), (.ref a1)])) rfl rfl (hb hby d7_101)
  have F124 : Fld Z h124 a1 "com/example/done_once/doneonce/store/Request" "tool" "Ljava/lang/String;" (.ref t4) := Fld.same W124 c123
  have N124 := Fr.snoc X124 N121 g1
  have c125 : Exa Z h124 a1 "com/example/done_once/doneonce/store/Request" := (Exa.wr W124 c122)
  have c126 : Fld Z h124 a1 "com/example/done_once/doneonce/store/Request" "state" "Lcom/example/done_once/doneonce/core/RequestState;" .null := (Fld.other W124 (Fld.other W121 (Fld.other W118 (Fld.other W115 (Fld.ext E108 (Fld.ext E105 (Fld.ext E102 D4))) (Or.inr (slot_ne (Or.inr (hwk hw 74 rfl)) (Or.inr (hwk hw 66 rfl)) (by decide) (t := (.object "com/example/done_once/doneonce/core/RequestState")) (t' := (.object "java/lang/String")) (by decide) (by decide)))) (Or.inr (slot_ne (Or.inr (hwk hw 74 rfl)) (Or.inr (hwk hw 68 rfl)) (by decide) (t := (.object "com/example/done_once/doneonce/core/RequestState")) (t' := (.object "com/example/done_once/doneonce/core/RequestKind")) (by decide) (by decide)))) (Or.inr (slot_ne (Or.inr (hwk hw 74 rfl)) (Or.inr (hwk hw 70 rfl)) (by decide) (t := (.object "com/example/done_once/doneonce/core/RequestState")) (t' := (.object "java/lang/String")) (by decide) (by decide)))) (Or.inr (slot_ne (Or.inr (hwk hw 74 rfl)) (Or.inr (hwk hw 72 rfl)) (by decide) (t := (.object "com/example/done_once/doneonce/core/RequestState")) (t' := (.object "java/lang/String")) (by decide) (by decide))))
  obtain ⟨T127, h127, X127, e127, W127, st127⟩ := putF X124 hx hZ108 hown108 (host := "") (Or.inl (hwk hw 73 rfl)) Via.refl e124 c126 c125 (Or.inr ⟨(hwk hw 74 rfl), rfl, hnm⟩) (hwk hw 41 rfl) (ty := (.object "com/example/done_once/doneonce/core/RequestState")) (by decide) rfl rfl (g := (mkF m 107 #[.val (.ref a1), .val (.ref i1), .val (.ref k2), .val (.ref l3), .val (.ref t4), .val (.ref s5), .val v6, .val .null, .unset] [(.ref s5), (.ref a1)])) rfl rfl (hb hby d7_107)
  have F127 : Fld Z h127 a1 "com/example/done_once/doneonce/store/Request" "state" "Lcom/example/done_once/doneonce/core/RequestState;" (.ref s5) := Fld.same W127 c126
  have N127 := Fr.snoc X127 N124 g1
  have c128 : Exa Z h127 a1 "com/example/done_once/doneonce/store/Request" := (Exa.wr W127 c125)
  have c129 : Fld Z h127 a1 "com/example/done_once/doneonce/store/Request" "error" "Ljava/lang/String;" .null := (Fld.other W127 (Fld.other W124 (Fld.other W121 (Fld.other W118 (Fld.other W115 (Fld.ext E108 (Fld.ext E105 (Fld.ext E102 D5))) (Or.inr (slot_ne (Or.inr (hwk hw 76 rfl)) (Or.inr (hwk hw 66 rfl)) (by decide) (t := (.object "java/lang/String")) (t' := (.object "java/lang/String")) (by decide) (by decide)))) (Or.inr (slot_ne (Or.inr (hwk hw 76 rfl)) (Or.inr (hwk hw 68 rfl)) (by decide) (t := (.object "java/lang/String")) (t' := (.object "com/example/done_once/doneonce/core/RequestKind")) (by decide) (by decide)))) (Or.inr (slot_ne (Or.inr (hwk hw 76 rfl)) (Or.inr (hwk hw 70 rfl)) (by decide) (t := (.object "java/lang/String")) (t' := (.object "java/lang/String")) (by decide) (by decide)))) (Or.inr (slot_ne (Or.inr (hwk hw 76 rfl)) (Or.inr (hwk hw 72 rfl)) (by decide) (t := (.object "java/lang/String")) (t' := (.object "java/lang/String")) (by decide) (by decide)))) (Or.inr (slot_ne (Or.inr (hwk hw 76 rfl)) (Or.inr (hwk hw 74 rfl)) (by decide) (t := (.object "java/lang/String")) (t' := (.object "com/example/done_once/doneonce/core/RequestState")) (by decide) (by decide))))
  obtain ⟨T130, h130, X130, e130, W130, st130⟩ := putF X127 hx hZ108 hown108 (host := "") (Or.inl (hwk hw 75 rfl)) Via.refl e127 c129 c128 (Or.inr ⟨(hwk hw 76 rfl), rfl, hnm⟩) (hwk hw 41 rfl) (ty := (.object "java/lang/String")) (by decide) (narrow_refV rfl hv6) (fits_refV rfl hv6) (g := (mkF m 113 #[.val (.ref a1), .val (.ref i1), .val (.ref k2), .val (.ref l3), .val (.ref t4), .val (.ref s5), .val v6, .val .null, .unset] [v6, (.ref a1)])) rfl rfl (hb hby d7_113)
  have F130 : Fld Z h130 a1 "com/example/done_once/doneonce/store/Request" "error" "Ljava/lang/String;" v6 := Fld.same W130 c129
  have N130 := Fr.snoc X130 N127 g1
  have c131 : Exa Z h130 a1 "com/example/done_once/doneonce/store/Request" := (Exa.wr W130 c128)
  have c132 : Fld Z h130 a1 "com/example/done_once/doneonce/store/Request" "job" "Lcom/example/done_once/doneonce/store/Job;" .null := (Fld.other W130 (Fld.other W127 (Fld.other W124 (Fld.other W121 (Fld.other W118 (Fld.other W115 (Fld.ext E108 (Fld.ext E105 (Fld.ext E102 D6))) (Or.inr (slot_ne (Or.inr (hwk hw 78 rfl)) (Or.inr (hwk hw 66 rfl)) (by decide) (t := (.object "com/example/done_once/doneonce/store/Job")) (t' := (.object "java/lang/String")) (by decide) (by decide)))) (Or.inr (slot_ne (Or.inr (hwk hw 78 rfl)) (Or.inr (hwk hw 68 rfl)) (by decide) (t := (.object "com/example/done_once/doneonce/store/Job")) (t' := (.object "com/example/done_once/doneonce/core/RequestKind")) (by decide) (by decide)))) (Or.inr (slot_ne (Or.inr (hwk hw 78 rfl)) (Or.inr (hwk hw 70 rfl)) (by decide) (t := (.object "com/example/done_once/doneonce/store/Job")) (t' := (.object "java/lang/String")) (by decide) (by decide)))) (Or.inr (slot_ne (Or.inr (hwk hw 78 rfl)) (Or.inr (hwk hw 72 rfl)) (by decide) (t := (.object "com/example/done_once/doneonce/store/Job")) (t' := (.object "java/lang/String")) (by decide) (by decide)))) (Or.inr (slot_ne (Or.inr (hwk hw 78 rfl)) (Or.inr (hwk hw 74 rfl)) (by decide) (t := (.object "com/example/done_once/doneonce/store/Job")) (t' := (.object "com/example/done_once/doneonce/core/RequestState")) (by decide) (by decide)))) (Or.inr (slot_ne (Or.inr (hwk hw 78 rfl)) (Or.inr (hwk hw 76 rfl)) (by decide) (t := (.object "com/example/done_once/doneonce/store/Job")) (t' := (.object "java/lang/String")) (by decide) (by decide))))
  obtain ⟨T133, h133, X133, e133, W133, st133⟩ := putF X130 hx hZ108 hown108 (host := "") (Or.inl (hwk hw 77 rfl)) Via.refl e130 c132 c131 (Or.inr ⟨(hwk hw 78 rfl), rfl, hnm⟩) (hwk hw 41 rfl) (ty := (.object "com/example/done_once/doneonce/store/Job")) (by decide) rfl rfl (g := (mkF m 119 #[.val (.ref a1), .val (.ref i1), .val (.ref k2), .val (.ref l3), .val (.ref t4), .val (.ref s5), .val v6, .val .null, .unset] [.null, (.ref a1)])) rfl rfl (hb hby d7_119)
  have F133 : Fld Z h133 a1 "com/example/done_once/doneonce/store/Request" "job" "Lcom/example/done_once/doneonce/store/Job;" .null := Fld.same W133 c132
  have N133 := Fr.snoc X133 N130 g1
  have K134 : Keep h0 h102 [a1] := Keep.ext (Keep.refl h0 [a1]) E102
  have K135 : Keep h0 h105 [a1] := Keep.ext K134 E105
  have K136 : Keep h0 h108 [a1] := Keep.ext K135 E108
  have K137 : Keep h0 h115 [a1] := Keep.wr K136 W115 (Or.inl (List.mem_of_getElem? (i := 0) rfl))
  have K138 : Keep h0 h118 [a1] := Keep.wr K137 W118 (Or.inl (List.mem_of_getElem? (i := 0) rfl))
  have K139 : Keep h0 h121 [a1] := Keep.wr K138 W121 (Or.inl (List.mem_of_getElem? (i := 0) rfl))
  have K140 : Keep h0 h124 [a1] := Keep.wr K139 W124 (Or.inl (List.mem_of_getElem? (i := 0) rfl))
  have K141 : Keep h0 h127 [a1] := Keep.wr K140 W127 (Or.inl (List.mem_of_getElem? (i := 0) rfl))
  have K142 : Keep h0 h130 [a1] := Keep.wr K141 W130 (Or.inl (List.mem_of_getElem? (i := 0) rfl))
  have K143 : Keep h0 h133 [a1] := Keep.wr K142 W133 (Or.inl (List.mem_of_getElem? (i := 0) rfl))
  have c144 : Exa Z h133 a1 "com/example/done_once/doneonce/store/Request" := (Exa.wr W133 c131)
  have c145 : Fld Z h133 a1 "com/example/done_once/doneonce/store/Request" "state" "Lcom/example/done_once/doneonce/core/RequestState;" (.ref s5) := (Fld.other W133 (Fld.other W130 F127 (Or.inr (slot_ne (Or.inr (hwk hw 74 rfl)) (Or.inr (hwk hw 76 rfl)) (by decide) (t := (.object "com/example/done_once/doneonce/core/RequestState")) (t' := (.object "java/lang/String")) (by decide) (by decide)))) (Or.inr (slot_ne (Or.inr (hwk hw 74 rfl)) (Or.inr (hwk hw 78 rfl)) (by decide) (t := (.object "com/example/done_once/doneonce/core/RequestState")) (t' := (.object "com/example/done_once/doneonce/store/Job")) (by decide) (by decide))))
  obtain ⟨fs, hr, hrun, hended, hRE⟩ := X133.leaveW hS108 (show _ ≤ T133.heap.size from by rw [e133]; exact (Nat.le_trans hk108 (Nat.le_trans (Nat.le_trans (Nat.le_trans (Nat.le_trans (Nat.le_trans (Nat.le_trans (Nat.le_trans (Nat.le_refl _) (Nat.le_of_eq W115.size.symm)) (Nat.le_of_eq W118.size.symm)) (Nat.le_of_eq W121.size.symm)) (Nat.le_of_eq W124.size.symm)) (Nat.le_of_eq W127.size.symm)) (Nat.le_of_eq W130.size.symm)) (Nat.le_of_eq W133.size.symm)))) (v := none) (fun _ => rfl)
  refine ⟨_, _, pre0 _ ?_, hrun, hended, _, _, rfl, ?_, hRE.1, hRE.2.1, hRE.2.2.1, hRE.2.2.2.mono (by decide) (by decide)⟩
  · show Steps p.tables e below (s₁.setTop (mkF m 0 #[.val (.ref a1), .val (.ref i1), .val (.ref k2), .val (.ref l3), .val (.ref t4), .val (.ref s5), .val v6, .val .null, .unset] [])) _
    refine XS.aloadN X0.here hx rfl (hb hby d7_0) rfl rfl ?_
    show Steps p.tables e below (s₁.setTop (mkF m 1 #[.val (.ref a1), .val (.ref i1), .val (.ref k2), .val (.ref l3), .val (.ref t4), .val (.ref s5), .val v6, .val .null, .unset] [(.ref a1)])) _
    refine st101.trans ?_
    show Steps p.tables e below (T101.setTop (mkF m 4 #[.val (.ref a1), .val (.ref i1), .val (.ref k2), .val (.ref l3), .val (.ref t4), .val (.ref s5), .val v6, .val .null, .unset] [])) _
    refine XS.aloadN X101.here hx rfl (hb hby d7_4) rfl rfl ?_
    show Steps p.tables e below (T101.setTop (mkF m 5 #[.val (.ref a1), .val (.ref i1), .val (.ref k2), .val (.ref l3), .val (.ref t4), .val (.ref s5), .val v6, .val .null, .unset] [(.ref i1)])) _
    refine st102 _ ?_
    show Steps p.tables e below (T102.setTop (mkF m 7 #[.val (.ref a1), .val (.ref i1), .val (.ref k2), .val (.ref l3), .val (.ref t4), .val (.ref s5), .val v6, .val .null, .unset] [(.ref a102), (.ref i1)])) _
    refine st104 _ ?_
    show Steps p.tables e below (T104.setTop (mkF m 10 #[.val (.ref a1), .val (.ref i1), .val (.ref k2), .val (.ref l3), .val (.ref t4), .val (.ref s5), .val v6, .val .null, .unset] [(.ref i1)])) _
    refine XS.pop X104.here hx rfl (hb hby d7_10) rfl rfl ?_
    show Steps p.tables e below (T104.setTop (mkF m 11 #[.val (.ref a1), .val (.ref i1), .val (.ref k2), .val (.ref l3), .val (.ref t4), .val (.ref s5), .val v6, .val .null, .unset] [])) _
    refine XS.aloadN X104.here hx rfl (hb hby d7_11) rfl rfl ?_
    show Steps p.tables e below (T104.setTop (mkF m 12 #[.val (.ref a1), .val (.ref i1), .val (.ref k2), .val (.ref l3), .val (.ref t4), .val (.ref s5), .val v6, .val .null, .unset] [(.ref k2)])) _
    refine st105 _ ?_
    show Steps p.tables e below (T105.setTop (mkF m 14 #[.val (.ref a1), .val (.ref i1), .val (.ref k2), .val (.ref l3), .val (.ref t4), .val (.ref s5), .val v6, .val .null, .unset] [(.ref a105), (.ref k2)])) _
    refine st107 _ ?_
    show Steps p.tables e below (T107.setTop (mkF m 17 #[.val (.ref a1), .val (.ref i1), .val (.ref k2), .val (.ref l3), .val (.ref t4), .val (.ref s5), .val v6, .val .null, .unset] [(.ref k2)])) _
    refine XS.pop X107.here hx rfl (hb hby d7_17) rfl rfl ?_
    show Steps p.tables e below (T107.setTop (mkF m 18 #[.val (.ref a1), .val (.ref i1), .val (.ref k2), .val (.ref l3), .val (.ref t4), .val (.ref s5), .val v6, .val .null, .unset] [])) _
    refine XS.aload X107.here hx rfl (hb hby d7_18) rfl rfl ?_
    show Steps p.tables e below (T107.setTop (mkF m 20 #[.val (.ref a1), .val (.ref i1), .val (.ref k2), .val (.ref l3), .val (.ref t4), .val (.ref s5), .val v6, .val .null, .unset] [(.ref s5)])) _
    refine st108 _ ?_
    show Steps p.tables e below (T108.setTop (mkF m 22 #[.val (.ref a1), .val (.ref i1), .val (.ref k2), .val (.ref l3), .val (.ref t4), .val (.ref s5), .val v6, .val .null, .unset] [(.ref a108), (.ref s5)])) _
    refine st110 _ ?_
    show Steps p.tables e below (T110.setTop (mkF m 25 #[.val (.ref a1), .val (.ref i1), .val (.ref k2), .val (.ref l3), .val (.ref t4), .val (.ref s5), .val v6, .val .null, .unset] [(.ref s5)])) _
    refine XS.pop X110.here hx rfl (hb hby d7_25) rfl rfl ?_
    show Steps p.tables e below (T110.setTop (mkF m 26 #[.val (.ref a1), .val (.ref i1), .val (.ref k2), .val (.ref l3), .val (.ref t4), .val (.ref s5), .val v6, .val .null, .unset] [])) _
    refine XS.aload X110.here hx rfl (hb hby d7_26) rfl rfl ?_
    show Steps p.tables e below (T110.setTop (mkF m 28 #[.val (.ref a1), .val (.ref i1), .val (.ref k2), .val (.ref l3), .val (.ref t4), .val (.ref s5), .val v6, .val .null, .unset] [(.ref s5)])) _
    refine st112 _ ?_
    show Steps p.tables e below (T112.setTop (mkF m 31 #[.val (.ref a1), .val (.ref i1), .val (.ref k2), .val (.ref l3), .val (.ref t4), .val (.ref s5), .val v6, .val .null, .unset] [(.ref w_RequestState_SUCCEEDED), (.ref s5)])) _
    refine Jvm.RoadKit.acmp (g := (mkF m 31 #[.val (.ref a1), .val (.ref i1), .val (.ref k2), .val (.ref l3), .val (.ref t4), .val (.ref s5), .val v6, .val .null, .unset] [(.ref w_RequestState_SUCCEEDED), (.ref s5)])) X112 hx rfl rfl rfl (pc0 := 31) (pc' := 38) (same := false) rfl (hb hby d7_31) rfl (decide_eq_false fun q => (hne : ¬ (s5 = w_RequestState_SUCCEEDED)) (Value.ref.inj q)) (by decide) (by decide) ?_
    show Steps p.tables e below (T112.setTop (mkF m 38 #[.val (.ref a1), .val (.ref i1), .val (.ref k2), .val (.ref l3), .val (.ref t4), .val (.ref s5), .val v6, .val .null, .unset] [])) _
    refine XS.iconst X112.here hx rfl (hb hby d7_38) ?_
    show Steps p.tables e below (T112.setTop (mkF m 39 #[.val (.ref a1), .val (.ref i1), .val (.ref k2), .val (.ref l3), .val (.ref t4), .val (.ref s5), .val v6, .val .null, .unset] [(.int (0 : Int32))])) _
    refine XS.aload X112.here hx rfl (hb hby d7_39) rfl rfl ?_
    show Steps p.tables e below (T112.setTop (mkF m 41 #[.val (.ref a1), .val (.ref i1), .val (.ref k2), .val (.ref l3), .val (.ref t4), .val (.ref s5), .val v6, .val .null, .unset] [.null, (.int (0 : Int32))])) _
    refine XS.ifnullYes X112.here hx rfl (pc0 := 41) (pc' := 48) rfl (hb hby d7_41) rfl (by decide) (by decide) ?_
    show Steps p.tables e below (T112.setTop (mkF m 48 #[.val (.ref a1), .val (.ref i1), .val (.ref k2), .val (.ref l3), .val (.ref t4), .val (.ref s5), .val v6, .val .null, .unset] [(.int (0 : Int32))])) _
    refine XS.iconst X112.here hx rfl (hb hby d7_48) ?_
    show Steps p.tables e below (T112.setTop (mkF m 49 #[.val (.ref a1), .val (.ref i1), .val (.ref k2), .val (.ref l3), .val (.ref t4), .val (.ref s5), .val v6, .val .null, .unset] [(.int (0 : Int32)), (.int (0 : Int32))])) _
    refine XS.icmpYes X112.here hx rfl (pc0 := 49) (pc' := 83) rfl (hb hby d7_49) rfl (teq (by decide : (0 : Int32) = (0 : Int32))).1 (by decide) (by decide) ?_
    show Steps p.tables e below (T112.setTop (mkF m 83 #[.val (.ref a1), .val (.ref i1), .val (.ref k2), .val (.ref l3), .val (.ref t4), .val (.ref s5), .val v6, .val .null, .unset] [])) _
    refine XS.aloadN X112.here hx rfl (hb hby d7_83) rfl rfl ?_
    show Steps p.tables e below (T112.setTop (mkF m 84 #[.val (.ref a1), .val (.ref i1), .val (.ref k2), .val (.ref l3), .val (.ref t4), .val (.ref s5), .val v6, .val .null, .unset] [(.ref a1)])) _
    refine XS.aloadN X112.here hx rfl (hb hby d7_84) rfl rfl ?_
    show Steps p.tables e below (T112.setTop (mkF m 85 #[.val (.ref a1), .val (.ref i1), .val (.ref k2), .val (.ref l3), .val (.ref t4), .val (.ref s5), .val v6, .val .null, .unset] [(.ref i1), (.ref a1)])) _
    refine st115 _ ?_
    show Steps p.tables e below (T115.setTop (mkF m 88 #[.val (.ref a1), .val (.ref i1), .val (.ref k2), .val (.ref l3), .val (.ref t4), .val (.ref s5), .val v6, .val .null, .unset] [])) _
    refine XS.aloadN X115.here hx rfl (hb hby d7_88) rfl rfl ?_
    show Steps p.tables e below (T115.setTop (mkF m 89 #[.val (.ref a1), .val (.ref i1), .val (.ref k2), .val (.ref l3), .val (.ref t4), .val (.ref s5), .val v6, .val .null, .unset] [(.ref a1)])) _
    refine XS.aloadN X115.here hx rfl (hb hby d7_89) rfl rfl ?_
    show Steps p.tables e below (T115.setTop (mkF m 90 #[.val (.ref a1), .val (.ref i1), .val (.ref k2), .val (.ref l3), .val (.ref t4), .val (.ref s5), .val v6, .val .null, .unset] [(.ref k2), (.ref a1)])) _
    refine st118 _ ?_
    show Steps p.tables e below (T118.setTop (mkF m 93 #[.val (.ref a1), .val (.ref i1), .val (.ref k2), .val (.ref l3), .val (.ref t4), .val (.ref s5), .val v6, .val .null, .unset] [])) _
    refine XS.aloadN X118.here hx rfl (hb hby d7_93) rfl rfl ?_
    show Steps p.tables e below (T118.setTop (mkF m 94 #[.val (.ref a1), .val (.ref i1), .val (.ref k2), .val (.ref l3), .val (.ref t4), .val (.ref s5), .val v6, .val .null, .unset] [(.ref a1)])) _
    refine XS.aloadN X118.here hx rfl (hb hby d7_94) rfl rfl ?_
    show Steps p.tables e below (T118.setTop (mkF m 95 #[.val (.ref a1), .val (.ref i1), .val (.ref k2), .val (.ref l3), .val (.ref t4), .val (.ref s5), .val v6, .val .null, .unset] [(.ref l3), (.ref a1)])) _
    refine st121 _ ?_
    show Steps p.tables e below (T121.setTop (mkF m 98 #[.val (.ref a1), .val (.ref i1), .val (.ref k2), .val (.ref l3), .val (.ref t4), .val (.ref s5), .val v6, .val .null, .unset] [])) _
    refine XS.aloadN X121.here hx rfl (hb hby d7_98) rfl rfl ?_
    show Steps p.tables e below (T121.setTop (mkF m 99 #[.val (.ref a1), .val (.ref i1), .val (.ref k2), .val (.ref l3), .val (.ref t4), .val (.ref s5), .val v6, .val .null, .unset] [(.ref a1)])) _
    refine XS.aload X121.here hx rfl (hb hby d7_99) rfl rfl ?_
    show Steps p.tables e below (T121.setTop (mkF m 101 #[.val (.ref a1), .val (.ref i1), .val (.ref k2), .val (.ref l3), .val (.ref t4), .val (.ref s5), .val v6, .val .null, .unset] [(.ref t4), (.ref a1)])) _
    refine st124 _ ?_
    show Steps p.tables e below (T124.setTop (mkF m 104 #[.val (.ref a1), .val (.ref i1), .val (.ref k2), .val (.ref l3), .val (.ref t4), .val (.ref s5), .val v6, .val .null, .unset] [])) _
    refine XS.aloadN X124.here hx rfl (hb hby d7_104) rfl rfl ?_
    show Steps p.tables e below (T124.setTop (mkF m 105 #[.val (.ref a1), .val (.ref i1), .val (.ref k2), .val (.ref l3), .val (.ref t4), .val (.ref s5), .val v6, .val .null, .unset] [(.ref a1)])) _
    refine XS.aload X124.here hx rfl (hb hby d7_105) rfl rfl ?_
    show Steps p.tables e below (T124.setTop (mkF m 107 #[.val (.ref a1), .val (.ref i1), .val (.ref k2), .val (.ref l3), .val (.ref t4), .val (.ref s5), .val v6, .val .null, .unset] [(.ref s5), (.ref a1)])) _
    refine st127 _ ?_
    show Steps p.tables e below (T127.setTop (mkF m 110 #[.val (.ref a1), .val (.ref i1), .val (.ref k2), .val (.ref l3), .val (.ref t4), .val (.ref s5), .val v6, .val .null, .unset] [])) _
    refine XS.aloadN X127.here hx rfl (hb hby d7_110) rfl rfl ?_
    show Steps p.tables e below (T127.setTop (mkF m 111 #[.val (.ref a1), .val (.ref i1), .val (.ref k2), .val (.ref l3), .val (.ref t4), .val (.ref s5), .val v6, .val .null, .unset] [(.ref a1)])) _
    refine XS.aload X127.here hx rfl (hb hby d7_111) rfl hv6 ?_
    show Steps p.tables e below (T127.setTop (mkF m 113 #[.val (.ref a1), .val (.ref i1), .val (.ref k2), .val (.ref l3), .val (.ref t4), .val (.ref s5), .val v6, .val .null, .unset] [v6, (.ref a1)])) _
    refine st130 _ ?_
    show Steps p.tables e below (T130.setTop (mkF m 116 #[.val (.ref a1), .val (.ref i1), .val (.ref k2), .val (.ref l3), .val (.ref t4), .val (.ref s5), .val v6, .val .null, .unset] [])) _
    refine XS.aloadN X130.here hx rfl (hb hby d7_116) rfl rfl ?_
    show Steps p.tables e below (T130.setTop (mkF m 117 #[.val (.ref a1), .val (.ref i1), .val (.ref k2), .val (.ref l3), .val (.ref t4), .val (.ref s5), .val v6, .val .null, .unset] [(.ref a1)])) _
    refine XS.aload X130.here hx rfl (hb hby d7_117) rfl rfl ?_
    show Steps p.tables e below (T130.setTop (mkF m 119 #[.val (.ref a1), .val (.ref i1), .val (.ref k2), .val (.ref l3), .val (.ref t4), .val (.ref s5), .val v6, .val .null, .unset] [.null, (.ref a1)])) _
    refine st133 _ ?_
    show Steps p.tables e below (T133.setTop (mkF m 122 #[.val (.ref a1), .val (.ref i1), .val (.ref k2), .val (.ref l3), .val (.ref t4), .val (.ref s5), .val v6, .val .null, .unset] [])) _
    exact X133.returnOut hx Bd.returns (hb hby d7_122) hr
  · show Q_rm7n Z a1 i1 k2 l3 t4 s5 v6 w_RequestState_SUCCEEDED h0 n0 _ T133.heap _
    rw [e133]
    unfold Q_rm7n
    exact ⟨rfl, N133, K143, c144, c145, F133⟩
theorem ef_rm11 (m : MethodId) (x0 : Addr) : entryFrame m #[(.ref x0)] 1 = mkF m 0 #[.val (.ref x0)] [] := by first | (simp [entryFrame, mkF, argsToLocals, Value.category]; done) | rfl
def Q_rm11 (Z : State) (a1 : Addr) (b1 : Int32) (h0 : Heap) (n0 : Nat) (v : Option Value) (h : Heap) (L : List Loc) : Prop := (v = some (.int (nar .boolean b1))) ∧ (Fr n0 L) ∧ (h = h0)
theorem pn_6 : plainName "com/example/done_once/doneonce/core/RequestState" = true := by first | (simp [plainName, overriddenIn]; done) | decide +kernel
theorem d11_0 : decode prog_21_method_5_code 0 = .ok (.aload_n 0, 1) := by decide +kernel
theorem d11_1 : decode prog_21_method_5_code 1 = .ok (.getfield 39, 3) := by decide +kernel
theorem d11_4 : decode prog_21_method_5_code 4 = .ok (.ireturn, 1) := by decide +kernel
set_option maxRecDepth 65536 in
set_option maxHeartbeats 40000000 in
theorem rm11 (l : Launch) (Z : State) (a0 : Array Value) (hw : ∀ d ∈ tables_1, d.before a0 Z = true) (ws : List Jvm.Cond) (a1 : Addr) (b1 : Int32) (h0 : Heap) (n0 : Nat) (O0 : Old Z n0 h0) (F1 : Fld Z Z.heap a1 "com/example/done_once/doneonce/core/RequestState" "terminal" "Z" (.int b1)) :
    MetFree l (⟨"com/example/done_once/doneonce/core/RequestState", "isTerminal", "()Z"⟩ : MethodName) (head1 (Jvm.Cond.code (⟨"com/example/done_once/doneonce/core/RequestState", "isTerminal", "()Z"⟩ : MethodName) prog_21_method_5_code 1 (some .boolean) :: ws) ({ frames := 0, cells := 0, slots := 0, locals := 0 } : Room)) (fun a U => a = #[(.ref a1)] ∧ Z.Warmed39 U.vm ∧ U.heap = h0) (fun _ _ _ _ _ => True) (fun _ U o U' => ∃ v L, o = .returned v ∧ Q_rm11 Z a1 b1 h0 n0 v U'.heap L ∧ FrameEnd U o U' L ({ frames := 0, cells := 0, slots := 0, locals := 0 } : Room).cells ({ frames := 0, cells := 0, slots := 0, locals := 0 } : Room).slots) := by
  refine MetFree.of_bodySF (plainFor_of_name pn_6) hisR ?_
  intro p e s m args below meth c s₁ Bd hml0 hP hK
  obtain ⟨rfl, hZ, hh⟩ := hP
  have hx := Bd.exec
  have hby := Bd.bytes
  have hml : c.maxLocals = 1 := hml0
  have hown : s.vm.findClass "com/example/done_once/doneonce/core/RequestState" = some m.cls := findClass_of_methodNamed Bd.named
  have hnm := (name_of_methodNamed Bd.named Bd.method).1
  have X0 : Stand p l e ({ frames := 0, cells := 0, slots := 0, locals := 0 } : Room) s m #[(.ref a1)] below meth c s₁ [] 0 0 := Stand.of_body Bd
  have e0 : s₁.heap = h0 := by rw [← hh, Bd.state]; rfl
  have N0 := Fr.nil n0
  have Z0 : n0 ≤ h0.size := old_le O0
  have pre0 : ∀ t, Steps p.tables e below (s₁.setTop (mkF m 0 #[.val (.ref a1)] [])) t → Steps p.tables e below (s₁.setTop (entryFrame m #[(.ref a1)] 1)) t := fun t k => castTop (ef_rm11 m a1) k
  have c101 : Fld Z h0 a1 "com/example/done_once/doneonce/core/RequestState" "terminal" "Z" (.int b1) := Fld.ext (O0).2 F1
  obtain ⟨T102, X102, e102, st102⟩ := getF X0 hx hZ hown (host := "") (Or.inl (hwk hw 89 rfl)) Via.refl e0 c101 (g := (mkF m 1 #[.val (.ref a1)] [(.ref a1)])) rfl rfl (hb hby d11_1)
  obtain ⟨fs, hr, hrun, hended, hW, hsame⟩ := X102.leave (v := some (.int (nar .boolean b1))) (fun h => by rw [Bd.returns] at h; cases h)
  refine ⟨_, _, pre0 _ ?_, hrun, hended, _, _, rfl, ?_, ⟨_, rfl⟩, hW, hsame.mono (by decide) (by decide)⟩
  · show Steps p.tables e below (s₁.setTop (mkF m 0 #[.val (.ref a1)] [])) _
    refine XS.aloadN X0.here hx rfl (hb hby d11_0) rfl rfl ?_
    show Steps p.tables e below (s₁.setTop (mkF m 1 #[.val (.ref a1)] [(.ref a1)])) _
    refine st102 _ ?_
    show Steps p.tables e below (T102.setTop (mkF m 4 #[.val (.ref a1)] [(.int b1)])) _
    exact retN X102 hx (t := .boolean) Bd.returns (by simp) (hb hby d11_4) hr
  · show Q_rm11 Z a1 b1 h0 n0 _ T102.heap _
    rw [e102]
    unfold Q_rm11
    exact ⟨rfl, N0, rfl⟩
theorem ef_rm17 (m : MethodId) (x0 : Addr) : entryFrame m #[(.ref x0)] 1 = mkF m 0 #[.val (.ref x0)] [] := by first | (simp [entryFrame, mkF, argsToLocals, Value.category]; done) | rfl
def Q_rm17 (Z : State) (a1 : Addr) (b1 : Int32) (h0 : Heap) (n0 : Nat) (v : Option Value) (h : Heap) (L : List Loc) : Prop := (v = some (.int (nar .boolean b1))) ∧ (Fr n0 L) ∧ (h = h0)
theorem pn_7 : plainName "com/example/done_once/doneonce/core/JobState" = true := by first | (simp [plainName, overriddenIn]; done) | decide +kernel
theorem d17_0 : decode prog_11_method_5_code 0 = .ok (.aload_n 0, 1) := by decide +kernel
theorem d17_1 : decode prog_11_method_5_code 1 = .ok (.getfield 45, 3) := by decide +kernel
theorem d17_4 : decode prog_11_method_5_code 4 = .ok (.ireturn, 1) := by decide +kernel
set_option maxRecDepth 65536 in
set_option maxHeartbeats 40000000 in
theorem rm17 (l : Launch) (Z : State) (a0 : Array Value) (hw : ∀ d ∈ tables_1, d.before a0 Z = true) (ws : List Jvm.Cond) (a1 : Addr) (b1 : Int32) (h0 : Heap) (n0 : Nat) (O0 : Old Z n0 h0) (F1 : Fld Z Z.heap a1 "com/example/done_once/doneonce/core/JobState" "terminal" "Z" (.int b1)) :
    MetFree l (⟨"com/example/done_once/doneonce/core/JobState", "isTerminal", "()Z"⟩ : MethodName) (head1 (Jvm.Cond.code (⟨"com/example/done_once/doneonce/core/JobState", "isTerminal", "()Z"⟩ : MethodName) prog_11_method_5_code 1 (some .boolean) :: ws) ({ frames := 0, cells := 0, slots := 0, locals := 0 } : Room)) (fun a U => a = #[(.ref a1)] ∧ Z.Warmed39 U.vm ∧ U.heap = h0) (fun _ _ _ _ _ => True) (fun _ U o U' => ∃ v L, o = .returned v ∧ Q_rm17 Z a1 b1 h0 n0 v U'.heap L ∧ FrameEnd U o U' L ({ frames := 0, cells := 0, slots := 0, locals := 0 } : Room).cells ({ frames := 0, cells := 0, slots := 0, locals := 0 } : Room).slots) := by
  refine MetFree.of_bodySF (plainFor_of_name pn_7) hisR ?_
  intro p e s m args below meth c s₁ Bd hml0 hP hK
  obtain ⟨rfl, hZ, hh⟩ := hP
  have hx := Bd.exec
  have hby := Bd.bytes
  have hml : c.maxLocals = 1 := hml0
  have hown : s.vm.findClass "com/example/done_once/doneonce/core/JobState" = some m.cls := findClass_of_methodNamed Bd.named
  have hnm := (name_of_methodNamed Bd.named Bd.method).1
  have X0 : Stand p l e ({ frames := 0, cells := 0, slots := 0, locals := 0 } : Room) s m #[(.ref a1)] below meth c s₁ [] 0 0 := Stand.of_body Bd
  have e0 : s₁.heap = h0 := by rw [← hh, Bd.state]; rfl
  have N0 := Fr.nil n0
  have Z0 : n0 ≤ h0.size := old_le O0
  have pre0 : ∀ t, Steps p.tables e below (s₁.setTop (mkF m 0 #[.val (.ref a1)] [])) t → Steps p.tables e below (s₁.setTop (entryFrame m #[(.ref a1)] 1)) t := fun t k => castTop (ef_rm17 m a1) k
  have c101 : Fld Z h0 a1 "com/example/done_once/doneonce/core/JobState" "terminal" "Z" (.int b1) := Fld.ext (O0).2 F1
  obtain ⟨T102, X102, e102, st102⟩ := getF X0 hx hZ hown (host := "") (Or.inl (hwk hw 174 rfl)) Via.refl e0 c101 (g := (mkF m 1 #[.val (.ref a1)] [(.ref a1)])) rfl rfl (hb hby d17_1)
  obtain ⟨fs, hr, hrun, hended, hW, hsame⟩ := X102.leave (v := some (.int (nar .boolean b1))) (fun h => by rw [Bd.returns] at h; cases h)
  refine ⟨_, _, pre0 _ ?_, hrun, hended, _, _, rfl, ?_, ⟨_, rfl⟩, hW, hsame.mono (by decide) (by decide)⟩
  · show Steps p.tables e below (s₁.setTop (mkF m 0 #[.val (.ref a1)] [])) _
    refine XS.aloadN X0.here hx rfl (hb hby d17_0) rfl rfl ?_
    show Steps p.tables e below (s₁.setTop (mkF m 1 #[.val (.ref a1)] [(.ref a1)])) _
    refine st102 _ ?_
    show Steps p.tables e below (T102.setTop (mkF m 4 #[.val (.ref a1)] [(.int b1)])) _
    exact retN X102 hx (t := .boolean) Bd.returns (by simp) (hb hby d17_4) hr
  · show Q_rm17 Z a1 b1 h0 n0 _ T102.heap _
    rw [e102]
    unfold Q_rm17
    exact ⟨rfl, N0, rfl⟩
theorem ef_rm15 (m : MethodId) (x0 : Addr) : entryFrame m #[(.ref x0)] 1 = mkF m 0 #[.val (.ref x0)] [] := by first | (simp [entryFrame, mkF, argsToLocals, Value.category]; done) | rfl
def Q_rm15 (Z : State) (a1 : Addr) (r1 : Addr) (h0 : Heap) (n0 : Nat) (v : Option Value) (h : Heap) (L : List Loc) : Prop := (v = some (.ref r1)) ∧ (Fr n0 L) ∧ (h = h0)
theorem pn_8 : plainName "com/example/done_once/doneonce/store/Job" = true := by first | (simp [plainName, overriddenIn]; done) | decide +kernel
theorem d15_0 : decode prog_49_method_13_code 0 = .ok (.aload_n 0, 1) := by decide +kernel
theorem d15_1 : decode prog_49_method_13_code 1 = .ok (.getfield 44, 3) := by decide +kernel
theorem d15_4 : decode prog_49_method_13_code 4 = .ok (.areturn, 1) := by decide +kernel
set_option maxRecDepth 65536 in
set_option maxHeartbeats 40000000 in
theorem rm15 (l : Launch) (Z : State) (a0 : Array Value) (hw : ∀ d ∈ tables_1, d.before a0 Z = true) (ws : List Jvm.Cond) (a1 : Addr) (r1 : Addr) (h0 : Heap) (n0 : Nat) (O0 : Old Z n0 h0) (F1 : Fld Z h0 a1 "com/example/done_once/doneonce/store/Job" "status" "Lcom/example/done_once/doneonce/core/JobStatus;" (.ref r1)) :
    MetFree l (⟨"com/example/done_once/doneonce/store/Job", "status", "()Lcom/example/done_once/doneonce/core/JobStatus;"⟩ : MethodName) (head1 (Jvm.Cond.code (⟨"com/example/done_once/doneonce/store/Job", "status", "()Lcom/example/done_once/doneonce/core/JobStatus;"⟩ : MethodName) prog_49_method_13_code 1 (some (.object "com/example/done_once/doneonce/core/JobStatus")) :: ws) ({ frames := 0, cells := 0, slots := 0, locals := 0 } : Room)) (fun a U => a = #[(.ref a1)] ∧ Z.Warmed39 U.vm ∧ U.heap = h0) (fun _ _ _ _ _ => True) (fun _ U o U' => ∃ v L, o = .returned v ∧ Q_rm15 Z a1 r1 h0 n0 v U'.heap L ∧ FrameEnd U o U' L ({ frames := 0, cells := 0, slots := 0, locals := 0 } : Room).cells ({ frames := 0, cells := 0, slots := 0, locals := 0 } : Room).slots) := by
  refine MetFree.of_bodySF (plainFor_of_name pn_8) hisR ?_
  intro p e s m args below meth c s₁ Bd hml0 hP hK
  obtain ⟨rfl, hZ, hh⟩ := hP
  have hx := Bd.exec
  have hby := Bd.bytes
  have hml : c.maxLocals = 1 := hml0
  have hown : s.vm.findClass "com/example/done_once/doneonce/store/Job" = some m.cls := findClass_of_methodNamed Bd.named
  have hnm := (name_of_methodNamed Bd.named Bd.method).1
  have X0 : Stand p l e ({ frames := 0, cells := 0, slots := 0, locals := 0 } : Room) s m #[(.ref a1)] below meth c s₁ [] 0 0 := Stand.of_body Bd
  have e0 : s₁.heap = h0 := by rw [← hh, Bd.state]; rfl
  have N0 := Fr.nil n0
  have Z0 : n0 ≤ h0.size := old_le O0
  have pre0 : ∀ t, Steps p.tables e below (s₁.setTop (mkF m 0 #[.val (.ref a1)] [])) t → Steps p.tables e below (s₁.setTop (entryFrame m #[(.ref a1)] 1)) t := fun t k => castTop (ef_rm15 m a1) k
  obtain ⟨T101, X101, e101, st101⟩ := getF X0 hx hZ hown (host := "") (Or.inl (hwk hw 152 rfl)) Via.refl e0 F1 (g := (mkF m 1 #[.val (.ref a1)] [(.ref a1)])) rfl rfl (hb hby d15_1)
  obtain ⟨fs, hr, hrun, hended, hW, hsame⟩ := X101.leave (v := some (.ref r1)) (fun h => by rw [Bd.returns] at h; cases h)
  refine ⟨_, _, pre0 _ ?_, hrun, hended, _, _, rfl, ?_, ⟨_, rfl⟩, hW, hsame.mono (by decide) (by decide)⟩
  · show Steps p.tables e below (s₁.setTop (mkF m 0 #[.val (.ref a1)] [])) _
    refine XS.aloadN X0.here hx rfl (hb hby d15_0) rfl rfl ?_
    show Steps p.tables e below (s₁.setTop (mkF m 1 #[.val (.ref a1)] [(.ref a1)])) _
    refine st101 _ ?_
    show Steps p.tables e below (T101.setTop (mkF m 4 #[.val (.ref a1)] [(.ref r1)])) _
    exact Jvm.RoadKit.retOut X101 hx Bd.returns rfl (Or.inr (Or.inr (Or.inr (Or.inr ⟨rfl, rfl, rfl⟩)))) (hb hby d15_4) hr
  · show Q_rm15 Z a1 r1 h0 n0 _ T101.heap _
    rw [e101]
    unfold Q_rm15
    exact ⟨rfl, N0, rfl⟩
theorem ef_rm16 (m : MethodId) (x0 : Addr) : entryFrame m #[(.ref x0)] 1 = mkF m 0 #[.val (.ref x0)] [] := by first | (simp [entryFrame, mkF, argsToLocals, Value.category]; done) | rfl
def Q_rm16 (Z : State) (a1 : Addr) (r1 : Addr) (h0 : Heap) (n0 : Nat) (v : Option Value) (h : Heap) (L : List Loc) : Prop := (v = some (.ref r1)) ∧ (Fr n0 L) ∧ (h = h0)
theorem pn_9 : plainName "com/example/done_once/doneonce/core/JobStatus" = true := by first | (simp [plainName, overriddenIn]; done) | decide +kernel
theorem d16_0 : decode prog_12_method_8_code 0 = .ok (.aload_n 0, 1) := by decide +kernel
theorem d16_1 : decode prog_12_method_8_code 1 = .ok (.getfield 17, 3) := by decide +kernel
theorem d16_4 : decode prog_12_method_8_code 4 = .ok (.areturn, 1) := by decide +kernel
set_option maxRecDepth 65536 in
set_option maxHeartbeats 40000000 in
theorem rm16 (l : Launch) (Z : State) (a0 : Array Value) (hw : ∀ d ∈ tables_1, d.before a0 Z = true) (ws : List Jvm.Cond) (a1 : Addr) (r1 : Addr) (h0 : Heap) (n0 : Nat) (O0 : Old Z n0 h0) (F1 : Fld Z h0 a1 "com/example/done_once/doneonce/core/JobStatus" "state" "Lcom/example/done_once/doneonce/core/JobState;" (.ref r1)) :
    MetFree l (⟨"com/example/done_once/doneonce/core/JobStatus", "state", "()Lcom/example/done_once/doneonce/core/JobState;"⟩ : MethodName) (head1 (Jvm.Cond.code (⟨"com/example/done_once/doneonce/core/JobStatus", "state", "()Lcom/example/done_once/doneonce/core/JobState;"⟩ : MethodName) prog_12_method_8_code 1 (some (.object "com/example/done_once/doneonce/core/JobState")) :: ws) ({ frames := 0, cells := 0, slots := 0, locals := 0 } : Room)) (fun a U => a = #[(.ref a1)] ∧ Z.Warmed39 U.vm ∧ U.heap = h0) (fun _ _ _ _ _ => True) (fun _ U o U' => ∃ v L, o = .returned v ∧ Q_rm16 Z a1 r1 h0 n0 v U'.heap L ∧ FrameEnd U o U' L ({ frames := 0, cells := 0, slots := 0, locals := 0 } : Room).cells ({ frames := 0, cells := 0, slots := 0, locals := 0 } : Room).slots) := by
  refine MetFree.of_bodySF (plainFor_of_name pn_9) hisR ?_
  intro p e s m args below meth c s₁ Bd hml0 hP hK
  obtain ⟨rfl, hZ, hh⟩ := hP
  have hx := Bd.exec
  have hby := Bd.bytes
  have hml : c.maxLocals = 1 := hml0
  have hown : s.vm.findClass "com/example/done_once/doneonce/core/JobStatus" = some m.cls := findClass_of_methodNamed Bd.named
  have hnm := (name_of_methodNamed Bd.named Bd.method).1
  have X0 : Stand p l e ({ frames := 0, cells := 0, slots := 0, locals := 0 } : Room) s m #[(.ref a1)] below meth c s₁ [] 0 0 := Stand.of_body Bd
  have e0 : s₁.heap = h0 := by rw [← hh, Bd.state]; rfl
  have N0 := Fr.nil n0
  have Z0 : n0 ≤ h0.size := old_le O0
  have pre0 : ∀ t, Steps p.tables e below (s₁.setTop (mkF m 0 #[.val (.ref a1)] [])) t → Steps p.tables e below (s₁.setTop (entryFrame m #[(.ref a1)] 1)) t := fun t k => castTop (ef_rm16 m a1) k
  obtain ⟨T101, X101, e101, st101⟩ := getF X0 hx hZ hown (host := "") (Or.inl (hwk hw 115 rfl)) Via.refl e0 F1 (g := (mkF m 1 #[.val (.ref a1)] [(.ref a1)])) rfl rfl (hb hby d16_1)
  obtain ⟨fs, hr, hrun, hended, hW, hsame⟩ := X101.leave (v := some (.ref r1)) (fun h => by rw [Bd.returns] at h; cases h)
  refine ⟨_, _, pre0 _ ?_, hrun, hended, _, _, rfl, ?_, ⟨_, rfl⟩, hW, hsame.mono (by decide) (by decide)⟩
  · show Steps p.tables e below (s₁.setTop (mkF m 0 #[.val (.ref a1)] [])) _
    refine XS.aloadN X0.here hx rfl (hb hby d16_0) rfl rfl ?_
    show Steps p.tables e below (s₁.setTop (mkF m 1 #[.val (.ref a1)] [(.ref a1)])) _
    refine st101 _ ?_
    show Steps p.tables e below (T101.setTop (mkF m 4 #[.val (.ref a1)] [(.ref r1)])) _
    exact Jvm.RoadKit.retOut X101 hx Bd.returns rfl (Or.inr (Or.inr (Or.inr (Or.inr ⟨rfl, rfl, rfl⟩)))) (hb hby d16_4) hr
  · show Q_rm16 Z a1 r1 h0 n0 _ T101.heap _
    rw [e101]
    unfold Q_rm16
    exact ⟨rfl, N0, rfl⟩
theorem ef_rm10n (m : MethodId) (x0 : Addr) : entryFrame m #[(.ref x0)] 1 = mkF m 0 #[.val (.ref x0)] [] := by first | (simp [entryFrame, mkF, argsToLocals, Value.category]; done) | rfl
def Q_rm10n (Z : State) (a1 : Addr) (s1 : Addr) (b1 : Int32) (h0 : Heap) (n0 : Nat) (v : Option Value) (h : Heap) (L : List Loc) : Prop := (v = some (.int (nar .boolean (nar .boolean b1)))) ∧ (Fr n0 L) ∧ (h = h0)
theorem d10_0 : decode prog_55_method_4_code 0 = .ok (.aload_n 0, 1) := by decide +kernel
theorem d10_1 : decode prog_55_method_4_code 1 = .ok (.getfield 62, 3) := by decide +kernel
theorem d10_4 : decode prog_55_method_4_code 4 = .ok (.ifnull 19, 3) := by decide +kernel
theorem d10_23 : decode prog_55_method_4_code 23 = .ok (.aload_n 0, 1) := by decide +kernel
theorem d10_24 : decode prog_55_method_4_code 24 = .ok (.getfield 56, 3) := by decide +kernel
theorem d10_27 : decode prog_55_method_4_code 27 = .ok (.invokevirtual 98, 3) := by decide +kernel
theorem pd_5 : parseMethodDescriptor "()Z" = some ⟨[], some .boolean⟩ := by decide +kernel
theorem d10_30 : decode prog_55_method_4_code 30 = .ok (.ireturn, 1) := by decide +kernel
set_option maxRecDepth 65536 in
set_option maxHeartbeats 40000000 in
theorem rm10n (l : Launch) (Z : State) (a0 : Array Value) (hw : ∀ d ∈ tables_1, d.before a0 Z = true) (ws : List Jvm.Cond) (a1 : Addr) (s1 : Addr) (b1 : Int32) (h0 : Heap) (n0 : Nat) (O0 : Old Z n0 h0) (F1 : Fld Z h0 a1 "com/example/done_once/doneonce/store/Request" "job" "Lcom/example/done_once/doneonce/store/Job;" .null) (F2 : Fld Z h0 a1 "com/example/done_once/doneonce/store/Request" "state" "Lcom/example/done_once/doneonce/core/RequestState;" (.ref s1)) (E2 : Exa Z Z.heap s1 "com/example/done_once/doneonce/core/RequestState") (F3 : Fld Z Z.heap s1 "com/example/done_once/doneonce/core/RequestState" "terminal" "Z" (.int b1)) :
    MetFree l (⟨"com/example/done_once/doneonce/store/Request", "ended", "()Z"⟩ : MethodName) (head1 (Jvm.Cond.code (⟨"com/example/done_once/doneonce/store/Request", "ended", "()Z"⟩ : MethodName) prog_55_method_4_code 1 (some .boolean) :: ws) ({ frames := 1, cells := 0, slots := 0, locals := 12 } : Room)) (fun a U => a = #[(.ref a1)] ∧ Z.Warmed39 U.vm ∧ U.heap = h0) (fun _ _ _ _ _ => True) (fun _ U o U' => ∃ v L, o = .returned v ∧ Q_rm10n Z a1 s1 b1 h0 n0 v U'.heap L ∧ FrameEnd U o U' L ({ frames := 1, cells := 0, slots := 0, locals := 12 } : Room).cells ({ frames := 1, cells := 0, slots := 0, locals := 12 } : Room).slots) := by
  refine MetFree.of_bodySF (plainFor_of_name pn_5) hisR ?_
  intro p e s m args below meth c s₁ Bd hml0 hP hK
  obtain ⟨rfl, hZ, hh⟩ := hP
  have hx := Bd.exec
  have hby := Bd.bytes
  have hml : c.maxLocals = 1 := hml0
  have hown : s.vm.findClass "com/example/done_once/doneonce/store/Request" = some m.cls := findClass_of_methodNamed Bd.named
  have hnm := (name_of_methodNamed Bd.named Bd.method).1
  have X0 : Stand p l e ({ frames := 1, cells := 0, slots := 0, locals := 12 } : Room) s m #[(.ref a1)] below meth c s₁ [] 0 0 := Stand.of_body Bd
  have e0 : s₁.heap = h0 := by rw [← hh, Bd.state]; rfl
  have N0 := Fr.nil n0
  have Z0 : n0 ≤ h0.size := old_le O0
  have pre0 : ∀ t, Steps p.tables e below (s₁.setTop (mkF m 0 #[.val (.ref a1)] [])) t → Steps p.tables e below (s₁.setTop (entryFrame m #[(.ref a1)] 1)) t := fun t k => castTop (ef_rm10n m a1) k
  obtain ⟨T101, X101, e101, st101⟩ := getF X0 hx hZ hown (host := "") (Or.inl (hwk hw 77 rfl)) Via.refl e0 F1 (g := (mkF m 1 #[.val (.ref a1)] [(.ref a1)])) rfl rfl (hb hby d10_1)
  obtain ⟨T102, X102, e102, st102⟩ := getF X101 hx hZ hown (host := "") (Or.inl (hwk hw 73 rfl)) Via.refl e101 F2 (g := (mkF m 24 #[.val (.ref a1)] [(.ref a1)])) rfl rfl (hb hby d10_24)
  have c104 : Exa Z h0 s1 "com/example/done_once/doneonce/core/RequestState" := Exa.ext (O0).2 E2
  obtain ⟨cq103, kq103, q103a, q103b, q103c⟩ := isOf hZ e102 c104
  obtain ⟨_, _, ⟨T103, L103, k103, n103⟩, -, X103, ⟨Lc103, hQ103, l103, y103, z103⟩, st103⟩ := X102.virtualBack hx (y := (⟨"com/example/done_once/doneonce/core/RequestState", "isTerminal", "()Z"⟩ : MethodName)) (z := (⟨"com/example/done_once/doneonce/core/RequestState", "isTerminal", "()Z"⟩ : MethodName)) hown (mvT hZ (hwk hw 84 rfl)) (mvT hZ (hwk hw 85 rfl)) (notFace_of_selects (args := #[]) (mvT hZ (hwk hw 87 rfl))) (mvT hZ (hwk hw 87 rfl)) (mvT hZ (hwk hw 86 rfl)) (by decide) (backOf (W := 0) (rm11 l Z a0 hw [] s1 b1 h0 n0 O0 F3) hZ (hwk hw 88 rfl) (hwk hw 38 rfl) (by decide) (by decide)) q103a q103c (g := (mkF m 27 #[.val (.ref a1)] [(.ref s1)])) rfl (by rw [hml]; rfl) (Steps.refl _) (argsL := []) (rest := []) (lenOf pd_5 rfl) rfl (by show 2 * 0 + _ ≤ _; exact Nat.le_of_eq rfl) (hb hby d10_27) (fun _ _ => ⟨rfl, e102, (by decide : 0 + 0 ≤ _), (by decide : 0 + 0 ≤ _)⟩)
  dsimp only [Pt.U, Pt.locs, Pt.cells, Pt.slots] at X103 l103 y103 z103 st103 hQ103
  subst l103 y103 z103
  unfold Q_rm11 at hQ103
  obtain ⟨rfl, N103q, e103⟩ := hQ103
  have N103 := Fr.app N0 N103q
  obtain ⟨fs, hr, hrun, hended, hW, hsame⟩ := X103.leave (v := some (.int (nar .boolean (nar .boolean b1)))) (fun h => by rw [Bd.returns] at h; cases h)
  refine ⟨_, _, pre0 _ ?_, hrun, hended, _, _, rfl, ?_, ⟨_, rfl⟩, hW, hsame.mono (by decide) (by decide)⟩
  · show Steps p.tables e below (s₁.setTop (mkF m 0 #[.val (.ref a1)] [])) _
    refine XS.aloadN X0.here hx rfl (hb hby d10_0) rfl rfl ?_
    show Steps p.tables e below (s₁.setTop (mkF m 1 #[.val (.ref a1)] [(.ref a1)])) _
    refine st101 _ ?_
    show Steps p.tables e below (T101.setTop (mkF m 4 #[.val (.ref a1)] [.null])) _
    refine XS.ifnullYes X101.here hx rfl (pc0 := 4) (pc' := 23) rfl (hb hby d10_4) rfl (by decide) (by decide) ?_
    show Steps p.tables e below (T101.setTop (mkF m 23 #[.val (.ref a1)] [])) _
    refine XS.aloadN X101.here hx rfl (hb hby d10_23) rfl rfl ?_
    show Steps p.tables e below (T101.setTop (mkF m 24 #[.val (.ref a1)] [(.ref a1)])) _
    refine st102 _ ?_
    show Steps p.tables e below (T102.setTop (mkF m 27 #[.val (.ref a1)] [(.ref s1)])) _
    refine st103.trans ?_
    show Steps p.tables e below (T103.setTop (mkF m 30 #[.val (.ref a1)] [(.int (nar .boolean b1))])) _
    exact retN X103 hx (t := .boolean) Bd.returns (by simp) (hb hby d10_30) hr
  · show Q_rm10n Z a1 s1 b1 h0 n0 _ T103.heap _
    rw [e103]
    unfold Q_rm10n
    exact ⟨rfl, N103, rfl⟩
theorem ef_rm10j (m : MethodId) (x0 : Addr) : entryFrame m #[(.ref x0)] 1 = mkF m 0 #[.val (.ref x0)] [] := by first | (simp [entryFrame, mkF, argsToLocals, Value.category]; done) | rfl
def Q_rm10j (Z : State) (a1 : Addr) (j1 : Addr) (u1 : Addr) (s1 : Addr) (b1 : Int32) (h0 : Heap) (n0 : Nat) (v : Option Value) (h : Heap) (L : List Loc) : Prop := (v = some (.int (nar .boolean (nar .boolean b1)))) ∧ (Fr n0 L) ∧ (h = h0)
theorem d10_7 : decode prog_55_method_4_code 7 = .ok (.aload_n 0, 1) := by decide +kernel
theorem d10_8 : decode prog_55_method_4_code 8 = .ok (.getfield 62, 3) := by decide +kernel
theorem d10_11 : decode prog_55_method_4_code 11 = .ok (.invokevirtual 83, 3) := by decide +kernel
theorem pd_6 : parseMethodDescriptor "()Lcom/example/done_once/doneonce/core/JobStatus;" = some ⟨[], some (.object "com/example/done_once/doneonce/core/JobStatus")⟩ := by decide +kernel
theorem d10_14 : decode prog_55_method_4_code 14 = .ok (.invokevirtual 87, 3) := by decide +kernel
theorem pd_7 : parseMethodDescriptor "()Lcom/example/done_once/doneonce/core/JobState;" = some ⟨[], some (.object "com/example/done_once/doneonce/core/JobState")⟩ := by decide +kernel
theorem d10_17 : decode prog_55_method_4_code 17 = .ok (.invokevirtual 92, 3) := by decide +kernel
theorem d10_20 : decode prog_55_method_4_code 20 = .ok (.goto 10, 3) := by decide +kernel
set_option maxRecDepth 65536 in
set_option maxHeartbeats 40000000 in
theorem rm10j (l : Launch) (Z : State) (a0 : Array Value) (hw : ∀ d ∈ tables_1, d.before a0 Z = true) (ws : List Jvm.Cond) (a1 : Addr) (j1 : Addr) (u1 : Addr) (s1 : Addr) (b1 : Int32) (h0 : Heap) (n0 : Nat) (O0 : Old Z n0 h0) (F1 : Fld Z h0 a1 "com/example/done_once/doneonce/store/Request" "job" "Lcom/example/done_once/doneonce/store/Job;" (.ref j1)) (E2 : Exa Z h0 j1 "com/example/done_once/doneonce/store/Job") (F2 : Fld Z h0 j1 "com/example/done_once/doneonce/store/Job" "status" "Lcom/example/done_once/doneonce/core/JobStatus;" (.ref u1)) (E3 : Exa Z h0 u1 "com/example/done_once/doneonce/core/JobStatus") (F3 : Fld Z h0 u1 "com/example/done_once/doneonce/core/JobStatus" "state" "Lcom/example/done_once/doneonce/core/JobState;" (.ref s1)) (E4 : Exa Z Z.heap s1 "com/example/done_once/doneonce/core/JobState") (F4 : Fld Z Z.heap s1 "com/example/done_once/doneonce/core/JobState" "terminal" "Z" (.int b1)) :
    MetFree l (⟨"com/example/done_once/doneonce/store/Request", "ended", "()Z"⟩ : MethodName) (head1 (Jvm.Cond.code (⟨"com/example/done_once/doneonce/store/Request", "ended", "()Z"⟩ : MethodName) prog_55_method_4_code 1 (some .boolean) :: ws) ({ frames := 1, cells := 0, slots := 0, locals := 12 } : Room)) (fun a U => a = #[(.ref a1)] ∧ Z.Warmed39 U.vm ∧ U.heap = h0) (fun _ _ _ _ _ => True) (fun _ U o U' => ∃ v L, o = .returned v ∧ Q_rm10j Z a1 j1 u1 s1 b1 h0 n0 v U'.heap L ∧ FrameEnd U o U' L ({ frames := 1, cells := 0, slots := 0, locals := 12 } : Room).cells ({ frames := 1, cells := 0, slots := 0, locals := 12 } : Room).slots) := by
  refine MetFree.of_bodySF (plainFor_of_name pn_5) hisR ?_
  intro p e s m args below meth c s₁ Bd hml0 hP hK
  obtain ⟨rfl, hZ, hh⟩ := hP
  have hx := Bd.exec
  have hby := Bd.bytes
  have hml : c.maxLocals = 1 := hml0
  have hown : s.vm.findClass "com/example/done_once/doneonce/store/Request" = some m.cls := findClass_of_methodNamed Bd.named
  have hnm := (name_of_methodNamed Bd.named Bd.method).1
  have X0 : Stand p l e ({ frames := 1, cells := 0, slots := 0, locals := 12 } : Room) s m #[(.ref a1)] below meth c s₁ [] 0 0 := Stand.of_body Bd
  have e0 : s₁.heap = h0 := by rw [← hh, Bd.state]; rfl
  have N0 := Fr.nil n0
  have Z0 : n0 ≤ h0.size := old_le O0
  have pre0 : ∀ t, Steps p.tables e below (s₁.setTop (mkF m 0 #[.val (.ref a1)] [])) t → Steps p.tables e below (s₁.setTop (entryFrame m #[(.ref a1)] 1)) t := fun t k => castTop (ef_rm10j m a1) k
  obtain ⟨T101, X101, e101, st101⟩ := getF X0 hx hZ hown (host := "") (Or.inl (hwk hw 77 rfl)) Via.refl e0 F1 (g := (mkF m 1 #[.val (.ref a1)] [(.ref a1)])) rfl rfl (hb hby d10_1)
  obtain ⟨T102, X102, e102, st102⟩ := getF X101 hx hZ hown (host := "") (Or.inl (hwk hw 77 rfl)) Via.refl e101 F1 (g := (mkF m 8 #[.val (.ref a1)] [(.ref a1)])) rfl rfl (hb hby d10_8)
  obtain ⟨cq103, kq103, q103a, q103b, q103c⟩ := isOf hZ e102 E2
  obtain ⟨_, _, ⟨T103, L103, k103, n103⟩, -, X103, ⟨Lc103, hQ103, l103, y103, z103⟩, st103⟩ := X102.virtualBack hx (y := (⟨"com/example/done_once/doneonce/store/Job", "status", "()Lcom/example/done_once/doneonce/core/JobStatus;"⟩ : MethodName)) (z := (⟨"com/example/done_once/doneonce/store/Job", "status", "()Lcom/example/done_once/doneonce/core/JobStatus;"⟩ : MethodName)) hown (mvT hZ (hwk hw 159 rfl)) (mvT hZ (hwk hw 160 rfl)) (notFace_of_selects (args := #[]) (mvT hZ (hwk hw 162 rfl))) (mvT hZ (hwk hw 162 rfl)) (mvT hZ (hwk hw 161 rfl)) (by decide) (backOf (W := 0) (rm15 l Z a0 hw [] j1 u1 h0 n0 O0 F2) hZ (hwk hw 163 rfl) (hwk hw 127 rfl) (by decide) (by decide)) q103a q103c (g := (mkF m 11 #[.val (.ref a1)] [(.ref j1)])) rfl (by rw [hml]; rfl) (Steps.refl _) (argsL := []) (rest := []) (lenOf pd_6 rfl) rfl (by show 2 * 0 + _ ≤ _; exact Nat.le_of_eq rfl) (hb hby d10_11) (fun _ _ => ⟨rfl, e102, (by decide : 0 + 0 ≤ _), (by decide : 0 + 0 ≤ _)⟩)
  dsimp only [Pt.U, Pt.locs, Pt.cells, Pt.slots] at X103 l103 y103 z103 st103 hQ103
  subst l103 y103 z103
  unfold Q_rm15 at hQ103
  obtain ⟨rfl, N103q, e103⟩ := hQ103
  have N103 := Fr.app N0 N103q
  obtain ⟨cq104, kq104, q104a, q104b, q104c⟩ := isOf hZ e103 E3
  obtain ⟨_, _, ⟨T104, L104, k104, n104⟩, -, X104, ⟨Lc104, hQ104, l104, y104, z104⟩, st104⟩ := X103.virtualBack hx (y := (⟨"com/example/done_once/doneonce/core/JobStatus", "state", "()Lcom/example/done_once/doneonce/core/JobState;"⟩ : MethodName)) (z := (⟨"com/example/done_once/doneonce/core/JobStatus", "state", "()Lcom/example/done_once/doneonce/core/JobState;"⟩ : MethodName)) hown (mvT hZ (hwk hw 164 rfl)) (mvT hZ (hwk hw 165 rfl)) (notFace_of_selects (args := #[]) (mvT hZ (hwk hw 167 rfl))) (mvT hZ (hwk hw 167 rfl)) (mvT hZ (hwk hw 166 rfl)) (by decide) (backOf (W := 0) (rm16 l Z a0 hw [] u1 s1 h0 n0 O0 F3) hZ (hwk hw 168 rfl) (hwk hw 101 rfl) (by decide) (by decide)) q104a q104c (g := (mkF m 14 #[.val (.ref a1)] [(.ref u1)])) rfl (by rw [hml]; rfl) (Steps.refl _) (argsL := []) (rest := []) (lenOf pd_7 rfl) rfl (by show 2 * 0 + _ ≤ _; exact Nat.le_of_eq rfl) (hb hby d10_14) (fun _ _ => ⟨rfl, e103, (by decide : 0 + 0 ≤ _), (by decide : 0 + 0 ≤ _)⟩)
  dsimp only [Pt.U, Pt.locs, Pt.cells, Pt.slots] at X104 l104 y104 z104 st104 hQ104
  subst l104 y104 z104
  unfold Q_rm16 at hQ104
  obtain ⟨rfl, N104q, e104⟩ := hQ104
  have N104 := Fr.app N103 N104q
  have c106 : Exa Z h0 s1 "com/example/done_once/doneonce/core/JobState" := Exa.ext (O0).2 E4
  obtain ⟨cq105, kq105, q105a, q105b, q105c⟩ := isOf hZ e104 c106
  obtain ⟨_, _, ⟨T105, L105, k105, n105⟩, -, X105, ⟨Lc105, hQ105, l105, y105, z105⟩, st105⟩ := X104.virtualBack hx (y := (⟨"com/example/done_once/doneonce/core/JobState", "isTerminal", "()Z"⟩ : MethodName)) (z := (⟨"com/example/done_once/doneonce/core/JobState", "isTerminal", "()Z"⟩ : MethodName)) hown (mvT hZ (hwk hw 169 rfl)) (mvT hZ (hwk hw 170 rfl)) (notFace_of_selects (args := #[]) (mvT hZ (hwk hw 172 rfl))) (mvT hZ (hwk hw 172 rfl)) (mvT hZ (hwk hw 171 rfl)) (by decide) (backOf (W := 0) (rm17 l Z a0 hw [] s1 b1 h0 n0 O0 F4) hZ (hwk hw 173 rfl) (hwk hw 106 rfl) (by decide) (by decide)) q105a q105c (g := (mkF m 17 #[.val (.ref a1)] [(.ref s1)])) rfl (by rw [hml]; rfl) (Steps.refl _) (argsL := []) (rest := []) (lenOf pd_5 rfl) rfl (by show 2 * 0 + _ ≤ _; exact Nat.le_of_eq rfl) (hb hby d10_17) (fun _ _ => ⟨rfl, e104, (by decide : 0 + 0 ≤ _), (by decide : 0 + 0 ≤ _)⟩)
  dsimp only [Pt.U, Pt.locs, Pt.cells, Pt.slots] at X105 l105 y105 z105 st105 hQ105
  subst l105 y105 z105
  unfold Q_rm17 at hQ105
  obtain ⟨rfl, N105q, e105⟩ := hQ105
  have N105 := Fr.app N104 N105q
  obtain ⟨fs, hr, hrun, hended, hW, hsame⟩ := X105.leave (v := some (.int (nar .boolean (nar .boolean b1)))) (fun h => by rw [Bd.returns] at h; cases h)
  refine ⟨_, _, pre0 _ ?_, hrun, hended, _, _, rfl, ?_, ⟨_, rfl⟩, hW, hsame.mono (by decide) (by decide)⟩
  · show Steps p.tables e below (s₁.setTop (mkF m 0 #[.val (.ref a1)] [])) _
    refine XS.aloadN X0.here hx rfl (hb hby d10_0) rfl rfl ?_
    show Steps p.tables e below (s₁.setTop (mkF m 1 #[.val (.ref a1)] [(.ref a1)])) _
    refine st101 _ ?_
    show Steps p.tables e below (T101.setTop (mkF m 4 #[.val (.ref a1)] [(.ref j1)])) _
    refine XS.ifnullNo X101.here hx rfl (hb hby d10_4) rfl ?_
    show Steps p.tables e below (T101.setTop (mkF m 7 #[.val (.ref a1)] [])) _
    refine XS.aloadN X101.here hx rfl (hb hby d10_7) rfl rfl ?_
    show Steps p.tables e below (T101.setTop (mkF m 8 #[.val (.ref a1)] [(.ref a1)])) _
    refine st102 _ ?_
    show Steps p.tables e below (T102.setTop (mkF m 11 #[.val (.ref a1)] [(.ref j1)])) _
    refine st103.trans ?_
    show Steps p.tables e below (T103.setTop (mkF m 14 #[.val (.ref a1)] [(.ref u1)])) _
    refine st104.trans ?_
    show Steps p.tables e below (T104.setTop (mkF m 17 #[.val (.ref a1)] [(.ref s1)])) _
    refine st105.trans ?_
    show Steps p.tables e below (T105.setTop (mkF m 20 #[.val (.ref a1)] [(.int (nar .boolean b1))])) _
    refine XS.goto X105.here hx rfl (pc0 := 20) (pc' := 30) rfl (hb hby d10_20) (by decide) (by decide) ?_
    show Steps p.tables e below (T105.setTop (mkF m 30 #[.val (.ref a1)] [(.int (nar .boolean b1))])) _
    exact retN X105 hx (t := .boolean) Bd.returns (by simp) (hb hby d10_30) hr
  · show Q_rm10j Z a1 j1 u1 s1 b1 h0 n0 _ T105.heap _
    rw [e105]
    unfold Q_rm10j
    exact ⟨rfl, N105, rfl⟩
theorem ef_rm12 (m : MethodId) (x0 : Int32) : entryFrame m #[(.int x0)] 1 = mkF m 0 #[.val (.int x0)] [] := by first | (simp [entryFrame, mkF, argsToLocals, Value.category]; done) | rfl
def V12 (p : Int32) (w_JobState_QUEUED w_JobState_RUNNING w_JobState_SUCCEEDED w_JobState_FAILED w_JobState_TIMEOUT w_JobState_CANCELLED : Addr) : Addr := if p = 0 then w_JobState_QUEUED else if p = 1 then w_JobState_RUNNING else if p = 2 then w_JobState_SUCCEEDED else if p = 3 then w_JobState_FAILED else if p = 4 then w_JobState_TIMEOUT else w_JobState_CANCELLED
def T12 (p : Int32) : Int32 := if p = 0 then 0 else if p = 1 then 0 else 1
def Q_rm12 (Z : State) (p1 : Int32) (w_JobState_QUEUED : Addr) (w_JobState_RUNNING : Addr) (w_JobState_SUCCEEDED : Addr) (w_JobState_FAILED : Addr) (w_JobState_TIMEOUT : Addr) (w_JobState_CANCELLED : Addr) (h0 : Heap) (n0 : Nat) (v : Option Value) (h : Heap) (L : List Loc) : Prop := (v = some (.ref (V12 p1 w_JobState_QUEUED w_JobState_RUNNING w_JobState_SUCCEEDED w_JobState_FAILED w_JobState_TIMEOUT w_JobState_CANCELLED))) ∧ (Fr n0 L) ∧ (h = h0) ∧ (Exa Z Z.heap (V12 p1 w_JobState_QUEUED w_JobState_RUNNING w_JobState_SUCCEEDED w_JobState_FAILED w_JobState_TIMEOUT w_JobState_CANCELLED) "com/example/done_once/doneonce/core/JobState") ∧ (Fld Z Z.heap (V12 p1 w_JobState_QUEUED w_JobState_RUNNING w_JobState_SUCCEEDED w_JobState_FAILED w_JobState_TIMEOUT w_JobState_CANCELLED) "com/example/done_once/doneonce/core/JobState" "terminal" "Z" (.int (T12 p1)))
theorem d12_0 : decode method_2_code 0 = .ok (.iload_n 0, 1) := by decide +kernel
theorem d12_1 : decode method_2_code 1 = .ok (.ifCond .ne 7, 3) := by decide +kernel
theorem d12_4 : decode method_2_code 4 = .ok (.getstatic 7, 3) := by decide +kernel
theorem d12_7 : decode method_2_code 7 = .ok (.areturn, 1) := by decide +kernel
theorem d12_8 : decode method_2_code 8 = .ok (.iload_n 0, 1) := by decide +kernel
theorem d12_9 : decode method_2_code 9 = .ok (.iconst 1, 1) := by decide +kernel
theorem d12_10 : decode method_2_code 10 = .ok (.if_icmp .ne 7, 3) := by decide +kernel
theorem d12_13 : decode method_2_code 13 = .ok (.getstatic 13, 3) := by decide +kernel
theorem d12_16 : decode method_2_code 16 = .ok (.areturn, 1) := by decide +kernel
theorem d12_17 : decode method_2_code 17 = .ok (.iload_n 0, 1) := by decide +kernel
theorem d12_18 : decode method_2_code 18 = .ok (.iconst 2, 1) := by decide +kernel
theorem d12_19 : decode method_2_code 19 = .ok (.if_icmp .ne 7, 3) := by decide +kernel
theorem d12_22 : decode method_2_code 22 = .ok (.getstatic 16, 3) := by decide +kernel
theorem d12_25 : decode method_2_code 25 = .ok (.areturn, 1) := by decide +kernel
theorem d12_26 : decode method_2_code 26 = .ok (.iload_n 0, 1) := by decide +kernel
theorem d12_27 : decode method_2_code 27 = .ok (.iconst 3, 1) := by decide +kernel
theorem d12_28 : decode method_2_code 28 = .ok (.if_icmp .ne 7, 3) := by decide +kernel
theorem d12_31 : decode method_2_code 31 = .ok (.getstatic 19, 3) := by decide +kernel
theorem d12_34 : decode method_2_code 34 = .ok (.areturn, 1) := by decide +kernel
theorem d12_35 : decode method_2_code 35 = .ok (.iload_n 0, 1) := by decide +kernel
theorem d12_36 : decode method_2_code 36 = .ok (.iconst 4, 1) := by decide +kernel
theorem d12_37 : decode method_2_code 37 = .ok (.if_icmp .ne 7, 3) := by decide +kernel
theorem d12_40 : decode method_2_code 40 = .ok (.getstatic 22, 3) := by decide +kernel
theorem d12_43 : decode method_2_code 43 = .ok (.areturn, 1) := by decide +kernel
theorem d12_44 : decode method_2_code 44 = .ok (.getstatic 25, 3) := by decide +kernel
theorem d12_47 : decode method_2_code 47 = .ok (.areturn, 1) := by decide +kernel
set_option maxRecDepth 65536 in
set_option maxHeartbeats 40000000 in
theorem rm12 (l : Launch) (Z : State) (a0 : Array Value) (hw : ∀ d ∈ tables_1, d.before a0 Z = true) (ws : List Jvm.Cond) (p1 : Int32) (w_JobState_QUEUED : Addr) (w_JobState_RUNNING : Addr) (w_JobState_SUCCEEDED : Addr) (w_JobState_FAILED : Addr) (w_JobState_TIMEOUT : Addr) (w_JobState_CANCELLED : Addr) (h0 : Heap) (n0 : Nat) (O0 : Old Z n0 h0) (S_JobState_QUEUED : Sta Z Z.heap "com/example/done_once/doneonce/core/JobState" "QUEUED" "Lcom/example/done_once/doneonce/core/JobState;" (.ref w_JobState_QUEUED)) (S_JobState_RUNNING : Sta Z Z.heap "com/example/done_once/doneonce/core/JobState" "RUNNING" "Lcom/example/done_once/doneonce/core/JobState;" (.ref w_JobState_RUNNING)) (S_JobState_SUCCEEDED : Sta Z Z.heap "com/example/done_once/doneonce/core/JobState" "SUCCEEDED" "Lcom/example/done_once/doneonce/core/JobState;" (.ref w_JobState_SUCCEEDED)) (S_JobState_FAILED : Sta Z Z.heap "com/example/done_once/doneonce/core/JobState" "FAILED" "Lcom/example/done_once/doneonce/core/JobState;" (.ref w_JobState_FAILED)) (S_JobState_TIMEOUT : Sta Z Z.heap "com/example/done_once/doneonce/core/JobState" "TIMEOUT" "Lcom/example/done_once/doneonce/core/JobState;" (.ref w_JobState_TIMEOUT)) (S_JobState_CANCELLED : Sta Z Z.heap "com/example/done_once/doneonce/core/JobState" "CANCELLED" "Lcom/example/done_once/doneonce/core/JobState;" (.ref w_JobState_CANCELLED)) (E_w_JobState_QUEUED : Exa Z Z.heap w_JobState_QUEUED "com/example/done_once/doneonce/core/JobState") (E_w_JobState_RUNNING : Exa Z Z.heap w_JobState_RUNNING "com/example/done_once/doneonce/core/JobState") (E_w_JobState_SUCCEEDED : Exa Z Z.heap w_JobState_SUCCEEDED "com/example/done_once/doneonce/core/JobState") (E_w_JobState_FAILED : Exa Z Z.heap w_JobState_FAILED "com/example/done_once/doneonce/core/JobState") (E_w_JobState_TIMEOUT : Exa Z Z.heap w_JobState_TIMEOUT "com/example/done_once/doneonce/core/JobState") (E_w_JobState_CANCELLED : Exa Z Z.heap w_JobState_CANCELLED "com/example/done_once/doneonce/core/JobState") (F_w_JobState_QUEUED_terminal : Fld Z Z.heap w_JobState_QUEUED "com/example/done_once/doneonce/core/JobState" "terminal" "Z" (.int (0 : Int32))) (F_w_JobState_RUNNING_terminal : Fld Z Z.heap w_JobState_RUNNING "com/example/done_once/doneonce/core/JobState" "terminal" "Z" (.int (0 : Int32))) (F_w_JobState_SUCCEEDED_terminal : Fld Z Z.heap w_JobState_SUCCEEDED "com/example/done_once/doneonce/core/JobState" "terminal" "Z" (.int (1 : Int32))) (F_w_JobState_FAILED_terminal : Fld Z Z.heap w_JobState_FAILED "com/example/done_once/doneonce/core/JobState" "terminal" "Z" (.int (1 : Int32))) (F_w_JobState_TIMEOUT_terminal : Fld Z Z.heap w_JobState_TIMEOUT "com/example/done_once/doneonce/core/JobState" "terminal" "Z" (.int (1 : Int32))) (F_w_JobState_CANCELLED_terminal : Fld Z Z.heap w_JobState_CANCELLED "com/example/done_once/doneonce/core/JobState" "terminal" "Z" (.int (1 : Int32))) :
    MetFree l (⟨"com/example/done_once/doneonce/store/RequestEndedPinLaw", "jobState", "(I)Lcom/example/done_once/doneonce/core/JobState;"⟩ : MethodName) (head1 (Jvm.Cond.code (⟨"com/example/done_once/doneonce/store/RequestEndedPinLaw", "jobState", "(I)Lcom/example/done_once/doneonce/core/JobState;"⟩ : MethodName) method_2_code 1 (some (.object "com/example/done_once/doneonce/core/JobState")) :: ws) ({ frames := 0, cells := 0, slots := 0, locals := 0 } : Room)) (fun a U => a = #[(.int p1)] ∧ Z.Warmed39 U.vm ∧ U.heap = h0) (fun _ _ _ _ _ => True) (fun _ U o U' => ∃ v L, o = .returned v ∧ Q_rm12 Z p1 w_JobState_QUEUED w_JobState_RUNNING w_JobState_SUCCEEDED w_JobState_FAILED w_JobState_TIMEOUT w_JobState_CANCELLED h0 n0 v U'.heap L ∧ FrameEnd U o U' L ({ frames := 0, cells := 0, slots := 0, locals := 0 } : Room).cells ({ frames := 0, cells := 0, slots := 0, locals := 0 } : Room).slots) := by
  refine MetFree.of_bodySF (plainFor_of_name pn_0) hisR ?_
  intro p e s m args below meth c s₁ Bd hml0 hP hK
  obtain ⟨rfl, hZ, hh⟩ := hP
  have hx := Bd.exec
  have hby := Bd.bytes
  have hml : c.maxLocals = 1 := hml0
  have hown : s.vm.findClass "com/example/done_once/doneonce/store/RequestEndedPinLaw" = some m.cls := findClass_of_methodNamed Bd.named
  have hnm := (name_of_methodNamed Bd.named Bd.method).1
  have X0 : Stand p l e ({ frames := 0, cells := 0, slots := 0, locals := 0 } : Room) s m #[(.int p1)] below meth c s₁ [] 0 0 := Stand.of_body Bd
  have e0 : s₁.heap = h0 := by rw [← hh, Bd.state]; rfl
  have N0 := Fr.nil n0
  have Z0 : n0 ≤ h0.size := old_le O0
  have pre0 : ∀ t, Steps p.tables e below (s₁.setTop (mkF m 0 #[.val (.int p1)] [])) t → Steps p.tables e below (s₁.setTop (entryFrame m #[(.int p1)] 1)) t := fun t k => castTop (ef_rm12 m p1) k
  have S102 : ∀ t, Steps p.tables e below (s₁.setTop (mkF m 1 #[.val (.int p1)] [(.int p1)])) t → Steps p.tables e below (s₁.setTop (entryFrame m #[(.int p1)] 1)) t := fun t k => by
    refine pre0 t ?_
    show Steps p.tables e below (s₁.setTop (mkF m 0 #[.val (.int p1)] [])) _
    refine XS.iloadN X0.here hx rfl (hb hby d12_0) rfl ?_
    exact k
  by_cases hc101 : p1 = (0 : Int32)
  · have c103 : Sta Z h0 "com/example/done_once/doneonce/core/JobState" "QUEUED" "Lcom/example/done_once/doneonce/core/JobState;" (.ref w_JobState_QUEUED) := Sta.ext (O0).2 S_JobState_QUEUED
    obtain ⟨T104, X104, e104, st104⟩ := getS2 X0 hx hZ hown (host := "") (Or.inl (hwk hw 184 rfl)) Via.refl e0 c103 (g := (mkF m 4 #[.val (.int p1)] [])) rfl (hb hby d12_4)
    obtain ⟨fs, hr, hrun, hended, hW, hsame⟩ := X104.leave (v := some (.ref w_JobState_QUEUED)) (fun h => by rw [Bd.returns] at h; cases h)
    refine ⟨_, _, S102 _ ?_, hrun, hended, _, _, rfl, ?_, ⟨_, rfl⟩, hW, hsame.mono (by decide) (by decide)⟩
    · show Steps p.tables e below (s₁.setTop (mkF m 1 #[.val (.int p1)] [(.int p1)])) _
      refine XS.ifNo X0.here hx rfl (hb hby d12_1) rfl ((if0 _ _).trans (teq hc101).2) ?_
      show Steps p.tables e below (s₁.setTop (mkF m 4 #[.val (.int p1)] [])) _
      refine st104 _ ?_
      show Steps p.tables e below (T104.setTop (mkF m 7 #[.val (.int p1)] [(.ref w_JobState_QUEUED)])) _
      exact Jvm.RoadKit.retOut X104 hx Bd.returns rfl (Or.inr (Or.inr (Or.inr (Or.inr ⟨rfl, rfl, rfl⟩)))) (hb hby d12_7) hr
    · show Q_rm12 Z p1 w_JobState_QUEUED w_JobState_RUNNING w_JobState_SUCCEEDED w_JobState_FAILED w_JobState_TIMEOUT w_JobState_CANCELLED h0 n0 _ T104.heap _
      rw [e104]
      unfold Q_rm12
      exact ⟨by simp [V12, T12, hc101], N0, rfl, (by simpa [V12, hc101] using E_w_JobState_QUEUED), (by simpa [V12, T12, hc101] using F_w_JobState_QUEUED_terminal)⟩
  · have S106 : ∀ t, Steps p.tables e below (s₁.setTop (mkF m 10 #[.val (.int p1)] [(.int (1 : Int32)), (.int p1)])) t → Steps p.tables e below (s₁.setTop (entryFrame m #[(.int p1)] 1)) t := fun t k => by
      refine S102 t ?_
      show Steps p.tables e below (s₁.setTop (mkF m 1 #[.val (.int p1)] [(.int p1)])) _
      refine XS.ifYes X0.here hx rfl (pc0 := 1) (pc' := 8) rfl (hb hby d12_1) rfl ((if0 _ _).trans (feq hc101).2) (by decide) (by decide) ?_
      show Steps p.tables e below (s₁.setTop (mkF m 8 #[.val (.int p1)] [])) _
      refine XS.iloadN X0.here hx rfl (hb hby d12_8) rfl ?_
      show Steps p.tables e below (s₁.setTop (mkF m 9 #[.val (.int p1)] [(.int p1)])) _
      refine XS.iconst X0.here hx rfl (hb hby d12_9) ?_
      exact k
    by_cases hc105 : p1 = (1 : Int32)
    · have c107 : Sta Z h0 "com/example/done_once/doneonce/core/JobState" "RUNNING" "Lcom/example/done_once/doneonce/core/JobState;" (.ref w_JobState_RUNNING) := Sta.ext (O0).2 S_JobState_RUNNING
      obtain ⟨T108, X108, e108, st108⟩ := getS2 X0 hx hZ hown (host := "") (Or.inl (hwk hw 180 rfl)) Via.refl e0 c107 (g := (mkF m 13 #[.val (.int p1)] [])) rfl (hb hby d12_13)
      obtain ⟨fs, hr, hrun, hended, hW, hsame⟩ := X108.leave (v := some (.ref w_JobState_RUNNING)) (fun h => by rw [Bd.returns] at h; cases h)
      refine ⟨_, _, S106 _ ?_, hrun, hended, _, _, rfl, ?_, ⟨_, rfl⟩, hW, hsame.mono (by decide) (by decide)⟩
      · show Steps p.tables e below (s₁.setTop (mkF m 10 #[.val (.int p1)] [(.int (1 : Int32)), (.int p1)])) _
        refine XS.icmpNo X0.here hx rfl (hb hby d12_10) rfl (teq hc105).2 ?_
        show Steps p.tables e below (s₁.setTop (mkF m 13 #[.val (.int p1)] [])) _
        refine st108 _ ?_
        show Steps p.tables e below (T108.setTop (mkF m 16 #[.val (.int p1)] [(.ref w_JobState_RUNNING)])) _
        exact Jvm.RoadKit.retOut X108 hx Bd.returns rfl (Or.inr (Or.inr (Or.inr (Or.inr ⟨rfl, rfl, rfl⟩)))) (hb hby d12_16) hr
      · show Q_rm12 Z p1 w_JobState_QUEUED w_JobState_RUNNING w_JobState_SUCCEEDED w_JobState_FAILED w_JobState_TIMEOUT w_JobState_CANCELLED h0 n0 _ T108.heap _
        rw [e108]
        unfold Q_rm12
        exact ⟨by simp [V12, T12, hc101, hc105], N0, rfl, (by simpa [V12, hc101, hc105] using E_w_JobState_RUNNING), (by simpa [V12, T12, hc101, hc105] using F_w_JobState_RUNNING_terminal)⟩
    · have S110 : ∀ t, Steps p.tables e below (s₁.setTop (mkF m 19 #[.val (.int p1)] [(.int (2 : Int32)), (.int p1)])) t → Steps p.tables e below (s₁.setTop (entryFrame m #[(.int p1)] 1)) t := fun t k => by
        refine S106 t ?_
        show Steps p.tables e below (s₁.setTop (mkF m 10 #[.val (.int p1)] [(.int (1 : Int32)), (.int p1)])) _
        refine XS.icmpYes X0.here hx rfl (pc0 := 10) (pc' := 17) rfl (hb hby d12_10) rfl (feq hc105).2 (by decide) (by decide) ?_
        show Steps p.tables e below (s₁.setTop (mkF m 17 #[.val (.int p1)] [])) _
        refine XS.iloadN X0.here hx rfl (hb hby d12_17) rfl ?_
        show Steps p.tables e below (s₁.setTop (mkF m 18 #[.val (.int p1)] [(.int p1)])) _
        refine XS.iconst X0.here hx rfl (hb hby d12_18) ?_
        exact k
      by_cases hc109 : p1 = (2 : Int32)
      · have c111 : Sta Z h0 "com/example/done_once/doneonce/core/JobState" "SUCCEEDED" "Lcom/example/done_once/doneonce/core/JobState;" (.ref w_JobState_SUCCEEDED) := Sta.ext (O0).2 S_JobState_SUCCEEDED
        obtain ⟨T112, X112, e112, st112⟩ := getS2 X0 hx hZ hown (host := "") (Or.inl (hwk hw 105 rfl)) Via.refl e0 c111 (g := (mkF m 22 #[.val (.int p1)] [])) rfl (hb hby d12_22)
        obtain ⟨fs, hr, hrun, hended, hW, hsame⟩ := X112.leave (v := some (.ref w_JobState_SUCCEEDED)) (fun h => by rw [Bd.returns] at h; cases h)
        refine ⟨_, _, S110 _ ?_, hrun, hended, _, _, rfl, ?_, ⟨_, rfl⟩, hW, hsame.mono (by decide) (by decide)⟩
        · show Steps p.tables e below (s₁.setTop (mkF m 19 #[.val (.int p1)] [(.int (2 : Int32)), (.int p1)])) _
          refine XS.icmpNo X0.here hx rfl (hb hby d12_19) rfl (teq hc109).2 ?_
          show Steps p.tables e below (s₁.setTop (mkF m 22 #[.val (.int p1)] [])) _
          refine st112 _ ?_
          show Steps p.tables e below (T112.setTop (mkF m 25 #[.val (.int p1)] [(.ref w_JobState_SUCCEEDED)])) _
          exact Jvm.RoadKit.retOut X112 hx Bd.returns rfl (Or.inr (Or.inr (Or.inr (Or.inr ⟨rfl, rfl, rfl⟩)))) (hb hby d12_25) hr
        · show Q_rm12 Z p1 w_JobState_QUEUED w_JobState_RUNNING w_JobState_SUCCEEDED w_JobState_FAILED w_JobState_TIMEOUT w_JobState_CANCELLED h0 n0 _ T112.heap _
          rw [e112]
          unfold Q_rm12
          exact ⟨by simp [V12, T12, hc101, hc105, hc109], N0, rfl, (by simpa [V12, hc101, hc105, hc109] using E_w_JobState_SUCCEEDED), (by simpa [V12, T12, hc101, hc105, hc109] using F_w_JobState_SUCCEEDED_terminal)⟩
      · have S114 : ∀ t, Steps p.tables e below (s₁.setTop (mkF m 28 #[.val (.int p1)] [(.int (3 : Int32)), (.int p1)])) t → Steps p.tables e below (s₁.setTop (entryFrame m #[(.int p1)] 1)) t := fun t k => by
          refine S110 t ?_
          show Steps p.tables e below (s₁.setTop (mkF m 19 #[.val (.int p1)] [(.int (2 : Int32)), (.int p1)])) _
          refine XS.icmpYes X0.here hx rfl (pc0 := 19) (pc' := 26) rfl (hb hby d12_19) rfl (feq hc109).2 (by decide) (by decide) ?_
          show Steps p.tables e below (s₁.setTop (mkF m 26 #[.val (.int p1)] [])) _
          refine XS.iloadN X0.here hx rfl (hb hby d12_26) rfl ?_
          show Steps p.tables e below (s₁.setTop (mkF m 27 #[.val (.int p1)] [(.int p1)])) _
          refine XS.iconst X0.here hx rfl (hb hby d12_27) ?_
          exact k
        by_cases hc113 : p1 = (3 : Int32)
        · have c115 : Sta Z h0 "com/example/done_once/doneonce/core/JobState" "FAILED" "Lcom/example/done_once/doneonce/core/JobState;" (.ref w_JobState_FAILED) := Sta.ext (O0).2 S_JobState_FAILED
          obtain ⟨T116, X116, e116, st116⟩ := getS2 X0 hx hZ hown (host := "") (Or.inl (hwk hw 186 rfl)) Via.refl e0 c115 (g := (mkF m 31 #[.val (.int p1)] [])) rfl (hb hby d12_31)
          obtain ⟨fs, hr, hrun, hended, hW, hsame⟩ := X116.leave (v := some (.ref w_JobState_FAILED)) (fun h => by rw [Bd.returns] at h; cases h)
          refine ⟨_, _, S114 _ ?_, hrun, hended, _, _, rfl, ?_, ⟨_, rfl⟩, hW, hsame.mono (by decide) (by decide)⟩
          · show Steps p.tables e below (s₁.setTop (mkF m 28 #[.val (.int p1)] [(.int (3 : Int32)), (.int p1)])) _
            refine XS.icmpNo X0.here hx rfl (hb hby d12_28) rfl (teq hc113).2 ?_
            show Steps p.tables e below (s₁.setTop (mkF m 31 #[.val (.int p1)] [])) _
            refine st116 _ ?_
            show Steps p.tables e below (T116.setTop (mkF m 34 #[.val (.int p1)] [(.ref w_JobState_FAILED)])) _
            exact Jvm.RoadKit.retOut X116 hx Bd.returns rfl (Or.inr (Or.inr (Or.inr (Or.inr ⟨rfl, rfl, rfl⟩)))) (hb hby d12_34) hr
          · show Q_rm12 Z p1 w_JobState_QUEUED w_JobState_RUNNING w_JobState_SUCCEEDED w_JobState_FAILED w_JobState_TIMEOUT w_JobState_CANCELLED h0 n0 _ T116.heap _
            rw [e116]
            unfold Q_rm12
            exact ⟨by simp [V12, T12, hc101, hc105, hc109, hc113], N0, rfl, (by simpa [V12, hc101, hc105, hc109, hc113] using E_w_JobState_FAILED), (by simpa [V12, T12, hc101, hc105, hc109, hc113] using F_w_JobState_FAILED_terminal)⟩
        · have S118 : ∀ t, Steps p.tables e below (s₁.setTop (mkF m 37 #[.val (.int p1)] [(.int (4 : Int32)), (.int p1)])) t → Steps p.tables e below (s₁.setTop (entryFrame m #[(.int p1)] 1)) t := fun t k => by
            refine S114 t ?_
            show Steps p.tables e below (s₁.setTop (mkF m 28 #[.val (.int p1)] [(.int (3 : Int32)), (.int p1)])) _
            refine XS.icmpYes X0.here hx rfl (pc0 := 28) (pc' := 35) rfl (hb hby d12_28) rfl (feq hc113).2 (by decide) (by decide) ?_
            show Steps p.tables e below (s₁.setTop (mkF m 35 #[.val (.int p1)] [])) _
            refine XS.iloadN X0.here hx rfl (hb hby d12_35) rfl ?_
            show Steps p.tables e below (s₁.setTop (mkF m 36 #[.val (.int p1)] [(.int p1)])) _
            refine XS.iconst X0.here hx rfl (hb hby d12_36) ?_
            exact k
          by_cases hc117 : p1 = (4 : Int32)
          · have c119 : Sta Z h0 "com/example/done_once/doneonce/core/JobState" "TIMEOUT" "Lcom/example/done_once/doneonce/core/JobState;" (.ref w_JobState_TIMEOUT) := Sta.ext (O0).2 S_JobState_TIMEOUT
            obtain ⟨T120, X120, e120, st120⟩ := getS2 X0 hx hZ hown (host := "") (Or.inl (hwk hw 188 rfl)) Via.refl e0 c119 (g := (mkF m 40 #[.val (.int p1)] [])) rfl (hb hby d12_40)
            obtain ⟨fs, hr, hrun, hended, hW, hsame⟩ := X120.leave (v := some (.ref w_JobState_TIMEOUT)) (fun h => by rw [Bd.returns] at h; cases h)
            refine ⟨_, _, S118 _ ?_, hrun, hended, _, _, rfl, ?_, ⟨_, rfl⟩, hW, hsame.mono (by decide) (by decide)⟩
            · show Steps p.tables e below (s₁.setTop (mkF m 37 #[.val (.int p1)] [(.int (4 : Int32)), (.int p1)])) _
              refine XS.icmpNo X0.here hx rfl (hb hby d12_37) rfl (teq hc117).2 ?_
              show Steps p.tables e below (s₁.setTop (mkF m 40 #[.val (.int p1)] [])) _
              refine st120 _ ?_
              show Steps p.tables e below (T120.setTop (mkF m 43 #[.val (.int p1)] [(.ref w_JobState_TIMEOUT)])) _
              exact Jvm.RoadKit.retOut X120 hx Bd.returns rfl (Or.inr (Or.inr (Or.inr (Or.inr ⟨rfl, rfl, rfl⟩)))) (hb hby d12_43) hr
            · show Q_rm12 Z p1 w_JobState_QUEUED w_JobState_RUNNING w_JobState_SUCCEEDED w_JobState_FAILED w_JobState_TIMEOUT w_JobState_CANCELLED h0 n0 _ T120.heap _
              rw [e120]
              unfold Q_rm12
              exact ⟨by simp [V12, T12, hc101, hc105, hc109, hc113, hc117], N0, rfl, (by simpa [V12, hc101, hc105, hc109, hc113, hc117] using E_w_JobState_TIMEOUT), (by simpa [V12, T12, hc101, hc105, hc109, hc113, hc117] using F_w_JobState_TIMEOUT_terminal)⟩
          · have c121 : Sta Z h0 "com/example/done_once/doneonce/core/JobState" "CANCELLED" "Lcom/example/done_once/doneonce/core/JobState;" (.ref w_JobState_CANCELLED) := Sta.ext (O0).2 S_JobState_CANCELLED
            obtain ⟨T122, X122, e122, st122⟩ := getS2 X0 hx hZ hown (host := "") (Or.inl (hwk hw 190 rfl)) Via.refl e0 c121 (g := (mkF m 44 #[.val (.int p1)] [])) rfl (hb hby d12_44)
            obtain ⟨fs, hr, hrun, hended, hW, hsame⟩ := X122.leave (v := some (.ref w_JobState_CANCELLED)) (fun h => by rw [Bd.returns] at h; cases h)
            refine ⟨_, _, S118 _ ?_, hrun, hended, _, _, rfl, ?_, ⟨_, rfl⟩, hW, hsame.mono (by decide) (by decide)⟩
            · show Steps p.tables e below (s₁.setTop (mkF m 37 #[.val (.int p1)] [(.int (4 : Int32)), (.int p1)])) _
              refine XS.icmpYes X0.here hx rfl (pc0 := 37) (pc' := 44) rfl (hb hby d12_37) rfl (feq hc117).2 (by decide) (by decide) ?_
              show Steps p.tables e below (s₁.setTop (mkF m 44 #[.val (.int p1)] [])) _
              refine st122 _ ?_
              show Steps p.tables e below (T122.setTop (mkF m 47 #[.val (.int p1)] [(.ref w_JobState_CANCELLED)])) _
              exact Jvm.RoadKit.retOut X122 hx Bd.returns rfl (Or.inr (Or.inr (Or.inr (Or.inr ⟨rfl, rfl, rfl⟩)))) (hb hby d12_47) hr
            · show Q_rm12 Z p1 w_JobState_QUEUED w_JobState_RUNNING w_JobState_SUCCEEDED w_JobState_FAILED w_JobState_TIMEOUT w_JobState_CANCELLED h0 n0 _ T122.heap _
              rw [e122]
              unfold Q_rm12
              exact ⟨by simp [V12, T12, hc101, hc105, hc109, hc113, hc117], N0, rfl, (by simpa [V12, hc101, hc105, hc109, hc113, hc117] using E_w_JobState_CANCELLED), (by simpa [V12, T12, hc101, hc105, hc109, hc113, hc117] using F_w_JobState_CANCELLED_terminal)⟩
theorem ef_rm13 (m : MethodId) (x0 : Addr) (x1 : Addr) (x2 : Addr) (x3 : Value) (hr3 : x3.isRef = true) (x4 : Int32) (x5 : Int32) : entryFrame m #[(.ref x0), (.ref x1), (.ref x2), x3, (.int x4), (.int x5)] 6 = mkF m 0 #[.val (.ref x0), .val (.ref x1), .val (.ref x2), .val x3, .val (.int x4), .val (.int x5)] [] := by rcases ref_cases hr3 with rfl | ⟨y3, rfl⟩ <;> first | (simp [entryFrame, mkF, argsToLocals, Value.category]; done) | rfl
def Q_rm13 (Z : State) (a1 : Addr) (s1 : Addr) (x2 : Addr) (v3 : Value) (p4 : Int32) (p5 : Int32) (h0 : Heap) (n0 : Nat) (v : Option Value) (h : Heap) (L : List Loc) : Prop := (v = none) ∧ (Fr n0 L) ∧ (Keep h0 h [a1]) ∧ (Exa Z h a1 "com/example/done_once/doneonce/core/JobStatus") ∧ (Fld Z h a1 "com/example/done_once/doneonce/core/JobStatus" "state" "Lcom/example/done_once/doneonce/core/JobState;" (.ref s1))
theorem d13_0 : decode prog_12_method_1_code 0 = .ok (.aload_n 0, 1) := by decide +kernel
theorem d13_1 : decode prog_12_method_1_code 1 = .ok (.invokespecial 1, 3) := by decide +kernel
theorem d13_4 : decode prog_12_method_1_code 4 = .ok (.aload_n 1, 1) := by decide +kernel
theorem d13_5 : decode prog_12_method_1_code 5 = .ok (.ldc 7, 2) := by decide +kernel
theorem d13_7 : decode prog_12_method_1_code 7 = .ok (.invokestatic 9, 3) := by decide +kernel
theorem d13_10 : decode prog_12_method_1_code 10 = .ok (.pop, 1) := by decide +kernel
theorem d13_11 : decode prog_12_method_1_code 11 = .ok (.aload_n 2, 1) := by decide +kernel
theorem d13_12 : decode prog_12_method_1_code 12 = .ok (.ldc 15, 2) := by decide +kernel
theorem d13_14 : decode prog_12_method_1_code 14 = .ok (.invokestatic 9, 3) := by decide +kernel
theorem d13_17 : decode prog_12_method_1_code 17 = .ok (.pop, 1) := by decide +kernel
theorem d13_18 : decode prog_12_method_1_code 18 = .ok (.aload_n 0, 1) := by decide +kernel
theorem d13_19 : decode prog_12_method_1_code 19 = .ok (.aload_n 1, 1) := by decide +kernel
theorem d13_20 : decode prog_12_method_1_code 20 = .ok (.putfield 17, 3) := by decide +kernel
theorem d13_23 : decode prog_12_method_1_code 23 = .ok (.aload_n 0, 1) := by decide +kernel
theorem d13_24 : decode prog_12_method_1_code 24 = .ok (.aload_n 2, 1) := by decide +kernel
theorem d13_25 : decode prog_12_method_1_code 25 = .ok (.putfield 23, 3) := by decide +kernel
theorem d13_28 : decode prog_12_method_1_code 28 = .ok (.aload_n 0, 1) := by decide +kernel
theorem d13_29 : decode prog_12_method_1_code 29 = .ok (.aload_n 3, 1) := by decide +kernel
theorem d13_30 : decode prog_12_method_1_code 30 = .ok (.putfield 27, 3) := by decide +kernel
theorem d13_33 : decode prog_12_method_1_code 33 = .ok (.aload_n 0, 1) := by decide +kernel
theorem d13_34 : decode prog_12_method_1_code 34 = .ok (.iload 4, 2) := by decide +kernel
theorem d13_36 : decode prog_12_method_1_code 36 = .ok (.putfield 31, 3) := by decide +kernel
theorem d13_39 : decode prog_12_method_1_code 39 = .ok (.aload_n 0, 1) := by decide +kernel
theorem d13_40 : decode prog_12_method_1_code 40 = .ok (.iload 5, 2) := by decide +kernel
theorem d13_42 : decode prog_12_method_1_code 42 = .ok (.putfield 35, 3) := by decide +kernel
theorem d13_45 : decode prog_12_method_1_code 45 = .ok (.return_, 1) := by decide +kernel
set_option maxRecDepth 65536 in
set_option maxHeartbeats 40000000 in
theorem rm13 (l : Launch) (Z : State) (a0 : Array Value) (hw : ∀ d ∈ tables_1, d.before a0 Z = true) (ws : List Jvm.Cond) (a1 : Addr) (s1 : Addr) (x2 : Addr) (v3 : Value) (p4 : Int32) (p5 : Int32) (h0 : Heap) (n0 : Nat) (O0 : Old Z n0 h0) (E1 : Exa Z h0 a1 "com/example/done_once/doneonce/core/JobStatus") (g1 : n0 ≤ a1) (D0 : Fld Z h0 a1 "com/example/done_once/doneonce/core/JobStatus" "state" "Lcom/example/done_once/doneonce/core/JobState;" .null) (D1 : Fld Z h0 a1 "com/example/done_once/doneonce/core/JobStatus" "execution" "Lcom/example/done_once/doneonce/core/Execution;" .null) (D2 : Fld Z h0 a1 "com/example/done_once/doneonce/core/JobStatus" "executorId" "Ljava/lang/String;" .null) (D3 : Fld Z h0 a1 "com/example/done_once/doneonce/core/JobStatus" "cancelRequested" "Z" (.int (0 : Int32))) (D4 : Fld Z h0 a1 "com/example/done_once/doneonce/core/JobStatus" "supportsCancel" "Z" (.int (0 : Int32))) (hv3 : v3.isRef = true) :
    MetFree l (⟨"com/example/done_once/doneonce/core/JobStatus", "<init>", "(Lcom/example/done_once/doneonce/core/JobState;Lcom/example/done_once/doneonce/core/Execution;Ljava/lang/String;ZZ)V"⟩ : MethodName) (head1 (Jvm.Cond.code (⟨"com/example/done_once/doneonce/core/JobStatus", "<init>", "(Lcom/example/done_once/doneonce/core/JobState;Lcom/example/done_once/doneonce/core/Execution;Ljava/lang/String;ZZ)V"⟩ : MethodName) prog_12_method_1_code 6 none :: ws) ({ frames := 2, cells := 4, slots := 200, locals := 24 } : Room)) (fun a U => a = #[(.ref a1), (.ref s1), (.ref x2), v3, (.int p4), (.int p5)] ∧ Z.Warmed39 U.vm ∧ U.heap = h0) (fun _ _ _ _ _ => True) (fun _ U o U' => ∃ v L, o = .returned v ∧ Q_rm13 Z a1 s1 x2 v3 p4 p5 h0 n0 v U'.heap L ∧ ReturnedEndW U o U' L ({ frames := 2, cells := 4, slots := 200, locals := 24 } : Room).cells ({ frames := 2, cells := 4, slots := 200, locals := 24 } : Room).slots) := by
  refine MetFree.of_bodySF (plainFor_of_name pn_9) hisR ?_
  intro p e s m args below meth c s₁ Bd hml0 hP hK
  obtain ⟨rfl, hZ, hh⟩ := hP
  have hx := Bd.exec
  have hby := Bd.bytes
  have hml : c.maxLocals = 6 := hml0
  have hown : s.vm.findClass "com/example/done_once/doneonce/core/JobStatus" = some m.cls := findClass_of_methodNamed Bd.named
  have hnm := (name_of_methodNamed Bd.named Bd.method).1
  have hS0 : s.Since s.vm h0.size := (State.WarmedH.refl s).since _
  have hstr : ∀ a ∈ Bundle.stringAtoms, a.before a0 Z = true := own_str hw
  have X0 : Stand p l e ({ frames := 2, cells := 4, slots := 200, locals := 24 } : Room) (s.setVm s.vm) m #[(.ref a1), (.ref s1), (.ref x2), v3, (.int p4), (.int p5)] below meth c s₁ [] 0 0 := Stand.of_body Bd
  have e0 : s₁.heap = h0 := by rw [← hh, Bd.state]; rfl
  have N0 := Fr.nil n0
  have Z0 : n0 ≤ h0.size := old_le O0
  have pre0 : ∀ t, Steps p.tables e below (s₁.setTop (mkF m 0 #[.val (.ref a1), .val (.ref s1), .val (.ref x2), .val v3, .val (.int p4), .val (.int p5)] [])) t → Steps p.tables e below (s₁.setTop (entryFrame m #[(.ref a1), (.ref s1), (.ref x2), v3, (.int p4), (.int p5)] 6)) t := fun t k => castTop (ef_rm13 m a1 s1 x2 v3 hv3 p4 p5) k
  obtain ⟨_, _, ⟨T101, L101, k101, n101⟩, -, X101, ⟨Lc101, hQ101, l101, y101, z101⟩, st101⟩ := X0.specialBack hx (y := (⟨"java/lang/Record", "<init>", "()V"⟩ : MethodName)) rfl hown (mvT hZ (hwk hw 111 rfl)) (mvT hZ (hwk hw 51 rfl)) (mvT hZ (hwk hw 54 rfl)) (by decide) (backOf (W := 0) (rm8 l Z a0 hw [] a1 h0 n0 O0 ) hZ (hwk hw 54 rfl) (hwk hw 53 rfl) (by decide) (by decide)) (g := (mkF m 1 #[.val (.ref a1), .val (.ref s1), .val (.ref x2), .val v3, .val (.int p4), .val (.int p5)] [(.ref a1)])) rfl (by rw [hml]; rfl) (Steps.refl _) (a := a1) (argsL := []) (rest := []) (lenOf pd_3 rfl) rfl (by show 2 * 0 + _ ≤ _; exact Nat.le_of_eq rfl) (hb hby d13_1) (fun _ _ => ⟨rfl, e0, (by decide : 0 + 0 ≤ _), (by decide : 0 + 0 ≤ _)⟩)
  dsimp only [Pt.U, Pt.locs, Pt.cells, Pt.slots] at X101 l101 y101 z101 st101 hQ101
  subst l101 y101 z101
  unfold Q_rm8 at hQ101
  obtain ⟨rfl, N101q, e101⟩ := hQ101
  have N101 := Fr.app N0 N101q
  obtain ⟨a102, T102, h102, k102, X102, e102, E102, hS102, hk102, hZ102, hown102, st102⟩ := ldcS X101 hx hZ hown (hwk hw 112 rfl) hstr e101 hS0 (Nat.le_refl _) (g := (mkF m 5 #[.val (.ref a1), .val (.ref s1), .val (.ref x2), .val v3, .val (.int p4), .val (.int p5)] [(.ref s1)])) rfl (hb hby d13_5) (n := 88) (by decide) (by decide) (by decide) (by decide)
  have O103 : Old Z n0 h102 := Old.ext O0 E102
  obtain ⟨_, _, ⟨T104, L104, k104, n104⟩, -, X104, ⟨Lc104, hQ104, l104, y104, z104⟩, st104⟩ := Jvm.LawKit.callS X102 hx (y := (⟨"java/util/Objects", "requireNonNull", "(Ljava/lang/Object;Ljava/lang/String;)Ljava/lang/Object;"⟩ : MethodName)) hown102 (mvT hZ102 (hwk hw 113 rfl)) (mvT hZ102 (hwk hw 58 rfl)) (mvT hZ102 (hwk hw 59 rfl)) (mvT hZ102 (hwk hw 60 rfl)) (by decide) (backOf (W := 0) (rm9 l Z a0 hw [] s1 a102 h102 n0 O103 ) hZ102 (hwk hw 60 rfl) (hwk hw 59 rfl) (by decide) (by decide)) (g := (mkF m 7 #[.val (.ref a1), .val (.ref s1), .val (.ref x2), .val v3, .val (.int p4), .val (.int p5)] [(.ref a102), (.ref s1)])) rfl (by rw [hml]; rfl) (argsL := [(.ref s1), (.ref a102)]) (rest := []) (lenOf pd_4 rfl) rfl (by show 2 * 0 + _ ≤ _; exact Nat.le_of_eq rfl) (hb hby d13_7) (fun _ _ => ⟨rfl, e102, (by decide : 2 + 0 ≤ _), (by decide : 92 + 0 ≤ _)⟩)
  dsimp only [Pt.U, Pt.locs, Pt.cells, Pt.slots] at X104 l104 y104 z104 st104 hQ104
  subst l104 y104 z104
  unfold Q_rm9 at hQ104
  obtain ⟨rfl, N104q, e104⟩ := hQ104
  have N104 := Fr.app N101 N104q
  obtain ⟨a105, T105, h105, k105, X105, e105, E105, hS105, hk105, hZ105, hown105, st105⟩ := ldcS X104 hx hZ102 hown102 (hwk hw 114 rfl) hstr e104 hS102 hk102 (g := (mkF m 12 #[.val (.ref a1), .val (.ref s1), .val (.ref x2), .val v3, .val (.int p4), .val (.int p5)] [(.ref x2)])) rfl (hb hby d13_12) (n := 104) (by decide) (by decide) (by decide) (by decide)
  have O106 : Old Z n0 h105 := Old.ext O103 E105
  obtain ⟨_, _, ⟨T107, L107, k107, n107⟩, -, X107, ⟨Lc107, hQ107, l107, y107, z107⟩, st107⟩ := Jvm.LawKit.callS X105 hx (y := (⟨"java/util/Objects", "requireNonNull", "(Ljava/lang/Object;Ljava/lang/String;)Ljava/lang/Object;"⟩ : MethodName)) hown105 (mvT hZ105 (hwk hw 113 rfl)) (mvT hZ105 (hwk hw 58 rfl)) (mvT hZ105 (hwk hw 59 rfl)) (mvT hZ105 (hwk hw 60 rfl)) (by decide) (backOf (W := 0) (rm9 l Z a0 hw [] x2 a105 h105 n0 O106 ) hZ105 (hwk hw 60 rfl) (hwk hw 59 rfl) (by decide) (by decide)) (g := (mkF m 14 #[.val (.ref a1), .val (.ref s1), .val (.ref x2), .val v3, .val (.int p4), .val (.int p5)] [(.ref a105), (.ref x2)])) rfl (by rw [hml]; rfl) (argsL := [(.ref x2), (.ref a105)]) (rest := []) (lenOf pd_4 rfl) rfl (by show 2 * 0 + _ ≤ _; exact Nat.le_of_eq rfl) (hb hby d13_14) (fun _ _ => ⟨rfl, e105, (by decide : 4 + 0 ≤ _), (by decide : 200 + 0 ≤ _)⟩)
  dsimp only [Pt.U, Pt.locs, Pt.cells, Pt.slots] at X107 l107 y107 z107 st107 hQ107
  subst l107 y107 z107
  unfold Q_rm9 at hQ107
  obtain ⟨rfl, N107q, e107⟩ := hQ107
  have N107 := Fr.app N104 N107q
  have c108 : Exa Z h105 a1 "com/example/done_once/doneonce/core/JobStatus" := (Exa.ext E105 (Exa.ext E102 E1))
  have c109 : Fld Z h105 a1 "com/example/done_once/doneonce/core/JobStatus" "state" "Lcom/example/done_once/doneonce/core/JobState;" .null := (Fld.ext E105 (Fld.ext E102 D0))
  obtain ⟨T110, h110, X110, e110, W110, st110⟩ := putF X107 hx hZ105 hown105 (host := "") (Or.inl (hwk hw 115 rfl)) Via.refl e107 c109 c108 (Or.inr ⟨(hwk hw 116 rfl), rfl, hnm⟩) (hwk hw 100 rfl) (ty := (.object "com/example/done_once/doneonce/core/JobState")) (by decide) rfl rfl (g := (mkF m 20 #[.val (.ref a1), .val (.ref s1), .val (.ref x2), .val v3, .val (.int p4), .val (.int p5)] [(.ref s1), (.ref a1)])) rfl rfl (hb hby d13_20)
  have F110 : Fld Z h110 a1 "com/example/done_once/doneonce/core/JobStatus" "state" "Lcom/example/done_once/doneonce/core/JobState;" (.ref s1) := Fld.same W110 c109
  have N110 := Fr.snoc X110 N107 g1
  have c111 : Exa Z h110 a1 "com/example/done_once/doneonce/core/JobStatus" := (Exa.wr W110 c108)
  have c112 : Fld Z h110 a1 "com/example/done_once/doneonce/core/JobStatus" "execution" "Lcom/example/done_once/doneonce/core/Execution;" .null := (Fld.other W110 (Fld.ext E105 (Fld.ext E102 D1)) (Or.inr (slot_ne (Or.inr (hwk hw 118 rfl)) (Or.inr (hwk hw 116 rfl)) (by decide) (t := (.object "com/example/done_once/doneonce/core/Execution")) (t' := (.object "com/example/done_once/doneonce/core/JobState")) (by decide) (by decide))))
  obtain ⟨T113, h113, X113, e113, W113, st113⟩ := putF X110 hx hZ105 hown105 (host := "") (Or.inl (hwk hw 117 rfl)) Via.refl e110 c112 c111 (Or.inr ⟨(hwk hw 118 rfl), rfl, hnm⟩) (hwk hw 100 rfl) (ty := (.object "com/example/done_once/doneonce/core/Execution")) (by decide) rfl rfl (g := (mkF m 25 #[.val (.ref a1), .val (.ref s1), .val (.ref x2), .val v3, .val (.int p4), .val (.int p5)] [(.ref x2), (.ref a1)])) rfl rfl (hb hby d13_25)
  have F113 : Fld Z h113 a1 "com/example/done_once/doneonce/core/JobStatus" "execution" "Lcom/example/done_once/doneonce/core/Execution;" (.ref x2) := Fld.same W113 c112
  have N113 := Fr.snoc X113 N110 g1
  have c114 : Exa Z h113 a1 "com/example/done_once/doneonce/core/JobStatus" := (Exa.wr W113 c111)
  have c115 : Fld Z h113 a1 "com/example/done_once/doneonce/core/JobStatus" "executorId" "Ljava/lang/String;" .null := (Fld.other W113 (Fld.other W110 (Fld.ext E105 (Fld.ext E102 D2)) (Or.inr (slot_ne (Or.inr (hwk hw 120 rfl)) (Or.inr (hwk hw 116 rfl)) (by decide) (t := (.object "java/lang/String")) (t' := (.object "com/example/done_once/doneonce/core/JobState")) (by decide) (by decide)))) (Or.inr (slot_ne (Or.inr (hwk hw 120 rfl)) (Or.inr (hwk hw 118 rfl)) (by decide) (t := (.object "java/lang/String")) (t' := (.object "com/example/done_once/doneonce/core/Execution")) (by decide) (by decide))))
  obtain ⟨T116, h116, X116, e116, W116, st116⟩ := putF X113 hx hZ105 hown105 (host := "") (Or.inl (hwk hw 119 rfl)) Via.refl e113 c115 c114 (Or.inr ⟨(hwk hw 120 rfl), rfl, hnm⟩) (hwk hw 100 rfl) (ty := (.object "java/lang/String")) (by decide) (narrow_refV rfl hv3) (fits_refV rfl hv3) (g := (mkF m 30 #[.val (.ref a1), .val (.ref s1), .val (.ref x2), .val v3, .val (.int p4), .val (.int p5)] [v3, (.ref a1)])) rfl rfl (hb hby d13_30)
  have F116 : Fld Z h116 a1 "com/example/done_once/doneonce/core/JobStatus" "executorId" "Ljava/lang/String;" v3 := Fld.same W116 c115
  have N116 := Fr.snoc X116 N113 g1
  have c117 : Exa Z h116 a1 "com/example/done_once/doneonce/core/JobStatus" := (Exa.wr W116 c114)
  have c118 : Fld Z h116 a1 "com/example/done_once/doneonce/core/JobStatus" "cancelRequested" "Z" (.int (0 : Int32)) := (Fld.other W116 (Fld.other W113 (Fld.other W110 (Fld.ext E105 (Fld.ext E102 D3)) (Or.inr (slot_ne (Or.inr (hwk hw 122 rfl)) (Or.inr (hwk hw 116 rfl)) (by decide) (t := .boolean) (t' := (.object "com/example/done_once/doneonce/core/JobState")) (by decide) (by decide)))) (Or.inr (slot_ne (Or.inr (hwk hw 122 rfl)) (Or.inr (hwk hw 118 rfl)) (by decide) (t := .boolean) (t' := (.object "com/example/done_once/doneonce/core/Execution")) (by decide) (by decide)))) (Or.inr (slot_ne (Or.inr (hwk hw 122 rfl)) (Or.inr (hwk hw 120 rfl)) (by decide) (t := .boolean) (t' := (.object "java/lang/String")) (by decide) (by decide))))
  obtain ⟨T119, h119, X119, e119, W119, st119⟩ := putFN X116 hx hZ105 hown105 (hwk hw 121 rfl) Via.refl e116 c118 c117 (Or.inr ⟨(hwk hw 122 rfl), rfl, hnm⟩) (hwk hw 100 rfl) (ty := .boolean) (v' := (.int (nar .boolean p4))) (by decide) rfl (fits_nar_bool _) (g := (mkF m 36 #[.val (.ref a1), .val (.ref s1), .val (.ref x2), .val v3, .val (.int p4), .val (.int p5)] [(.int p4), (.ref a1)])) rfl rfl (hb hby d13_36)
  have F119 : Fld Z h119 a1 "com/example/done_once/doneonce/core/JobStatus" "cancelRequested" "Z" (.int (nar .boolean p4)) := Fld.same W119 c118
  have N119 := Fr.snoc X119 N116 g1
  have c120 : Exa Z h119 a1 "com/example/done_once/doneonce/core/JobStatus" := (Exa.wr W119 c117)
  have c121 : Fld Z h119 a1 "com/example/done_once/doneonce/core/JobStatus" "supportsCancel" "Z" (.int (0 : Int32)) := (Fld.other W119 (Fld.other W116 (Fld.other W113 (Fld.other W110 (Fld.ext E105 (Fld.ext E102 D4)) (Or.inr (slot_ne (Or.inr (hwk hw 124 rfl)) (Or.inr (hwk hw 116 rfl)) (by decide) (t := .boolean) (t' := (.object "com/example/done_once/doneonce/core/JobState")) (by decide) (by decide)))) (Or.inr (slot_ne (Or.inr (hwk hw 124 rfl)) (Or.inr (hwk hw 118 rfl)) (by decide) (t := .boolean) (t' := (.object "com/example/done_once/doneonce/core/Execution")) (by decide) (by decide)))) (Or.inr (slot_ne (Or.inr (hwk hw 124 rfl)) (Or.inr (hwk hw 120 rfl)) (by decide) (t := .boolean) (t' := (.object "java/lang/String")) (by decide) (by decide)))) (Or.inr (slot_ne (Or.inr (hwk hw 124 rfl)) (Or.inr (hwk hw 122 rfl)) (by decide) (t := .boolean) (t' := .boolean) (by decide) (by decide))))
  obtain ⟨T122, h122, X122, e122, W122, st122⟩ := putFN X119 hx hZ105 hown105 (hwk hw 123 rfl) Via.refl e119 c121 c120 (Or.inr ⟨(hwk hw 124 rfl), rfl, hnm⟩) (hwk hw 100 rfl) (ty := .boolean) (v' := (.int (nar .boolean p5))) (by decide) rfl (fits_nar_bool _) (g := (mkF m 42 #[.val (.ref a1), .val (.ref s1), .val (.ref x2), .val v3, .val (.int p4), .val (.int p5)] [(.int p5), (.ref a1)])) rfl rfl (hb hby d13_42)
  have F122 : Fld Z h122 a1 "com/example/done_once/doneonce/core/JobStatus" "supportsCancel" "Z" (.int (nar .boolean p5)) := Fld.same W122 c121
  have N122 := Fr.snoc X122 N119 g1
  have K123 : Keep h0 h102 [a1] := Keep.ext (Keep.refl h0 [a1]) E102
  have K124 : Keep h0 h105 [a1] := Keep.ext K123 E105
  have K125 : Keep h0 h110 [a1] := Keep.wr K124 W110 (Or.inl (List.mem_of_getElem? (i := 0) rfl))
  have K126 : Keep h0 h113 [a1] := Keep.wr K125 W113 (Or.inl (List.mem_of_getElem? (i := 0) rfl))
  have K127 : Keep h0 h116 [a1] := Keep.wr K126 W116 (Or.inl (List.mem_of_getElem? (i := 0) rfl))
  have K128 : Keep h0 h119 [a1] := Keep.wr K127 W119 (Or.inl (List.mem_of_getElem? (i := 0) rfl))
  have K129 : Keep h0 h122 [a1] := Keep.wr K128 W122 (Or.inl (List.mem_of_getElem? (i := 0) rfl))
  have c130 : Exa Z h122 a1 "com/example/done_once/doneonce/core/JobStatus" := (Exa.wr W122 c120)
  have c131 : Fld Z h122 a1 "com/example/done_once/doneonce/core/JobStatus" "state" "Lcom/example/done_once/doneonce/core/JobState;" (.ref s1) := (Fld.other W122 (Fld.other W119 (Fld.other W116 (Fld.other W113 F110 (Or.inr (slot_ne (Or.inr (hwk hw 116 rfl)) (Or.inr (hwk hw 118 rfl)) (by decide) (t := (.object "com/example/done_once/doneonce/core/JobState")) (t' := (.object "com/example/done_once/doneonce/core/Execution")) (by decide) (by decide)))) (Or.inr (slot_ne (Or.inr (hwk hw 116 rfl)) (Or.inr (hwk hw 120 rfl)) (by decide) (t := (.object "com/example/done_once/doneonce/core/JobState")) (t' := (.object "java/lang/String")) (by decide) (by decide)))) (Or.inr (slot_ne (Or.inr (hwk hw 116 rfl)) (Or.inr (hwk hw 122 rfl)) (by decide) (t := (.object "com/example/done_once/doneonce/core/JobState")) (t' := .boolean) (by decide) (by decide)))) (Or.inr (slot_ne (Or.inr (hwk hw 116 rfl)) (Or.inr (hwk hw 124 rfl)) (by decide) (t := (.object "com/example/done_once/doneonce/core/JobState")) (t' := .boolean) (by decide) (by decide))))
  obtain ⟨fs, hr, hrun, hended, hRE⟩ := X122.leaveW hS105 (show _ ≤ T122.heap.size from by rw [e122]; exact (Nat.le_trans hk105 (Nat.le_trans (Nat.le_trans (Nat.le_trans (Nat.le_trans (Nat.le_trans (Nat.le_refl _) (Nat.le_of_eq W110.size.symm)) (Nat.le_of_eq W113.size.symm)) (Nat.le_of_eq W116.size.symm)) (Nat.le_of_eq W119.size.symm)) (Nat.le_of_eq W122.size.symm)))) (v := none) (fun _ => rfl)
  refine ⟨_, _, pre0 _ ?_, hrun, hended, _, _, rfl, ?_, hRE.1, hRE.2.1, hRE.2.2.1, hRE.2.2.2.mono (by decide) (by decide)⟩
  · show Steps p.tables e below (s₁.setTop (mkF m 0 #[.val (.ref a1), .val (.ref s1), .val (.ref x2), .val v3, .val (.int p4), .val (.int p5)] [])) _
    refine XS.aloadN X0.here hx rfl (hb hby d13_0) rfl rfl ?_
    show Steps p.tables e below (s₁.setTop (mkF m 1 #[.val (.ref a1), .val (.ref s1), .val (.ref x2), .val v3, .val (.int p4), .val (.int p5)] [(.ref a1)])) _
    refine st101.trans ?_
    show Steps p.tables e below (T101.setTop (mkF m 4 #[.val (.ref a1), .val (.ref s1), .val (.ref x2), .val v3, .val (.int p4), .val (.int p5)] [])) _
    refine XS.aloadN X101.here hx rfl (hb hby d13_4) rfl rfl ?_
    show Steps p.tables e below (T101.setTop (mkF m 5 #[.val (.ref a1), .val (.ref s1), .val (.ref x2), .val v3, .val (.int p4), .val (.int p5)] [(.ref s1)])) _
    refine st102 _ ?_
    show Steps p.tables e below (T102.setTop (mkF m 7 #[.val (.ref a1), .val (.ref s1), .val (.ref x2), .val v3, .val (.int p4), .val (.int p5)] [(.ref a102), (.ref s1)])) _
    refine st104 _ ?_
    show Steps p.tables e below (T104.setTop (mkF m 10 #[.val (.ref a1), .val (.ref s1), .val (.ref x2), .val v3, .val (.int p4), .val (.int p5)] [(.ref s1)])) _
    refine XS.pop X104.here hx rfl (hb hby d13_10) rfl rfl ?_
    show Steps p.tables e below (T104.setTop (mkF m 11 #[.val (.ref a1), .val (.ref s1), .val (.ref x2), .val v3, .val (.int p4), .val (.int p5)] [])) _
    refine XS.aloadN X104.here hx rfl (hb hby d13_11) rfl rfl ?_
    show Steps p.tables e below (T104.setTop (mkF m 12 #[.val (.ref a1), .val (.ref s1), .val (.ref x2), .val v3, .val (.int p4), .val (.int p5)] [(.ref x2)])) _
    refine st105 _ ?_
    show Steps p.tables e below (T105.setTop (mkF m 14 #[.val (.ref a1), .val (.ref s1), .val (.ref x2), .val v3, .val (.int p4), .val (.int p5)] [(.ref a105), (.ref x2)])) _
    refine st107 _ ?_
    show Steps p.tables e below (T107.setTop (mkF m 17 #[.val (.ref a1), .val (.ref s1), .val (.ref x2), .val v3, .val (.int p4), .val (.int p5)] [(.ref x2)])) _
    refine XS.pop X107.here hx rfl (hb hby d13_17) rfl rfl ?_
    show Steps p.tables e below (T107.setTop (mkF m 18 #[.val (.ref a1), .val (.ref s1), .val (.ref x2), .val v3, .val (.int p4), .val (.int p5)] [])) _
    refine XS.aloadN X107.here hx rfl (hb hby d13_18) rfl rfl ?_
    show Steps p.tables e below (T107.setTop (mkF m 19 #[.val (.ref a1), .val (.ref s1), .val (.ref x2), .val v3, .val (.int p4), .val (.int p5)] [(.ref a1)])) _
    refine XS.aloadN X107.here hx rfl (hb hby d13_19) rfl rfl ?_
    show Steps p.tables e below (T107.setTop (mkF m 20 #[.val (.ref a1), .val (.ref s1), .val (.ref x2), .val v3, .val (.int p4), .val (.int p5)] [(.ref s1), (.ref a1)])) _
    refine st110 _ ?_
    show Steps p.tables e below (T110.setTop (mkF m 23 #[.val (.ref a1), .val (.ref s1), .val (.ref x2), .val v3, .val (.int p4), .val (.int p5)] [])) _
    refine XS.aloadN X110.here hx rfl (hb hby d13_23) rfl rfl ?_
    show Steps p.tables e below (T110.setTop (mkF m 24 #[.val (.ref a1), .val (.ref s1), .val (.ref x2), .val v3, .val (.int p4), .val (.int p5)] [(.ref a1)])) _
    refine XS.aloadN X110.here hx rfl (hb hby d13_24) rfl rfl ?_
    show Steps p.tables e below (T110.setTop (mkF m 25 #[.val (.ref a1), .val (.ref s1), .val (.ref x2), .val v3, .val (.int p4), .val (.int p5)] [(.ref x2), (.ref a1)])) _
    refine st113 _ ?_
    show Steps p.tables e below (T113.setTop (mkF m 28 #[.val (.ref a1), .val (.ref s1), .val (.ref x2), .val v3, .val (.int p4), .val (.int p5)] [])) _
    refine XS.aloadN X113.here hx rfl (hb hby d13_28) rfl rfl ?_
    show Steps p.tables e below (T113.setTop (mkF m 29 #[.val (.ref a1), .val (.ref s1), .val (.ref x2), .val v3, .val (.int p4), .val (.int p5)] [(.ref a1)])) _
    refine XS.aloadN X113.here hx rfl (hb hby d13_29) rfl hv3 ?_
    show Steps p.tables e below (T113.setTop (mkF m 30 #[.val (.ref a1), .val (.ref s1), .val (.ref x2), .val v3, .val (.int p4), .val (.int p5)] [v3, (.ref a1)])) _
    refine st116 _ ?_
    show Steps p.tables e below (T116.setTop (mkF m 33 #[.val (.ref a1), .val (.ref s1), .val (.ref x2), .val v3, .val (.int p4), .val (.int p5)] [])) _
    refine XS.aloadN X116.here hx rfl (hb hby d13_33) rfl rfl ?_
    show Steps p.tables e below (T116.setTop (mkF m 34 #[.val (.ref a1), .val (.ref s1), .val (.ref x2), .val v3, .val (.int p4), .val (.int p5)] [(.ref a1)])) _
    refine XS.iload X116.here hx rfl (hb hby d13_34) rfl ?_
    show Steps p.tables e below (T116.setTop (mkF m 36 #[.val (.ref a1), .val (.ref s1), .val (.ref x2), .val v3, .val (.int p4), .val (.int p5)] [(.int p4), (.ref a1)])) _
    refine st119 _ ?_
    show Steps p.tables e below (T119.setTop (mkF m 39 #[.val (.ref a1), .val (.ref s1), .val (.ref x2), .val v3, .val (.int p4), .val (.int p5)] [])) _
    refine XS.aloadN X119.here hx rfl (hb hby d13_39) rfl rfl ?_
    show Steps p.tables e below (T119.setTop (mkF m 40 #[.val (.ref a1), .val (.ref s1), .val (.ref x2), .val v3, .val (.int p4), .val (.int p5)] [(.ref a1)])) _
    refine XS.iload X119.here hx rfl (hb hby d13_40) rfl ?_
    show Steps p.tables e below (T119.setTop (mkF m 42 #[.val (.ref a1), .val (.ref s1), .val (.ref x2), .val v3, .val (.int p4), .val (.int p5)] [(.int p5), (.ref a1)])) _
    refine st122 _ ?_
    show Steps p.tables e below (T122.setTop (mkF m 45 #[.val (.ref a1), .val (.ref s1), .val (.ref x2), .val v3, .val (.int p4), .val (.int p5)] [])) _
    exact X122.returnOut hx Bd.returns (hb hby d13_45) hr
  · show Q_rm13 Z a1 s1 x2 v3 p4 p5 h0 n0 _ T122.heap _
    rw [e122]
    unfold Q_rm13
    exact ⟨rfl, N122, K129, c130, c131⟩
theorem ef_rm14 (m : MethodId) (x0 : Addr) (x1 : Addr) (x2 : Addr) (x3 : Addr) (x4 : Addr) (x5 : Addr) (x7 : Int64) (x8 : Addr) : entryFrame m #[(.ref x0), (.ref x1), (.ref x2), (.ref x3), (.ref x4), (.ref x5), .null, (.long x7), (.ref x8), .null, .null] 12 = mkF m 0 #[.val (.ref x0), .val (.ref x1), .val (.ref x2), .val (.ref x3), .val (.ref x4), .val (.ref x5), .val .null, .val (.long x7), .second, .val (.ref x8), .val .null, .val .null] [] := by first | (simp [entryFrame, mkF, argsToLocals, Value.category]; done) | rfl
def Q_rm14 (Z : State) (a1 : Addr) (j1 : Addr) (i2 : Addr) (l3 : Addr) (t4 : Addr) (m5 : Addr) (q7 : Int64) (u9 : Addr) (h0 : Heap) (n0 : Nat) (v : Option Value) (h : Heap) (L : List Loc) : Prop := (v = none) ∧ (Fr n0 L) ∧ (Keep h0 h [a1]) ∧ (Exa Z h a1 "com/example/done_once/doneonce/store/Job") ∧ (Fld Z h a1 "com/example/done_once/doneonce/store/Job" "status" "Lcom/example/done_once/doneonce/core/JobStatus;" (.ref u9))
theorem d14_0 : decode prog_49_method_1_code 0 = .ok (.aload_n 0, 1) := by decide +kernel
theorem d14_1 : decode prog_49_method_1_code 1 = .ok (.invokespecial 1, 3) := by decide +kernel
theorem d14_4 : decode prog_49_method_1_code 4 = .ok (.aload_n 1, 1) := by decide +kernel
theorem d14_5 : decode prog_49_method_1_code 5 = .ok (.ldc 7, 2) := by decide +kernel
theorem d14_7 : decode prog_49_method_1_code 7 = .ok (.invokestatic 9, 3) := by decide +kernel
theorem d14_10 : decode prog_49_method_1_code 10 = .ok (.pop, 1) := by decide +kernel
theorem d14_11 : decode prog_49_method_1_code 11 = .ok (.aload_n 2, 1) := by decide +kernel
theorem d14_12 : decode prog_49_method_1_code 12 = .ok (.ldc 15, 2) := by decide +kernel
theorem d14_14 : decode prog_49_method_1_code 14 = .ok (.invokestatic 9, 3) := by decide +kernel
theorem d14_17 : decode prog_49_method_1_code 17 = .ok (.pop, 1) := by decide +kernel
theorem d14_18 : decode prog_49_method_1_code 18 = .ok (.aload 9, 2) := by decide +kernel
theorem d14_20 : decode prog_49_method_1_code 20 = .ok (.ldc 17, 2) := by decide +kernel
theorem d14_22 : decode prog_49_method_1_code 22 = .ok (.invokestatic 9, 3) := by decide +kernel
theorem d14_25 : decode prog_49_method_1_code 25 = .ok (.pop, 1) := by decide +kernel
theorem d14_26 : decode prog_49_method_1_code 26 = .ok (.aload_n 0, 1) := by decide +kernel
theorem d14_27 : decode prog_49_method_1_code 27 = .ok (.aload_n 1, 1) := by decide +kernel
theorem d14_28 : decode prog_49_method_1_code 28 = .ok (.putfield 19, 3) := by decide +kernel
theorem d14_31 : decode prog_49_method_1_code 31 = .ok (.aload_n 0, 1) := by decide +kernel
theorem d14_32 : decode prog_49_method_1_code 32 = .ok (.aload_n 2, 1) := by decide +kernel
theorem d14_33 : decode prog_49_method_1_code 33 = .ok (.putfield 25, 3) := by decide +kernel
theorem d14_36 : decode prog_49_method_1_code 36 = .ok (.aload_n 0, 1) := by decide +kernel
theorem d14_37 : decode prog_49_method_1_code 37 = .ok (.aload_n 3, 1) := by decide +kernel
theorem d14_38 : decode prog_49_method_1_code 38 = .ok (.putfield 28, 3) := by decide +kernel
theorem d14_41 : decode prog_49_method_1_code 41 = .ok (.aload_n 0, 1) := by decide +kernel
theorem d14_42 : decode prog_49_method_1_code 42 = .ok (.aload 4, 2) := by decide +kernel
theorem d14_44 : decode prog_49_method_1_code 44 = .ok (.putfield 31, 3) := by decide +kernel
theorem d14_47 : decode prog_49_method_1_code 47 = .ok (.aload_n 0, 1) := by decide +kernel
theorem d14_48 : decode prog_49_method_1_code 48 = .ok (.aload 5, 2) := by decide +kernel
theorem d14_50 : decode prog_49_method_1_code 50 = .ok (.putfield 34, 3) := by decide +kernel
theorem d14_53 : decode prog_49_method_1_code 53 = .ok (.aload_n 0, 1) := by decide +kernel
theorem d14_54 : decode prog_49_method_1_code 54 = .ok (.aload 6, 2) := by decide +kernel
theorem d14_56 : decode prog_49_method_1_code 56 = .ok (.putfield 37, 3) := by decide +kernel
theorem d14_59 : decode prog_49_method_1_code 59 = .ok (.aload_n 0, 1) := by decide +kernel
theorem d14_60 : decode prog_49_method_1_code 60 = .ok (.lload 7, 2) := by decide +kernel
theorem d14_62 : decode prog_49_method_1_code 62 = .ok (.putfield 40, 3) := by decide +kernel
theorem d14_65 : decode prog_49_method_1_code 65 = .ok (.aload_n 0, 1) := by decide +kernel
theorem d14_66 : decode prog_49_method_1_code 66 = .ok (.aload 9, 2) := by decide +kernel
theorem d14_68 : decode prog_49_method_1_code 68 = .ok (.putfield 44, 3) := by decide +kernel
theorem d14_71 : decode prog_49_method_1_code 71 = .ok (.aload_n 0, 1) := by decide +kernel
theorem d14_72 : decode prog_49_method_1_code 72 = .ok (.aload 10, 2) := by decide +kernel
theorem d14_74 : decode prog_49_method_1_code 74 = .ok (.putfield 48, 3) := by decide +kernel
theorem d14_77 : decode prog_49_method_1_code 77 = .ok (.aload_n 0, 1) := by decide +kernel
theorem d14_78 : decode prog_49_method_1_code 78 = .ok (.aload 11, 2) := by decide +kernel
theorem d14_80 : decode prog_49_method_1_code 80 = .ok (.putfield 51, 3) := by decide +kernel
theorem d14_83 : decode prog_49_method_1_code 83 = .ok (.return_, 1) := by decide +kernel
set_option maxRecDepth 65536 in
set_option maxHeartbeats 40000000 in
theorem rm14 (l : Launch) (Z : State) (a0 : Array Value) (hw : ∀ d ∈ tables_1, d.before a0 Z = true) (ws : List Jvm.Cond) (a1 : Addr) (j1 : Addr) (i2 : Addr) (l3 : Addr) (t4 : Addr) (m5 : Addr) (q7 : Int64) (u9 : Addr) (h0 : Heap) (n0 : Nat) (O0 : Old Z n0 h0) (E1 : Exa Z h0 a1 "com/example/done_once/doneonce/store/Job") (g1 : n0 ≤ a1) (D0 : Fld Z h0 a1 "com/example/done_once/doneonce/store/Job" "jobId" "Ljava/lang/String;" .null) (D1 : Fld Z h0 a1 "com/example/done_once/doneonce/store/Job" "requestId" "Ljava/lang/String;" .null) (D2 : Fld Z h0 a1 "com/example/done_once/doneonce/store/Job" "lane" "Ljava/lang/String;" .null) (D3 : Fld Z h0 a1 "com/example/done_once/doneonce/store/Job" "tool" "Ljava/lang/String;" .null) (D4 : Fld Z h0 a1 "com/example/done_once/doneonce/store/Job" "params" "Ljava/lang/String;" .null) (D5 : Fld Z h0 a1 "com/example/done_once/doneonce/store/Job" "clientRequestId" "Ljava/lang/String;" .null) (D6 : Fld Z h0 a1 "com/example/done_once/doneonce/store/Job" "timeoutMs" "J" (.long (0 : Int64))) (D7 : Fld Z h0 a1 "com/example/done_once/doneonce/store/Job" "status" "Lcom/example/done_once/doneonce/core/JobStatus;" .null) (D8 : Fld Z h0 a1 "com/example/done_once/doneonce/store/Job" "result" "Ljava/lang/String;" .null) (D9 : Fld Z h0 a1 "com/example/done_once/doneonce/store/Job" "error" "Ljava/lang/String;" .null) :
    MetFree l (⟨"com/example/done_once/doneonce/store/Job", "<init>", "(Ljava/lang/String;Ljava/lang/String;Ljava/lang/String;Ljava/lang/String;Ljava/lang/String;Ljava/lang/String;JLcom/example/done_once/doneonce/core/JobStatus;Ljava/lang/String;Ljava/lang/String;)V"⟩ : MethodName) (head1 (Jvm.Cond.code (⟨"com/example/done_once/doneonce/store/Job", "<init>", "(Ljava/lang/String;Ljava/lang/String;Ljava/lang/String;Ljava/lang/String;Ljava/lang/String;Ljava/lang/String;JLcom/example/done_once/doneonce/core/JobStatus;Ljava/lang/String;Ljava/lang/String;)V"⟩ : MethodName) prog_49_method_1_code 12 none :: ws) ({ frames := 2, cells := 6, slots := 304, locals := 24 } : Room)) (fun a U => a = #[(.ref a1), (.ref j1), (.ref i2), (.ref l3), (.ref t4), (.ref m5), .null, (.long q7), (.ref u9), .null, .null] ∧ Z.Warmed39 U.vm ∧ U.heap = h0) (fun _ _ _ _ _ => True) (fun _ U o U' => ∃ v L, o = .returned v ∧ Q_rm14 Z a1 j1 i2 l3 t4 m5 q7 u9 h0 n0 v U'.heap L ∧ ReturnedEndW U o U' L ({ frames := 2, cells := 6, slots := 304, locals := 24 } : Room).cells ({ frames := 2, cells := 6, slots := 304, locals := 24 } : Room).slots) := by
  refine MetFree.of_bodySF (plainFor_of_name pn_8) hisR ?_
  intro p e s m args below meth c s₁ Bd hml0 hP hK
  obtain ⟨rfl, hZ, hh⟩ := hP
  have hx := Bd.exec
  have hby := Bd.bytes
  have hml : c.maxLocals = 12 := hml0
  have hown : s.vm.findClass "com/example/done_once/doneonce/store/Job" = some m.cls := findClass_of_methodNamed Bd.named
  have hnm := (name_of_methodNamed Bd.named Bd.method).1
  have hS0 : s.Since s.vm h0.size := (State.WarmedH.refl s).since _
  have hstr : ∀ a ∈ Bundle.stringAtoms, a.before a0 Z = true := own_str hw
  have X0 : Stand p l e ({ frames := 2, cells := 6, slots := 304, locals := 24 } : Room) (s.setVm s.vm) m #[(.ref a1), (.ref j1), (.ref i2), (.ref l3), (.ref t4), (.ref m5), .null, (.long q7), (.ref u9), .null, .null] below meth c s₁ [] 0 0 := Stand.of_body Bd
  have e0 : s₁.heap = h0 := by rw [← hh, Bd.state]; rfl
  have N0 := Fr.nil n0
  have Z0 : n0 ≤ h0.size := old_le O0
  have pre0 : ∀ t, Steps p.tables e below (s₁.setTop (mkF m 0 #[.val (.ref a1), .val (.ref j1), .val (.ref i2), .val (.ref l3), .val (.ref t4), .val (.ref m5), .val .null, .val (.long q7), .second, .val (.ref u9), .val .null, .val .null] [])) t → Steps p.tables e below (s₁.setTop (entryFrame m #[(.ref a1), (.ref j1), (.ref i2), (.ref l3), (.ref t4), (.ref m5), .null, (.long q7), (.ref u9), .null, .null] 12)) t := fun t k => castTop (ef_rm14 m a1 j1 i2 l3 t4 m5 q7 u9) k
  obtain ⟨_, _, ⟨T101, L101, k101, n101⟩, -, X101, ⟨Lc101, hQ101, l101, y101, z101⟩, st101⟩ := X0.specialBack hx (y := (⟨"java/lang/Record", "<init>", "()V"⟩ : MethodName)) rfl hown (mvT hZ (hwk hw 133 rfl)) (mvT hZ (hwk hw 51 rfl)) (mvT hZ (hwk hw 54 rfl)) (by decide) (backOf (W := 0) (rm8 l Z a0 hw [] a1 h0 n0 O0 ) hZ (hwk hw 54 rfl) (hwk hw 53 rfl) (by decide) (by decide)) (g := (mkF m 1 #[.val (.ref a1), .val (.ref j1), .val (.ref i2), .val (.ref l3), .val (.ref t4), .val (.ref m5), .val .null, .val (.long q7), .second, .val (.ref u9), .val .null, .val .null] [(.ref a1)])) rfl (by rw [hml]; rfl) (Steps.refl _) (a := a1) (argsL := []) (rest := []) (lenOf pd_3 rfl) rfl (by show 2 * 0 + _ ≤ _; exact Nat.le_of_eq rfl) (hb hby d14_1) (fun _ _ => ⟨rfl, e0, (by decide : 0 + 0 ≤ _), (by decide : 0 + 0 ≤ _)⟩)
  dsimp only [Pt.U, Pt.locs, Pt.cells, Pt.slots] at X101 l101 y101 z101 st101 hQ101
  subst l101 y101 z101
  unfold Q_rm8 at hQ101
  obtain ⟨rfl, N101q, e101⟩ := hQ101
  have N101 := Fr.app N0 N101q
  obtain ⟨a102, T102, h102, k102, X102, e102, E102, hS102, hk102, hZ102, hown102, st102⟩ := ldcS X101 hx hZ hown (hwk hw 134 rfl) hstr e101 hS0 (Nat.le_refl _) (g := (mkF m 5 #[.val (.ref a1), .val (.ref j1), .val (.ref i2), .val (.ref l3), .val (.ref t4), .val (.ref m5), .val .null, .val (.long q7), .second, .val (.ref u9), .val .null, .val .null] [(.ref j1)])) rfl (hb hby d14_5) (n := 92) (by decide) (by decide) (by decide) (by decide)
  have O103 : Old Z n0 h102 := Old.ext O0 E102
  obtain ⟨_, _, ⟨T104, L104, k104, n104⟩, -, X104, ⟨Lc104, hQ104, l104, y104, z104⟩, st104⟩ := Jvm.LawKit.callS X102 hx (y := (⟨"java/util/Objects", "requireNonNull", "(Ljava/lang/Object;Ljava/lang/String;)Ljava/lang/Object;"⟩ : MethodName)) hown102 (mvT hZ102 (hwk hw 135 rfl)) (mvT hZ102 (hwk hw 58 rfl)) (mvT hZ102 (hwk hw 59 rfl)) (mvT hZ102 (hwk hw 60 rfl)) (by decide) (backOf (W := 0) (rm9 l Z a0 hw [] j1 a102 h102 n0 O103 ) hZ102 (hwk hw 60 rfl) (hwk hw 59 rfl) (by decide) (by decide)) (g := (mkF m 7 #[.val (.ref a1), .val (.ref j1), .val (.ref i2), .val (.ref l3), .val (.ref t4), .val (.ref m5), .val .null, .val (.long q7), .second, .val (.ref u9), .val .null, .val .null] [(.ref a102), (.ref j1)])) rfl (by rw [hml]; rfl) (argsL := [(.ref j1), (.ref a102)]) (rest := []) (lenOf pd_4 rfl) rfl (by show 2 * 0 + _ ≤ _; exact Nat.le_of_eq rfl) (hb hby d14_7) (fun _ _ => ⟨rfl, e102, (by decide : 2 + 0 ≤ _), (by decide : 96 + 0 ≤ _)⟩)
  dsimp only [Pt.U, Pt.locs, Pt.cells, Pt.slots] at X104 l104 y104 z104 st104 hQ104
  subst l104 y104 z104
  unfold Q_rm9 at hQ104
  obtain ⟨rfl, N104q, e104⟩ := hQ104
  have N104 := Fr.app N101 N104q
  obtain ⟨a105, T105, h105, k105, X105, e105, E105, hS105, hk105, hZ105, hown105, st105⟩ := ldcS X104 hx hZ102 hown102 (hwk hw 136 rfl) hstr e104 hS102 hk102 (g := (mkF m 12 #[.val (.ref a1), .val (.ref j1), .val (.ref i2), .val (.ref l3), .val (.ref t4), .val (.ref m5), .val .null, .val (.long q7), .second, .val (.ref u9), .val .null, .val .null] [(.ref i2)])) rfl (hb hby d14_12) (n := 108) (by decide) (by decide) (by decide) (by decide)
  have O106 : Old Z n0 h105 := Old.ext O103 E105
  obtain ⟨_, _, ⟨T107, L107, k107, n107⟩, -, X107, ⟨Lc107, hQ107, l107, y107, z107⟩, st107⟩ := Jvm.LawKit.callS X105 hx (y := (⟨"java/util/Objects", "requireNonNull", "(Ljava/lang/Object;Ljava/lang/String;)Ljava/lang/Object;"⟩ : MethodName)) hown105 (mvT hZ105 (hwk hw 135 rfl)) (mvT hZ105 (hwk hw 58 rfl)) (mvT hZ105 (hwk hw 59 rfl)) (mvT hZ105 (hwk hw 60 rfl)) (by decide) (backOf (W := 0) (rm9 l Z a0 hw [] i2 a105 h105 n0 O106 ) hZ105 (hwk hw 60 rfl) (hwk hw 59 rfl) (by decide) (by decide)) (g := (mkF m 14 #[.val (.ref a1), .val (.ref j1), .val (.ref i2), .val (.ref l3), .val (.ref t4), .val (.ref m5), .val .null, .val (.long q7), .second, .val (.ref u9), .val .null, .val .null] [(.ref a105), (.ref i2)])) rfl (by rw [hml]; rfl) (argsL := [(.ref i2), (.ref a105)]) (rest := []) (lenOf pd_4 rfl) rfl (by show 2 * 0 + _ ≤ _; exact Nat.le_of_eq rfl) (hb hby d14_14) (fun _ _ => ⟨rfl, e105, (by decide : 4 + 0 ≤ _), (by decide : 208 + 0 ≤ _)⟩)
  dsimp only [Pt.U, Pt.locs, Pt.cells, Pt.slots] at X107 l107 y107 z107 st107 hQ107
  subst l107 y107 z107
  unfold Q_rm9 at hQ107
  obtain ⟨rfl, N107q, e107⟩ := hQ107
  have N107 := Fr.app N104 N107q
  obtain ⟨a108, T108, h108, k108, X108, e108, E108, hS108, hk108, hZ108, hown108, st108⟩ := ldcS X107 hx hZ105 hown105 (hwk hw 137 rfl) hstr e107 hS105 hk105 (g := (mkF m 20 #[.val (.ref a1), .val (.ref j1), .val (.ref i2), .val (.ref l3), .val (.ref t4), .val (.ref m5), .val .null, .val (.long q7), .second, .val (.ref u9), .val .null, .val .null] [(.ref u9)])) rfl (hb hby d14_20) (n := 92) (by decide) (by decide) (by decide) (by decide)
  have O109 : Old Z n0 h108 := Old.ext O106 E108
  obtain ⟨_, _, ⟨T110, L110, k110, n110⟩, -, X110, ⟨Lc110, hQ110, l110, y110, z110⟩, st110⟩ := Jvm.LawKit.callS X108 hx (y := (⟨"java/util/Objects", "requireNonNull", "(Ljava/lang/Object;Ljava/lang/String;)Ljava/lang/Object;"⟩ : MethodName)) hown108 (mvT hZ108 (hwk hw 135 rfl)) (mvT hZ108 (hwk hw 58 rfl)) (mvT hZ108 (hwk hw 59 rfl)) (mvT hZ108 (hwk hw 60 rfl)) (by decide) (backOf (W := 0) (rm9 l Z a0 hw [] u9 a108 h108 n0 O109 ) hZ108 (hwk hw 60 rfl) (hwk hw 59 rfl) (by decide) (by decide)) (g := (mkF m 22 #[.val (.ref a1), .val (.ref j1), .val (.ref i2), .val (.ref l3), .val (.ref t4), .val (.ref m5), .val .null, .val (.long q7), .second, .val (.ref u9), .val .null, .val .null] [(.ref a108), (.ref u9)])) rfl (by rw [hml]; rfl) (argsL := [(.ref u9), (.ref a108)]) (rest := []) (lenOf pd_4 rfl) rfl (by show 2 * 0 + _ ≤ _; exact Nat.le_of_eq rfl) (hb hby d14_22) (fun _ _ => ⟨rfl, e108, (by decide : 6 + 0 ≤ _), (by decide : 304 + 0 ≤ _)⟩)
  dsimp only [Pt.U, Pt.locs, Pt.cells, Pt.slots] at X110 l110 y110 z110 st110 hQ110
  subst l110 y110 z110
  unfold Q_rm9 at hQ110
  obtain ⟨rfl, N110q, e110⟩ := hQ110
  have N110 := Fr.app N107 N110q
  have c111 : Exa Z h108 a1 "com/example/done_once/doneonce/store/Job" := (Exa.ext E108 (Exa.ext E105 (Exa.ext E102 E1)))
  have c112 : Fld Z h108 a1 "com/example/done_once/doneonce/store/Job" "jobId" "Ljava/lang/String;" .null := (Fld.ext E108 (Fld.ext E105 (Fld.ext E102 D0)))
  obtain ⟨T113, h113, X113, e113, W113, st113⟩ := putF X110 hx hZ108 hown108 (host := "") (Or.inl (hwk hw 138 rfl)) Via.refl e110 c112 c111 (Or.inr ⟨(hwk hw 139 rfl), rfl, hnm⟩) (hwk hw 126 rfl) (ty := (.object "java/lang/String")) (by decide) rfl rfl (g := (mkF m 28 #[.val (.ref a1), .val (.ref j1), .val (.ref i2), .val (.ref l3), .val (.ref t4), .val (.ref m5), .val .null, .val (.long q7), .second, .val (.ref u9), .val .null, .val .null] [(.ref j1), (.ref a1)])) rfl rfl (hb hby d14_28)
  have F113 : Fld Z h113 a1 "com/example/done_once/doneonce/store/Job" "jobId" "Ljava/lang/String;" (.ref j1) := Fld.same W113 c112
  have N113 := Fr.snoc X113 N110 g1
  have c114 : Exa Z h113 a1 "com/example/done_once/doneonce/store/Job" := (Exa.wr W113 c111)
  have c115 : Fld Z h113 a1 "com/example/done_once/doneonce/store/Job" "requestId" "Ljava/lang/String;" .null := (Fld.other W113 (Fld.ext E108 (Fld.ext E105 (Fld.ext E102 D1))) (Or.inr (slot_ne (Or.inr (hwk hw 141 rfl)) (Or.inr (hwk hw 139 rfl)) (by decide) (t := (.object "java/lang/String")) (t' := (.object "java/lang/String")) (by decide) (by decide))))
  obtain ⟨T116, h116, X116, e116, W116, st116⟩ := putF X113 hx hZ108 hown108 (host := "") (Or.inl (hwk hw 140 rfl)) Via.refl e113 c115 c114 (Or.inr ⟨(hwk hw 141 rfl), rfl, hnm⟩) (hwk hw 126 rfl) (ty := (.object "java/lang/String")) (by decide) rfl rfl (g := (mkF m 33 #[.val (.ref a1), .val (.ref j1), .val (.ref i2), .val (.ref l3), .val (.ref t4), .val (.ref m5), .val .null, .val (.long q7), .second, .val (.ref u9), .val .null, .val .null] [(.ref i2), (.ref a1)])) rfl rfl (hb hby d14_33)
  have F116 : Fld Z h116 a1 "com/example/done_once/doneonce/store/Job" "requestId" "Ljava/lang/String;" (.ref i2) := Fld.same W116 c115
  have N116 := Fr.snoc X116 N113 g1
  have c117 : Exa Z h116 a1 "com/example/done_once/doneonce/store/Job" := (Exa.wr W116 c114)
  have c118 : Fld Z h116 a1 "com/example/done_once/doneonce/store/Job" "lane" "Ljava/lang/String;" .null := (Fld.other W116 (Fld.other W113 (Fld.ext E108 (Fld.ext E105 (Fld.ext E102 D2))) (Or.inr (slot_ne (Or.inr (hwk hw 143 rfl)) (Or.inr (hwk hw 139 rfl)) (by decide) (t := (.object "java/lang/String")) (t' := (.object "java/lang/String")) (by decide) (by decide)))) (Or.inr (slot_ne (Or.inr (hwk hw 143 rfl)) (Or.inr (hwk hw 141 rfl)) (by decide) (t := (.object "java/lang/String")) (t' := (.object "java/lang/String")) (by decide) (by decide))))
  obtain ⟨T119, h119, X119, e119, W119, st119⟩ := putF X116 hx hZ108 hown108 (host := "") (Or.inl (hwk hw 142 rfl)) Via.refl e116 c118 c117 (Or.inr ⟨(hwk hw 143 rfl), rfl, hnm⟩) (hwk hw 126 rfl) (ty := (.object "java/lang/String")) (by decide) rfl rfl (g := (mkF m 38 #[.val (.ref a1), .val (.ref j1), .val (.ref i2), .val (.ref l3), .val (.ref t4), .val (.ref m5), .val .null, .val (.long q7), .second, .val (.ref u9), .val .null, .val .null] [(.ref l3), (.ref a1)])) rfl rfl (hb hby d14_38)
  have F119 : Fld Z h119 a1 "com/example/done_once/doneonce/store/Job" "lane" "Ljava/lang/String;" (.ref l3) := Fld.same W119 c118
  have N119 := Fr.snoc X119 N116 g1
  have c120 : Exa Z h119 a1 "com/example/done_once/doneonce/store/Job" := (Exa.wr W119 c117)
  have c121 : Fld Z h119 a1 "com/example/done_once/doneonce/store/Job" "tool" "Ljava/lang/String;" .null := (Fld.other W119 (Fld.other W116 (Fld.other W113 (Fld.ext E108 (Fld.ext E105 (Fld.ext E102 D3))) (Or.inr (slot_ne (Or.inr (hwk hw 145 rfl)) (Or.inr (hwk hw 139 rfl)) (by decide) (t := (.object "java/lang/String")) (t' := (.object "java/lang/String")) (by decide) (by decide)))) (Or.inr (slot_ne (Or.inr (hwk hw 145 rfl)) (Or.inr (hwk hw 141 rfl)) (by decide) (t := (.object "java/lang/String")) (t' := (.object "java/lang/String")) (by decide) (by decide)))) (Or.inr (slot_ne (Or.inr (hwk hw 145 rfl)) (Or.inr (hwk hw 143 rfl)) (by decide) (t := (.object "java/lang/String")) (t' := (.object "java/lang/String")) (by decide) (by decide))))
  obtain ⟨T122, h122, X122, e122, W122, st122⟩ := putF X119 hx hZ108 hown108 (host := "") (Or.inl (hwk hw 144 rfl)) Via.refl e119 c121 c120 (Or.inr ⟨(hwk hw 145 rfl), rfl, hnm⟩) (hwk hw 126 rfl) (ty := (.object "java/lang/String")) (by decide) rfl rfl (g := (mkF m 44 #[.val (.ref a1), .val (.ref j1), .val (.ref i2), .val (.ref l3), .val (.ref t4), .val (.ref m5), .val .null, .val (.long q7), .second, .val (.ref u9), .val .null, .val .null] [(.ref t4), (.ref a1)])) rfl rfl (hb hby d14_44)
  have F122 : Fld Z h122 a1 "com/example/done_once/doneonce/store/Job" "tool" "Ljava/lang/String;" (.ref t4) := Fld.same W122 c121
  have N122 := Fr.snoc X122 N119 g1
  have c123 : Exa Z h122 a1 "com/example/done_once/doneonce/store/Job" := (Exa.wr W122 c120)
  have c124 : Fld Z h122 a1 "com/example/done_once/doneonce/store/Job" "params" "Ljava/lang/String;" .null := (Fld.other W122 (Fld.other W119 (Fld.other W116 (Fld.other W113 (Fld.ext E108 (Fld.ext E105 (Fld.ext E102 D4))) (Or.inr (slot_ne (Or.inr (hwk hw 147 rfl)) (Or.inr (hwk hw 139 rfl)) (by decide) (t := (.object "java/lang/String")) (t' := (.object "java/lang/String")) (by decide) (by decide)))) (Or.inr (slot_ne (Or.inr (hwk hw 147 rfl)) (Or.inr (hwk hw 141 rfl)) (by decide) (t := (.object "java/lang/String")) (t' := (.object "java/lang/String")) (by decide) (by decide)))) (Or.inr (slot_ne (Or.inr (hwk hw 147 rfl)) (Or.inr (hwk hw 143 rfl)) (by decide) (t := (.object "java/lang/String")) (t' := (.object "java/lang/String")) (by decide) (by decide)))) (Or.inr (slot_ne (Or.inr (hwk hw 147 rfl)) (Or.inr (hwk hw 145 rfl)) (by decide) (t := (.object "java/lang/String")) (t' := (.object "java/lang/String")) (by decide) (by decide))))
  obtain ⟨T125, h125, X125, e125, W125, st125⟩ := putF X122 hx hZ108 hown108 (host := "") (Or.inl (hwk hw 146 rfl)) Via.refl e122 c124 c123 (Or.inr ⟨(hwk hw 147 rfl), rfl, hnm⟩) (hwk hw 126 rfl) (ty := (.object "java/lang/String")) (by decide) rfl rfl (g := (mkF m 50 #[.val (.ref a1), .val (.ref j1), .val (.ref i2), .val (.ref l3), .val (.ref t4), .val (.ref m5), .val .null, .val (.long q7), .second, .val (.ref u9), .val .null, .val .null] [(.ref m5), (.ref a1)])) rfl rfl (hb hby d14_50)
  have F125 : Fld Z h125 a1 "com/example/done_once/doneonce/store/Job" "params" "Ljava/lang/String;" (.ref m5) := Fld.same W125 c124
  have N125 := Fr.snoc X125 N122 g1
  have c126 : Exa Z h125 a1 "com/example/done_once/doneonce/store/Job" := (Exa.wr W125 c123)
  have c127 : Fld Z h125 a1 "com/example/done_once/doneonce/store/Job" "clientRequestId" "Ljava/lang/String;" .null := (Fld.other W125 (Fld.other W122 (Fld.other W119 (Fld.other W116 (Fld.other W113 (Fld.ext E108 (Fld.ext E105 (Fld.ext E102 D5))) (Or.inr (slot_ne (Or.inr (hwk hw 149 rfl)) (Or.inr (hwk hw 139 rfl)) (by decide) (t := (.object "java/lang/String")) (t' := (.object "java/lang/String")) (by decide) (by decide)))) (Or.inr (slot_ne (Or.inr (hwk hw 149 rfl)) (Or.inr (hwk hw 141 rfl)) (by decide) (t := (.object "java/lang/String")) (t' := (.object "java/lang/String")) (by decide) (by decide)))) (Or.inr (slot_ne (Or.inr (hwk hw 149 rfl)) (Or.inr (hwk hw 143 rfl)) (by decide) (t := (.object "java/lang/String")) (t' := (.object "java/lang/String")) (by decide) (by decide)))) (Or.inr (slot_ne (Or.inr (hwk hw 149 rfl)) (Or.inr (hwk hw 145 rfl)) (by decide) (t := (.object "java/lang/String")) (t' := (.object "java/lang/String")) (by decide) (by decide)))) (Or.inr (slot_ne (Or.inr (hwk hw 149 rfl)) (Or.inr (hwk hw 147 rfl)) (by decide) (t := (.object "java/lang/String")) (t' := (.object "java/lang/String")) (by decide) (by decide))))
  obtain ⟨T128, h128, X128, e128, W128, st128⟩ := putF X125 hx hZ108 hown108 (host := "") (Or.inl (hwk hw 148 rfl)) Via.refl e125 c127 c126 (Or.inr ⟨(hwk hw 149 rfl), rfl, hnm⟩) (hwk hw 126 rfl) (ty := (.object "java/lang/String")) (by decide) rfl rfl (g := (mkF m 56 #[.val (.ref a1), .val (.ref j1), .val (.ref i2), .val (.ref l3), .val (.ref t4), .val (.ref m5), .val .null, .val (.long q7), .second, .val (.ref u9), .val .null, .val .null] [.null, (.ref a1)])) rfl rfl (hb hby d14_56)
  have F128 : Fld Z h128 a1 "com/example/done_once/doneonce/store/Job" "clientRequestId" "Ljava/lang/String;" .null := Fld.same W128 c127
  have N128 := Fr.snoc X128 N125 g1
  have c129 : Exa Z h128 a1 "com/example/done_once/doneonce/store/Job" := (Exa.wr W128 c126)
  have c130 : Fld Z h128 a1 "com/example/done_once/doneonce/store/Job" "timeoutMs" "J" (.long (0 : Int64)) := (Fld.other W128 (Fld.other W125 (Fld.other W122 (Fld.other W119 (Fld.other W116 (Fld.other W113 (Fld.ext E108 (Fld.ext E105 (Fld.ext E102 D6))) (Or.inr (slot_ne (Or.inr (hwk hw 151 rfl)) (Or.inr (hwk hw 139 rfl)) (by decide) (t := .long) (t' := (.object "java/lang/String")) (by decide) (by decide)))) (Or.inr (slot_ne (Or.inr (hwk hw 151 rfl)) (Or.inr (hwk hw 141 rfl)) (by decide) (t := .long) (t' := (.object "java/lang/String")) (by decide) (by decide)))) (Or.inr (slot_ne (Or.inr (hwk hw 151 rfl)) (Or.inr (hwk hw 143 rfl)) (by decide) (t := .long) (t' := (.object "java/lang/String")) (by decide) (by decide)))) (Or.inr (slot_ne (Or.inr (hwk hw 151 rfl)) (Or.inr (hwk hw 145 rfl)) (by decide) (t := .long) (t' := (.object "java/lang/String")) (by decide) (by decide)))) (Or.inr (slot_ne (Or.inr (hwk hw 151 rfl)) (Or.inr (hwk hw 147 rfl)) (by decide) (t := .long) (t' := (.object "java/lang/String")) (by decide) (by decide)))) (Or.inr (slot_ne (Or.inr (hwk hw 151 rfl)) (Or.inr (hwk hw 149 rfl)) (by decide) (t := .long) (t' := (.object "java/lang/String")) (by decide) (by decide))))
  obtain ⟨T131, h131, X131, e131, W131, st131⟩ := putF X128 hx hZ108 hown108 (host := "") (Or.inl (hwk hw 150 rfl)) Via.refl e128 c130 c129 (Or.inr ⟨(hwk hw 151 rfl), rfl, hnm⟩) (hwk hw 126 rfl) (ty := .long) (by decide) rfl rfl (g := (mkF m 62 #[.val (.ref a1), .val (.ref j1), .val (.ref i2), .val (.ref l3), .val (.ref t4), .val (.ref m5), .val .null, .val (.long q7), .second, .val (.ref u9), .val .null, .val .null] [(.long q7), (.ref a1)])) rfl rfl (hb hby d14_62)
  have F131 : Fld Z h131 a1 "com/example/done_once/doneonce/store/Job" "timeoutMs" "J" (.long q7) := Fld.same W131 c130
  have N131 := Fr.snoc X131 N128 g1
  have c132 : Exa Z h131 a1 "com/example/done_once/doneonce/store/Job" := (Exa.wr W131 c129)
  have c133 : Fld Z h131 a1 "com/example/done_once/doneonce/store/Job" "status" "Lcom/example/done_once/doneonce/core/JobStatus;" .null := (Fld.other W131 (Fld.other W128 (Fld.other W125 (Fld.other W122 (Fld.other W119 (Fld.other W116 (Fld.other W113 (Fld.ext E108 (Fld.ext E105 (Fld.ext E102 D7))) (Or.inr (slot_ne (Or.inr (hwk hw 153 rfl)) (Or.inr (hwk hw 139 rfl)) (by decide) (t := (.object "com/example/done_once/doneonce/core/JobStatus")) (t' := (.object "java/lang/String")) (by decide) (by decide)))) (Or.inr (slot_ne (Or.inr (hwk hw 153 rfl)) (Or.inr (hwk hw 141 rfl)) (by decide) (t := (.object "com/example/done_once/doneonce/core/JobStatus")) (t' := (.object "java/lang/String")) (by decide) (by decide)))) (Or.inr (slot_ne (Or.inr (hwk hw 153 rfl)) (Or.inr (hwk hw 143 rfl)) (by decide) (t := (.object "com/example/done_once/doneonce/core/JobStatus")) (t' := (.object "java/lang/String")) (by decide) (by decide)))) (Or.inr (slot_ne (Or.inr (hwk hw 153 rfl)) (Or.inr (hwk hw 145 rfl)) (by decide) (t := (.object "com/example/done_once/doneonce/core/JobStatus")) (t' := (.object "java/lang/String")) (by decide) (by decide)))) (Or.inr (slot_ne (Or.inr (hwk hw 153 rfl)) (Or.inr (hwk hw 147 rfl)) (by decide) (t := (.object "com/example/done_once/doneonce/core/JobStatus")) (t' := (.object "java/lang/String")) (by decide) (by decide)))) (Or.inr (slot_ne (Or.inr (hwk hw 153 rfl)) (Or.inr (hwk hw 149 rfl)) (by decide) (t := (.object "com/example/done_once/doneonce/core/JobStatus")) (t' := (.object "java/lang/String")) (by decide) (by decide)))) (Or.inr (slot_ne (Or.inr (hwk hw 153 rfl)) (Or.inr (hwk hw 151 rfl)) (by decide) (t := (.object "com/example/done_once/doneonce/core/JobStatus")) (t' := .long) (by decide) (by decide))))
  obtain ⟨T134, h134, X134, e134, W134, st134⟩ := putF X131 hx hZ108 hown108 (host := "") (Or.inl (hwk hw 152 rfl)) Via.refl e131 c133 c132 (Or.inr ⟨(hwk hw 153 rfl), rfl, hnm⟩) (hwk hw 126 rfl) (ty := (.object "com/example/done_once/doneonce/core/JobStatus")) (by decide) rfl rfl (g := (mkF m 68 #[.val (.ref a1), .val (.ref j1), .val (.ref i2), .val (.ref l3), .val (.ref t4), .val (.ref m5), .val .null, .val (.long q7), .second, .val (.ref u9), .val .null, .val .null] [(.ref u9), (.ref a1)])) rfl rfl (hb hby d14_68)
  have F134 : Fld Z h134 a1 "com/example/done_once/doneonce/store/Job" "status" "Lcom/example/done_once/doneonce/core/JobStatus;" (.ref u9) := Fld.same W134 c133
  have N134 := Fr.snoc X134 N131 g1
  have c135 : Exa Z h134 a1 "com/example/done_once/doneonce/store/Job" := (Exa.wr W134 c132)
  have c136 : Fld Z h134 a1 "com/example/done_once/doneonce/store/Job" "result" "Ljava/lang/String;" .null := (Fld.other W134 (Fld.other W131 (Fld.other W128 (Fld.other W125 (Fld.other W122 (Fld.other W119 (Fld.other W116 (Fld.other W113 (Fld.ext E108 (Fld.ext E105 (Fld.ext E102 D8))) (Or.inr (slot_ne (Or.inr (hwk hw 155 rfl)) (Or.inr (hwk hw 139 rfl)) (by decide) (t := (.object "java/lang/String")) (t' := (.object "java/lang/String")) (by decide) (by decide)))) (Or.inr (slot_ne (Or.inr (hwk hw 155 rfl)) (Or.inr (hwk hw 141 rfl)) (by decide) (t := (.object "java/lang/String")) (t' := (.object "java/lang/String")) (by decide) (by decide)))) (Or.inr (slot_ne (Or.inr (hwk hw 155 rfl)) (Or.inr (hwk hw 143 rfl)) (by decide) (t := (.object "java/lang/String")) (t' := (.object "java/lang/String")) (by decide) (by decide)))) (Or.inr (slot_ne (Or.inr (hwk hw 155 rfl)) (Or.inr (hwk hw 145 rfl)) (by decide) (t := (.object "java/lang/String")) (t' := (.object "java/lang/String")) (by decide) (by decide)))) (Or.inr (slot_ne (Or.inr (hwk hw 155 rfl)) (Or.inr (hwk hw 147 rfl)) (by decide) (t := (.object "java/lang/String")) (t' := (.object "java/lang/String")) (by decide) (by decide)))) (Or.inr (slot_ne (Or.inr (hwk hw 155 rfl)) (Or.inr (hwk hw 149 rfl)) (by decide) (t := (.object "java/lang/String")) (t' := (.object "java/lang/String")) (by decide) (by decide)))) (Or.inr (slot_ne (Or.inr (hwk hw 155 rfl)) (Or.inr (hwk hw 151 rfl)) (by decide) (t := (.object "java/lang/String")) (t' := .long) (by decide) (by decide)))) (Or.inr (slot_ne (Or.inr (hwk hw 155 rfl)) (Or.inr (hwk hw 153 rfl)) (by decide) (t := (.object "java/lang/String")) (t' := (.object "com/example/done_once/doneonce/core/JobStatus")) (by decide) (by decide))))
  obtain ⟨T137, h137, X137, e137, W137, st137⟩ := putF X134 hx hZ108 hown108 (host := "") (Or.inl (hwk hw 154 rfl)) Via.refl e134 c136 c135 (Or.inr ⟨(hwk hw 155 rfl), rfl, hnm⟩) (hwk hw 126 rfl) (ty := (.object "java/lang/String")) (by decide) rfl rfl (g := (mkF m 74 #[.val (.ref a1), .val (.ref j1), .val (.ref i2), .val (.ref l3), .val (.ref t4), .val (.ref m5), .val .null, .val (.long q7), .second, .val (.ref u9), .val .null, .val .null] [.null, (.ref a1)])) rfl rfl (hb hby d14_74)
  have F137 : Fld Z h137 a1 "com/example/done_once/doneonce/store/Job" "result" "Ljava/lang/String;" .null := Fld.same W137 c136
  have N137 := Fr.snoc X137 N134 g1
  have c138 : Exa Z h137 a1 "com/example/done_once/doneonce/store/Job" := (Exa.wr W137 c135)
  have c139 : Fld Z h137 a1 "com/example/done_once/doneonce/store/Job" "error" "Ljava/lang/String;" .null := (Fld.other W137 (Fld.other W134 (Fld.other W131 (Fld.other W128 (Fld.other W125 (Fld.other W122 (Fld.other W119 (Fld.other W116 (Fld.other W113 (Fld.ext E108 (Fld.ext E105 (Fld.ext E102 D9))) (Or.inr (slot_ne (Or.inr (hwk hw 157 rfl)) (Or.inr (hwk hw 139 rfl)) (by decide) (t := (.object "java/lang/String")) (t' := (.object "java/lang/String")) (by decide) (by decide)))) (Or.inr (slot_ne (Or.inr (hwk hw 157 rfl)) (Or.inr (hwk hw 141 rfl)) (by decide) (t := (.object "java/lang/String")) (t' := (.object "java/lang/String")) (by decide) (by decide)))) (Or.inr (slot_ne (Or.inr (hwk hw 157 rfl)) (Or.inr (hwk hw 143 rfl)) (by decide) (t := (.object "java/lang/String")) (t' := (.object "java/lang/String")) (by decide) (by decide)))) (Or.inr (slot_ne (Or.inr (hwk hw 157 rfl)) (Or.inr (hwk hw 145 rfl)) (by decide) (t := (.object "java/lang/String")) (t' := (.object "java/lang/String")) (by decide) (by decide)))) (Or.inr (slot_ne (Or.inr (hwk hw 157 rfl)) (Or.inr (hwk hw 147 rfl)) (by decide) (t := (.object "java/lang/String")) (t' := (.object "java/lang/String")) (by decide) (by decide)))) (Or.inr (slot_ne (Or.inr (hwk hw 157 rfl)) (Or.inr (hwk hw 149 rfl)) (by decide) (t := (.object "java/lang/String")) (t' := (.object "java/lang/String")) (by decide) (by decide)))) (Or.inr (slot_ne (Or.inr (hwk hw 157 rfl)) (Or.inr (hwk hw 151 rfl)) (by decide) (t := (.object "java/lang/String")) (t' := .long) (by decide) (by decide)))) (Or.inr (slot_ne (Or.inr (hwk hw 157 rfl)) (Or.inr (hwk hw 153 rfl)) (by decide) (t := (.object "java/lang/String")) (t' := (.object "com/example/done_once/doneonce/core/JobStatus")) (by decide) (by decide)))) (Or.inr (slot_ne (Or.inr (hwk hw 157 rfl)) (Or.inr (hwk hw 155 rfl)) (by decide) (t := (.object "java/lang/String")) (t' := (.object "java/lang/String")) (by decide) (by decide))))
  obtain ⟨T140, h140, X140, e140, W140, st140⟩ := putF X137 hx hZ108 hown108 (host := "") (Or.inl (hwk hw 156 rfl)) Via.refl e137 c139 c138 (Or.inr ⟨(hwk hw 157 rfl), rfl, hnm⟩) (hwk hw 126 rfl) (ty := (.object "java/lang/String")) (by decide) rfl rfl (g := (mkF m 80 #[.val (.ref a1), .val (.ref j1), .val (.ref i2), .val (.ref l3), .val (.ref t4), .val (.ref m5), .val .null, .val (.long q7), .second, .val (.ref u9), .val .null, .val .null] [.null, (.ref a1)])) rfl rfl (hb hby d14_80)
  have F140 : Fld Z h140 a1 "com/example/done_once/doneonce/store/Job" "error" "Ljava/lang/String;" .null := Fld.same W140 c139
  have N140 := Fr.snoc X140 N137 g1
  have K141 : Keep h0 h102 [a1] := Keep.ext (Keep.refl h0 [a1]) E102
  have K142 : Keep h0 h105 [a1] := Keep.ext K141 E105
  have K143 : Keep h0 h108 [a1] := Keep.ext K142 E108
  have K144 : Keep h0 h113 [a1] := Keep.wr K143 W113 (Or.inl (List.mem_of_getElem? (i := 0) rfl))
  have K145 : Keep h0 h116 [a1] := Keep.wr K144 W116 (Or.inl (List.mem_of_getElem? (i := 0) rfl))
  have K146 : Keep h0 h119 [a1] := Keep.wr K145 W119 (Or.inl (List.mem_of_getElem? (i := 0) rfl))
  have K147 : Keep h0 h122 [a1] := Keep.wr K146 W122 (Or.inl (List.mem_of_getElem? (i := 0) rfl))
  have K148 : Keep h0 h125 [a1] := Keep.wr K147 W125 (Or.inl (List.mem_of_getElem? (i := 0) rfl))
  have K149 : Keep h0 h128 [a1] := Keep.wr K148 W128 (Or.inl (List.mem_of_getElem? (i := 0) rfl))
  have K150 : Keep h0 h131 [a1] := Keep.wr K149 W131 (Or.inl (List.mem_of_getElem? (i := 0) rfl))
  have K151 : Keep h0 h134 [a1] := Keep.wr K150 W134 (Or.inl (List.mem_of_getElem? (i := 0) rfl))
  have K152 : Keep h0 h137 [a1] := Keep.wr K151 W137 (Or.inl (List.mem_of_getElem? (i := 0) rfl))
  have K153 : Keep h0 h140 [a1] := Keep.wr K152 W140 (Or.inl (List.mem_of_getElem? (i := 0) rfl))
  have c154 : Exa Z h140 a1 "com/example/done_once/doneonce/store/Job" := (Exa.wr W140 c138)
  have c155 : Fld Z h140 a1 "com/example/done_once/doneonce/store/Job" "status" "Lcom/example/done_once/doneonce/core/JobStatus;" (.ref u9) := (Fld.other W140 (Fld.other W137 F134 (Or.inr (slot_ne (Or.inr (hwk hw 153 rfl)) (Or.inr (hwk hw 155 rfl)) (by decide) (t := (.object "com/example/done_once/doneonce/core/JobStatus")) (t' := (.object "java/lang/String")) (by decide) (by decide)))) (Or.inr (slot_ne (Or.inr (hwk hw 153 rfl)) (Or.inr (hwk hw 157 rfl)) (by decide) (t := (.object "com/example/done_once/doneonce/core/JobStatus")) (t' := (.object "java/lang/String")) (by decide) (by decide))))
  obtain ⟨fs, hr, hrun, hended, hRE⟩ := X140.leaveW hS108 (show _ ≤ T140.heap.size from by rw [e140]; exact (Nat.le_trans hk108 (Nat.le_trans (Nat.le_trans (Nat.le_trans (Nat.le_trans (Nat.le_trans (Nat.le_trans (Nat.le_trans (Nat.le_trans (Nat.le_trans (Nat.le_trans (Nat.le_refl _) (Nat.le_of_eq W113.size.symm)) (Nat.le_of_eq W116.size.symm)) (Nat.le_of_eq W119.size.symm)) (Nat.le_of_eq W122.size.symm)) (Nat.le_of_eq W125.size.symm)) (Nat.le_of_eq W128.size.symm)) (Nat.le_of_eq W131.size.symm)) (Nat.le_of_eq W134.size.symm)) (Nat.le_of_eq W137.size.symm)) (Nat.le_of_eq W140.size.symm)))) (v := none) (fun _ => rfl)
  refine ⟨_, _, pre0 _ ?_, hrun, hended, _, _, rfl, ?_, hRE.1, hRE.2.1, hRE.2.2.1, hRE.2.2.2.mono (by decide) (by decide)⟩
  · show Steps p.tables e below (s₁.setTop (mkF m 0 #[.val (.ref a1), .val (.ref j1), .val (.ref i2), .val (.ref l3), .val (.ref t4), .val (.ref m5), .val .null, .val (.long q7), .second, .val (.ref u9), .val .null, .val .null] [])) _
    refine XS.aloadN X0.here hx rfl (hb hby d14_0) rfl rfl ?_
    show Steps p.tables e below (s₁.setTop (mkF m 1 #[.val (.ref a1), .val (.ref j1), .val (.ref i2), .val (.ref l3), .val (.ref t4), .val (.ref m5), .val .null, .val (.long q7), .second, .val (.ref u9), .val .null, .val .null] [(.ref a1)])) _
    refine st101.trans ?_
    show Steps p.tables e below (T101.setTop (mkF m 4 #[.val (.ref a1), .val (.ref j1), .val (.ref i2), .val (.ref l3), .val (.ref t4), .val (.ref m5), .val .null, .val (.long q7), .second, .val (.ref u9), .val .null, .val .null] [])) _
    refine XS.aloadN X101.here hx rfl (hb hby d14_4) rfl rfl ?_
    show Steps p.tables e below (T101.setTop (mkF m 5 #[.val (.ref a1), .val (.ref j1), .val (.ref i2), .val (.ref l3), .val (.ref t4), .val (.ref m5), .val .null, .val (.long q7), .second, .val (.ref u9), .val .null, .val .null] [(.ref j1)])) _
    refine st102 _ ?_
    show Steps p.tables e below (T102.setTop (mkF m 7 #[.val (.ref a1), .val (.ref j1), .val (.ref i2), .val (.ref l3), .val (.ref t4), .val (.ref m5), .val .null, .val (.long q7), .second, .val (.ref u9), .val .null, .val .null] [(.ref a102), (.ref j1)])) _
    refine st104 _ ?_
    show Steps p.tables e below (T104.setTop (mkF m 10 #[.val (.ref a1), .val (.ref j1), .val (.ref i2), .val (.ref l3), .val (.ref t4), .val (.ref m5), .val .null, .val (.long q7), .second, .val (.ref u9), .val .null, .val .null] [(.ref j1)])) _
    refine XS.pop X104.here hx rfl (hb hby d14_10) rfl rfl ?_
    show Steps p.tables e below (T104.setTop (mkF m 11 #[.val (.ref a1), .val (.ref j1), .val (.ref i2), .val (.ref l3), .val (.ref t4), .val (.ref m5), .val .null, .val (.long q7), .second, .val (.ref u9), .val .null, .val .null] [])) _
    refine XS.aloadN X104.here hx rfl (hb hby d14_11) rfl rfl ?_
    show Steps p.tables e below (T104.setTop (mkF m 12 #[.val (.ref a1), .val (.ref j1), .val (.ref i2), .val (.ref l3), .val (.ref t4), .val (.ref m5), .val .null, .val (.long q7), .second, .val (.ref u9), .val .null, .val .null] [(.ref i2)])) _
    refine st105 _ ?_
    show Steps p.tables e below (T105.setTop (mkF m 14 #[.val (.ref a1), .val (.ref j1), .val (.ref i2), .val (.ref l3), .val (.ref t4), .val (.ref m5), .val .null, .val (.long q7), .second, .val (.ref u9), .val .null, .val .null] [(.ref a105), (.ref i2)])) _
    refine st107 _ ?_
    show Steps p.tables e below (T107.setTop (mkF m 17 #[.val (.ref a1), .val (.ref j1), .val (.ref i2), .val (.ref l3), .val (.ref t4), .val (.ref m5), .val .null, .val (.long q7), .second, .val (.ref u9), .val .null, .val .null] [(.ref i2)])) _
    refine XS.pop X107.here hx rfl (hb hby d14_17) rfl rfl ?_
    show Steps p.tables e below (T107.setTop (mkF m 18 #[.val (.ref a1), .val (.ref j1), .val (.ref i2), .val (.ref l3), .val (.ref t4), .val (.ref m5), .val .null, .val (.long q7), .second, .val (.ref u9), .val .null, .val .null] [])) _
    refine XS.aload X107.here hx rfl (hb hby d14_18) rfl rfl ?_
    show Steps p.tables e below (T107.setTop (mkF m 20 #[.val (.ref a1), .val (.ref j1), .val (.ref i2), .val (.ref l3), .val (.ref t4), .val (.ref m5), .val .null, .val (.long q7), .second, .val (.ref u9), .val .null, .val .null] [(.ref u9)])) _
    refine st108 _ ?_
    show Steps p.tables e below (T108.setTop (mkF m 22 #[.val (.ref a1), .val (.ref j1), .val (.ref i2), .val (.ref l3), .val (.ref t4), .val (.ref m5), .val .null, .val (.long q7), .second, .val (.ref u9), .val .null, .val .null] [(.ref a108), (.ref u9)])) _
    refine st110 _ ?_
    show Steps p.tables e below (T110.setTop (mkF m 25 #[.val (.ref a1), .val (.ref j1), .val (.ref i2), .val (.ref l3), .val (.ref t4), .val (.ref m5), .val .null, .val (.long q7), .second, .val (.ref u9), .val .null, .val .null] [(.ref u9)])) _
    refine XS.pop X110.here hx rfl (hb hby d14_25) rfl rfl ?_
    show Steps p.tables e below (T110.setTop (mkF m 26 #[.val (.ref a1), .val (.ref j1), .val (.ref i2), .val (.ref l3), .val (.ref t4), .val (.ref m5), .val .null, .val (.long q7), .second, .val (.ref u9), .val .null, .val .null] [])) _
    refine XS.aloadN X110.here hx rfl (hb hby d14_26) rfl rfl ?_
    show Steps p.tables e below (T110.setTop (mkF m 27 #[.val (.ref a1), .val (.ref j1), .val (.ref i2), .val (.ref l3), .val (.ref t4), .val (.ref m5), .val .null, .val (.long q7), .second, .val (.ref u9), .val .null, .val .null] [(.ref a1)])) _
    refine XS.aloadN X110.here hx rfl (hb hby d14_27) rfl rfl ?_
    show Steps p.tables e below (T110.setTop (mkF m 28 #[.val (.ref a1), .val (.ref j1), .val (.ref i2), .val (.ref l3), .val (.ref t4), .val (.ref m5), .val .null, .val (.long q7), .second, .val (.ref u9), .val .null, .val .null] [(.ref j1), (.ref a1)])) _
    refine st113 _ ?_
    show Steps p.tables e below (T113.setTop (mkF m 31 #[.val (.ref a1), .val (.ref j1), .val (.ref i2), .val (.ref l3), .val (.ref t4), .val (.ref m5), .val .null, .val (.long q7), .second, .val (.ref u9), .val .null, .val .null] [])) _
    refine XS.aloadN X113.here hx rfl (hb hby d14_31) rfl rfl ?_
    show Steps p.tables e below (T113.setTop (mkF m 32 #[.val (.ref a1), .val (.ref j1), .val (.ref i2), .val (.ref l3), .val (.ref t4), .val (.ref m5), .val .null, .val (.long q7), .second, .val (.ref u9), .val .null, .val .null] [(.ref a1)])) _
    refine XS.aloadN X113.here hx rfl (hb hby d14_32) rfl rfl ?_
    show Steps p.tables e below (T113.setTop (mkF m 33 #[.val (.ref a1), .val (.ref j1), .val (.ref i2), .val (.ref l3), .val (.ref t4), .val (.ref m5), .val .null, .val (.long q7), .second, .val (.ref u9), .val .null, .val .null] [(.ref i2), (.ref a1)])) _
    refine st116 _ ?_
    show Steps p.tables e below (T116.setTop (mkF m 36 #[.val (.ref a1), .val (.ref j1), .val (.ref i2), .val (.ref l3), .val (.ref t4), .val (.ref m5), .val .null, .val (.long q7), .second, .val (.ref u9), .val .null, .val .null] [])) _
    refine XS.aloadN X116.here hx rfl (hb hby d14_36) rfl rfl ?_
    show Steps p.tables e below (T116.setTop (mkF m 37 #[.val (.ref a1), .val (.ref j1), .val (.ref i2), .val (.ref l3), .val (.ref t4), .val (.ref m5), .val .null, .val (.long q7), .second, .val (.ref u9), .val .null, .val .null] [(.ref a1)])) _
    refine XS.aloadN X116.here hx rfl (hb hby d14_37) rfl rfl ?_
    show Steps p.tables e below (T116.setTop (mkF m 38 #[.val (.ref a1), .val (.ref j1), .val (.ref i2), .val (.ref l3), .val (.ref t4), .val (.ref m5), .val .null, .val (.long q7), .second, .val (.ref u9), .val .null, .val .null] [(.ref l3), (.ref a1)])) _
    refine st119 _ ?_
    show Steps p.tables e below (T119.setTop (mkF m 41 #[.val (.ref a1), .val (.ref j1), .val (.ref i2), .val (.ref l3), .val (.ref t4), .val (.ref m5), .val .null, .val (.long q7), .second, .val (.ref u9), .val .null, .val .null] [])) _
    refine XS.aloadN X119.here hx rfl (hb hby d14_41) rfl rfl ?_
    show Steps p.tables e below (T119.setTop (mkF m 42 #[.val (.ref a1), .val (.ref j1), .val (.ref i2), .val (.ref l3), .val (.ref t4), .val (.ref m5), .val .null, .val (.long q7), .second, .val (.ref u9), .val .null, .val .null] [(.ref a1)])) _
    refine XS.aload X119.here hx rfl (hb hby d14_42) rfl rfl ?_
    show Steps p.tables e below (T119.setTop (mkF m 44 #[.val (.ref a1), .val (.ref j1), .val (.ref i2), .val (.ref l3), .val (.ref t4), .val (.ref m5), .val .null, .val (.long q7), .second, .val (.ref u9), .val .null, .val .null] [(.ref t4), (.ref a1)])) _
    refine st122 _ ?_
    show Steps p.tables e below (T122.setTop (mkF m 47 #[.val (.ref a1), .val (.ref j1), .val (.ref i2), .val (.ref l3), .val (.ref t4), .val (.ref m5), .val .null, .val (.long q7), .second, .val (.ref u9), .val .null, .val .null] [])) _
    refine XS.aloadN X122.here hx rfl (hb hby d14_47) rfl rfl ?_
    show Steps p.tables e below (T122.setTop (mkF m 48 #[.val (.ref a1), .val (.ref j1), .val (.ref i2), .val (.ref l3), .val (.ref t4), .val (.ref m5), .val .null, .val (.long q7), .second, .val (.ref u9), .val .null, .val .null] [(.ref a1)])) _
    refine XS.aload X122.here hx rfl (hb hby d14_48) rfl rfl ?_
    show Steps p.tables e below (T122.setTop (mkF m 50 #[.val (.ref a1), .val (.ref j1), .val (.ref i2), .val (.ref l3), .val (.ref t4), .val (.ref m5), .val .null, .val (.long q7), .second, .val (.ref u9), .val .null, .val .null] [(.ref m5), (.ref a1)])) _
    refine st125 _ ?_
    show Steps p.tables e below (T125.setTop (mkF m 53 #[.val (.ref a1), .val (.ref j1), .val (.ref i2), .val (.ref l3), .val (.ref t4), .val (.ref m5), .val .null, .val (.long q7), .second, .val (.ref u9), .val .null, .val .null] [])) _
    refine XS.aloadN X125.here hx rfl (hb hby d14_53) rfl rfl ?_
    show Steps p.tables e below (T125.setTop (mkF m 54 #[.val (.ref a1), .val (.ref j1), .val (.ref i2), .val (.ref l3), .val (.ref t4), .val (.ref m5), .val .null, .val (.long q7), .second, .val (.ref u9), .val .null, .val .null] [(.ref a1)])) _
    refine XS.aload X125.here hx rfl (hb hby d14_54) rfl rfl ?_
    show Steps p.tables e below (T125.setTop (mkF m 56 #[.val (.ref a1), .val (.ref j1), .val (.ref i2), .val (.ref l3), .val (.ref t4), .val (.ref m5), .val .null, .val (.long q7), .second, .val (.ref u9), .val .null, .val .null] [.null, (.ref a1)])) _
    refine st128 _ ?_
    show Steps p.tables e below (T128.setTop (mkF m 59 #[.val (.ref a1), .val (.ref j1), .val (.ref i2), .val (.ref l3), .val (.ref t4), .val (.ref m5), .val .null, .val (.long q7), .second, .val (.ref u9), .val .null, .val .null] [])) _
    refine XS.aloadN X128.here hx rfl (hb hby d14_59) rfl rfl ?_
    show Steps p.tables e below (T128.setTop (mkF m 60 #[.val (.ref a1), .val (.ref j1), .val (.ref i2), .val (.ref l3), .val (.ref t4), .val (.ref m5), .val .null, .val (.long q7), .second, .val (.ref u9), .val .null, .val .null] [(.ref a1)])) _
    refine XS.lload X128.here hx rfl (hb hby d14_60) rfl ?_
    show Steps p.tables e below (T128.setTop (mkF m 62 #[.val (.ref a1), .val (.ref j1), .val (.ref i2), .val (.ref l3), .val (.ref t4), .val (.ref m5), .val .null, .val (.long q7), .second, .val (.ref u9), .val .null, .val .null] [(.long q7), (.ref a1)])) _
    refine st131 _ ?_
    show Steps p.tables e below (T131.setTop (mkF m 65 #[.val (.ref a1), .val (.ref j1), .val (.ref i2), .val (.ref l3), .val (.ref t4), .val (.ref m5), .val .null, .val (.long q7), .second, .val (.ref u9), .val .null, .val .null] [])) _
    refine XS.aloadN X131.here hx rfl (hb hby d14_65) rfl rfl ?_
    show Steps p.tables e below (T131.setTop (mkF m 66 #[.val (.ref a1), .val (.ref j1), .val (.ref i2), .val (.ref l3), .val (.ref t4), .val (.ref m5), .val .null, .val (.long q7), .second, .val (.ref u9), .val .null, .val .null] [(.ref a1)])) _
    refine XS.aload X131.here hx rfl (hb hby d14_66) rfl rfl ?_
    show Steps p.tables e below (T131.setTop (mkF m 68 #[.val (.ref a1), .val (.ref j1), .val (.ref i2), .val (.ref l3), .val (.ref t4), .val (.ref m5), .val .null, .val (.long q7), .second, .val (.ref u9), .val .null, .val .null] [(.ref u9), (.ref a1)])) _
    refine st134 _ ?_
    show Steps p.tables e below (T134.setTop (mkF m 71 #[.val (.ref a1), .val (.ref j1), .val (.ref i2), .val (.ref l3), .val (.ref t4), .val (.ref m5), .val .null, .val (.long q7), .second, .val (.ref u9), .val .null, .val .null] [])) _
    refine XS.aloadN X134.here hx rfl (hb hby d14_71) rfl rfl ?_
    show Steps p.tables e below (T134.setTop (mkF m 72 #[.val (.ref a1), .val (.ref j1), .val (.ref i2), .val (.ref l3), .val (.ref t4), .val (.ref m5), .val .null, .val (.long q7), .second, .val (.ref u9), .val .null, .val .null] [(.ref a1)])) _
    refine XS.aload X134.here hx rfl (hb hby d14_72) rfl rfl ?_
    show Steps p.tables e below (T134.setTop (mkF m 74 #[.val (.ref a1), .val (.ref j1), .val (.ref i2), .val (.ref l3), .val (.ref t4), .val (.ref m5), .val .null, .val (.long q7), .second, .val (.ref u9), .val .null, .val .null] [.null, (.ref a1)])) _
    refine st137 _ ?_
    show Steps p.tables e below (T137.setTop (mkF m 77 #[.val (.ref a1), .val (.ref j1), .val (.ref i2), .val (.ref l3), .val (.ref t4), .val (.ref m5), .val .null, .val (.long q7), .second, .val (.ref u9), .val .null, .val .null] [])) _
    refine XS.aloadN X137.here hx rfl (hb hby d14_77) rfl rfl ?_
    show Steps p.tables e below (T137.setTop (mkF m 78 #[.val (.ref a1), .val (.ref j1), .val (.ref i2), .val (.ref l3), .val (.ref t4), .val (.ref m5), .val .null, .val (.long q7), .second, .val (.ref u9), .val .null, .val .null] [(.ref a1)])) _
    refine XS.aload X137.here hx rfl (hb hby d14_78) rfl rfl ?_
    show Steps p.tables e below (T137.setTop (mkF m 80 #[.val (.ref a1), .val (.ref j1), .val (.ref i2), .val (.ref l3), .val (.ref t4), .val (.ref m5), .val .null, .val (.long q7), .second, .val (.ref u9), .val .null, .val .null] [.null, (.ref a1)])) _
    refine st140 _ ?_
    show Steps p.tables e below (T140.setTop (mkF m 83 #[.val (.ref a1), .val (.ref j1), .val (.ref i2), .val (.ref l3), .val (.ref t4), .val (.ref m5), .val .null, .val (.long q7), .second, .val (.ref u9), .val .null, .val .null] [])) _
    exact X140.returnOut hx Bd.returns (hb hby d14_83) hr
  · show Q_rm14 Z a1 j1 i2 l3 t4 m5 q7 u9 h0 n0 _ T140.heap _
    rw [e140]
    unfold Q_rm14
    exact ⟨rfl, N140, K153, c154, c155⟩
theorem own_job (j : Int32) (h : ¬ (j < (0 : Int32))) : (nar .boolean (nar .boolean (T12 j))) = (if j < (2 : Int32) then (0 : Int32) else (1 : Int32)) := by
  unfold T12
  by_cases h0 : j = 0
  · subst h0; rfl
  · by_cases h1 : j = 1
    · subst h1; rfl
    · have h2 : ¬ (j < (2 : Int32)) := by
        rw [Int32.lt_iff_toInt_lt] at h ⊢
        rw [← Int32.toInt_inj] at h0 h1
        have e0 : (0 : Int32).toInt = 0 := by decide
        have e1 : (1 : Int32).toInt = 1 := by decide
        have e2 : (2 : Int32).toInt = 2 := by decide
        omega
      rw [if_neg h0, if_neg h1, if_neg h2]; rfl

theorem ef_rm0 (m : MethodId) (x0 : Int32) (x1 : Int32) (x2 : Int32) (x3 : Int32) (x4 : Int32) (x5 : Int64) : entryFrame m #[(.int x0), (.int x1), (.int x2), (.int x3), (.int x4), (.long x5)] maxLocals = mkF m 0 #[.val (.int x0), .val (.int x1), .val (.int x2), .val (.int x3), .val (.int x4), .val (.long x5), .second, .unset, .unset, .unset, .unset, .unset, .unset, .unset, .unset, .unset, .unset, .unset, .unset, .unset] [] := by first | (simp [entryFrame, mkF, argsToLocals, Value.category, maxLocals]; done) | rfl
def Q_rm0 (Z : State) (p0 : Int32) (p1 : Int32) (p2 : Int32) (p3 : Int32) (p4 : Int32) (p5 : Int64) (w_JobState_QUEUED : Addr) (w_JobState_FAILED : Addr) (w_JobState_RUNNING : Addr) (w_JobState_TIMEOUT : Addr) (w_RequestKind_JOB : Addr) (w_Execution_PENDING : Addr) (w_JobState_SUCCEEDED : Addr) (w_Execution_UNKNOWN : Addr) (w_JobState_CANCELLED : Addr) (w_Execution_EXECUTED : Addr) (w_RequestKind_EXECUTE : Addr) (w_Execution_NOT_EXECUTED : Addr) (w_RequestState_FAILED : Addr) (w_RequestState_SUCCEEDED : Addr) (w_RequestState_CANCELLED : Addr) (w_RequestState_WAITING_READY : Addr) (zc : Int32) (h0 : Heap) (n0 : Nat) (v : Option Value) (h : Heap) (L : List Loc) : Prop := (v = some (.int (1 : Int32))) ∧ (Fr n0 L) ∧ (Keep h0 h [])
theorem pd_8 : parseMethodDescriptor "(I)Lcom/example/done_once/doneonce/core/Execution;" = some ⟨[.int], some (.object "com/example/done_once/doneonce/core/Execution")⟩ := by decide +kernel
theorem pd_9 : parseMethodDescriptor "(C)Ljava/lang/String;" = some ⟨[.char], some (.object "java/lang/String")⟩ := by decide +kernel
theorem pd_10 : parseMethodDescriptor "(I)Lcom/example/done_once/doneonce/core/JobState;" = some ⟨[.int], some (.object "com/example/done_once/doneonce/core/JobState")⟩ := by decide +kernel
theorem pd_11 : parseMethodDescriptor "(Lcom/example/done_once/doneonce/core/JobState;Lcom/example/done_once/doneonce/core/Execution;Ljava/lang/String;ZZ)V" = some ⟨[(.object "com/example/done_once/doneonce/core/JobState"), (.object "com/example/done_once/doneonce/core/Execution"), (.object "java/lang/String"), .boolean, .boolean], none⟩ := by decide +kernel
theorem pd_12 : parseMethodDescriptor "(Ljava/lang/String;Ljava/lang/String;Ljava/lang/String;Ljava/lang/String;Ljava/lang/String;Ljava/lang/String;JLcom/example/done_once/doneonce/core/JobStatus;Ljava/lang/String;Ljava/lang/String;)V" = some ⟨[(.object "java/lang/String"), (.object "java/lang/String"), (.object "java/lang/String"), (.object "java/lang/String"), (.object "java/lang/String"), (.object "java/lang/String"), .long, (.object "com/example/done_once/doneonce/core/JobStatus"), (.object "java/lang/String"), (.object "java/lang/String")], none⟩ := by decide +kernel
theorem pd_13 : parseMethodDescriptor "(Ljava/lang/String;Lcom/example/done_once/doneonce/core/RequestKind;Ljava/lang/String;Ljava/lang/String;Lcom/example/done_once/doneonce/core/RequestState;Ljava/lang/String;Lcom/example/done_once/doneonce/store/Job;)V" = some ⟨[(.object "java/lang/String"), (.object "com/example/done_once/doneonce/core/RequestKind"), (.object "java/lang/String"), (.object "java/lang/String"), (.object "com/example/done_once/doneonce/core/RequestState"), (.object "java/lang/String"), (.object "com/example/done_once/doneonce/store/Job")], none⟩ := by decide +kernel
set_option maxRecDepth 65536 in
set_option maxHeartbeats 40000000 in
theorem rm0 (l : Launch) (Z : State) (a0 : Array Value) (hw : ∀ d ∈ tables_1, d.before a0 Z = true) (ws : List Jvm.Cond) (p0 : Int32) (p1 : Int32) (p2 : Int32) (p3 : Int32) (p4 : Int32) (p5 : Int64) (w_JobState_QUEUED : Addr) (w_JobState_FAILED : Addr) (w_JobState_RUNNING : Addr) (w_JobState_TIMEOUT : Addr) (w_RequestKind_JOB : Addr) (w_Execution_PENDING : Addr) (w_JobState_SUCCEEDED : Addr) (w_Execution_UNKNOWN : Addr) (w_JobState_CANCELLED : Addr) (w_Execution_EXECUTED : Addr) (w_RequestKind_EXECUTE : Addr) (w_Execution_NOT_EXECUTED : Addr) (w_RequestState_FAILED : Addr) (w_RequestState_SUCCEEDED : Addr) (w_RequestState_CANCELLED : Addr) (w_RequestState_WAITING_READY : Addr) (zc : Int32) (h0 : Heap) (n0 : Nat) (O0 : Old Z n0 h0) (S_JobState_QUEUED : Sta Z Z.heap "com/example/done_once/doneonce/core/JobState" "QUEUED" "Lcom/example/done_once/doneonce/core/JobState;" (.ref w_JobState_QUEUED)) (E_w_JobState_QUEUED : Exa Z Z.heap w_JobState_QUEUED "com/example/done_once/doneonce/core/JobState") (S_JobState_FAILED : Sta Z Z.heap "com/example/done_once/doneonce/core/JobState" "FAILED" "Lcom/example/done_once/doneonce/core/JobState;" (.ref w_JobState_FAILED)) (E_w_JobState_FAILED : Exa Z Z.heap w_JobState_FAILED "com/example/done_once/doneonce/core/JobState") (S_JobState_RUNNING : Sta Z Z.heap "com/example/done_once/doneonce/core/JobState" "RUNNING" "Lcom/example/done_once/doneonce/core/JobState;" (.ref w_JobState_RUNNING)) (E_w_JobState_RUNNING : Exa Z Z.heap w_JobState_RUNNING "com/example/done_once/doneonce/core/JobState") (S_JobState_TIMEOUT : Sta Z Z.heap "com/example/done_once/doneonce/core/JobState" "TIMEOUT" "Lcom/example/done_once/doneonce/core/JobState;" (.ref w_JobState_TIMEOUT)) (E_w_JobState_TIMEOUT : Exa Z Z.heap w_JobState_TIMEOUT "com/example/done_once/doneonce/core/JobState") (S_RequestKind_JOB : Sta Z Z.heap "com/example/done_once/doneonce/core/RequestKind" "JOB" "Lcom/example/done_once/doneonce/core/RequestKind;" (.ref w_RequestKind_JOB)) (E_w_RequestKind_JOB : Exa Z Z.heap w_RequestKind_JOB "com/example/done_once/doneonce/core/RequestKind") (S_Execution_PENDING : Sta Z Z.heap "com/example/done_once/doneonce/core/Execution" "PENDING" "Lcom/example/done_once/doneonce/core/Execution;" (.ref w_Execution_PENDING)) (E_w_Execution_PENDING : Exa Z Z.heap w_Execution_PENDING "com/example/done_once/doneonce/core/Execution") (S_JobState_SUCCEEDED : Sta Z Z.heap "com/example/done_once/doneonce/core/JobState" "SUCCEEDED" "Lcom/example/done_once/doneonce/core/JobState;" (.ref w_JobState_SUCCEEDED)) (E_w_JobState_SUCCEEDED : Exa Z Z.heap w_JobState_SUCCEEDED "com/example/done_once/doneonce/core/JobState") (S_Execution_UNKNOWN : Sta Z Z.heap "com/example/done_once/doneonce/core/Execution" "UNKNOWN" "Lcom/example/done_once/doneonce/core/Execution;" (.ref w_Execution_UNKNOWN)) (E_w_Execution_UNKNOWN : Exa Z Z.heap w_Execution_UNKNOWN "com/example/done_once/doneonce/core/Execution") (S_JobState_CANCELLED : Sta Z Z.heap "com/example/done_once/doneonce/core/JobState" "CANCELLED" "Lcom/example/done_once/doneonce/core/JobState;" (.ref w_JobState_CANCELLED)) (E_w_JobState_CANCELLED : Exa Z Z.heap w_JobState_CANCELLED "com/example/done_once/doneonce/core/JobState") (S_Execution_EXECUTED : Sta Z Z.heap "com/example/done_once/doneonce/core/Execution" "EXECUTED" "Lcom/example/done_once/doneonce/core/Execution;" (.ref w_Execution_EXECUTED)) (E_w_Execution_EXECUTED : Exa Z Z.heap w_Execution_EXECUTED "com/example/done_once/doneonce/core/Execution") (S_RequestKind_EXECUTE : Sta Z Z.heap "com/example/done_once/doneonce/core/RequestKind" "EXECUTE" "Lcom/example/done_once/doneonce/core/RequestKind;" (.ref w_RequestKind_EXECUTE)) (E_w_RequestKind_EXECUTE : Exa Z Z.heap w_RequestKind_EXECUTE "com/example/done_once/doneonce/core/RequestKind") (S_Execution_NOT_EXECUTED : Sta Z Z.heap "com/example/done_once/doneonce/core/Execution" "NOT_EXECUTED" "Lcom/example/done_once/doneonce/core/Execution;" (.ref w_Execution_NOT_EXECUTED)) (E_w_Execution_NOT_EXECUTED : Exa Z Z.heap w_Execution_NOT_EXECUTED "com/example/done_once/doneonce/core/Execution") (S_RequestState_FAILED : Sta Z Z.heap "com/example/done_once/doneonce/core/RequestState" "FAILED" "Lcom/example/done_once/doneonce/core/RequestState;" (.ref w_RequestState_FAILED)) (E_w_RequestState_FAILED : Exa Z Z.heap w_RequestState_FAILED "com/example/done_once/doneonce/core/RequestState") (S_RequestState_SUCCEEDED : Sta Z Z.heap "com/example/done_once/doneonce/core/RequestState" "SUCCEEDED" "Lcom/example/done_once/doneonce/core/RequestState;" (.ref w_RequestState_SUCCEEDED)) (E_w_RequestState_SUCCEEDED : Exa Z Z.heap w_RequestState_SUCCEEDED "com/example/done_once/doneonce/core/RequestState") (S_RequestState_CANCELLED : Sta Z Z.heap "com/example/done_once/doneonce/core/RequestState" "CANCELLED" "Lcom/example/done_once/doneonce/core/RequestState;" (.ref w_RequestState_CANCELLED)) (E_w_RequestState_CANCELLED : Exa Z Z.heap w_RequestState_CANCELLED "com/example/done_once/doneonce/core/RequestState") (S_RequestState_WAITING_READY : Sta Z Z.heap "com/example/done_once/doneonce/core/RequestState" "WAITING_READY" "Lcom/example/done_once/doneonce/core/RequestState;" (.ref w_RequestState_WAITING_READY)) (E_w_RequestState_WAITING_READY : Exa Z Z.heap w_RequestState_WAITING_READY "com/example/done_once/doneonce/core/RequestState") (F_w_RequestState_WAITING_READY_ordinal : Fld Z Z.heap w_RequestState_WAITING_READY "java/lang/Enum" "ordinal" "I" (.int (0 : Int32))) (F_w_RequestState_SUCCEEDED_ordinal : Fld Z Z.heap w_RequestState_SUCCEEDED "java/lang/Enum" "ordinal" "I" (.int (1 : Int32))) (F_w_RequestState_WAITING_READY_terminal : Fld Z Z.heap w_RequestState_WAITING_READY "com/example/done_once/doneonce/core/RequestState" "terminal" "Z" (.int (0 : Int32))) (F_w_RequestState_FAILED_ordinal : Fld Z Z.heap w_RequestState_FAILED "java/lang/Enum" "ordinal" "I" (.int (2 : Int32))) (F_w_RequestState_FAILED_terminal : Fld Z Z.heap w_RequestState_FAILED "com/example/done_once/doneonce/core/RequestState" "terminal" "Z" (.int (1 : Int32))) (F_w_JobState_SUCCEEDED_terminal : Fld Z Z.heap w_JobState_SUCCEEDED "com/example/done_once/doneonce/core/JobState" "terminal" "Z" (.int (1 : Int32))) (F_w_RequestState_CANCELLED_ordinal : Fld Z Z.heap w_RequestState_CANCELLED "java/lang/Enum" "ordinal" "I" (.int (3 : Int32))) (F_w_RequestState_CANCELLED_terminal : Fld Z Z.heap w_RequestState_CANCELLED "com/example/done_once/doneonce/core/RequestState" "terminal" "Z" (.int (1 : Int32))) (F_w_JobState_RUNNING_terminal : Fld Z Z.heap w_JobState_RUNNING "com/example/done_once/doneonce/core/JobState" "terminal" "Z" (.int (0 : Int32))) (F_w_JobState_QUEUED_terminal : Fld Z Z.heap w_JobState_QUEUED "com/example/done_once/doneonce/core/JobState" "terminal" "Z" (.int (0 : Int32))) (F_w_JobState_FAILED_terminal : Fld Z Z.heap w_JobState_FAILED "com/example/done_once/doneonce/core/JobState" "terminal" "Z" (.int (1 : Int32))) (F_w_JobState_TIMEOUT_terminal : Fld Z Z.heap w_JobState_TIMEOUT "com/example/done_once/doneonce/core/JobState" "terminal" "Z" (.int (1 : Int32))) (F_w_JobState_CANCELLED_terminal : Fld Z Z.heap w_JobState_CANCELLED "com/example/done_once/doneonce/core/JobState" "terminal" "Z" (.int (1 : Int32))) (F_w_RequestState_SUCCEEDED_terminal : Fld Z Z.heap w_RequestState_SUCCEEDED "com/example/done_once/doneonce/core/RequestState" "terminal" "Z" (.int (1 : Int32))) (SZ : Sta Z Z.heap "java/lang/String" "COMPACT_STRINGS" "Z" (.int zc)) (PZ : ¬ (zc = (0 : Int32))) :
    MetFree l x (head1 (Jvm.Cond.code x code maxLocals ret :: ws) room_1) (fun a U => a = #[(.int p0), (.int p1), (.int p2), (.int p3), (.int p4), (.long p5)] ∧ Z.Warmed39 U.vm ∧ U.heap = h0) (fun _ _ _ _ _ => True) (fun _ U o U' => ∃ v L, o = .returned v ∧ Q_rm0 Z p0 p1 p2 p3 p4 p5 w_JobState_QUEUED w_JobState_FAILED w_JobState_RUNNING w_JobState_TIMEOUT w_RequestKind_JOB w_Execution_PENDING w_JobState_SUCCEEDED w_Execution_UNKNOWN w_JobState_CANCELLED w_Execution_EXECUTED w_RequestKind_EXECUTE w_Execution_NOT_EXECUTED w_RequestState_FAILED w_RequestState_SUCCEEDED w_RequestState_CANCELLED w_RequestState_WAITING_READY zc h0 n0 v U'.heap L ∧ ReturnedEndW U o U' L room_1.cells room_1.slots) := by
  refine MetFree.of_bodySF (plainFor_of_name pn_0) hisR ?_
  intro p e s m args below meth c s₁ Bd hml0 hP hK
  obtain ⟨rfl, hZ, hh⟩ := hP
  have hx := Bd.exec
  have hby := Bd.bytes
  have hml : c.maxLocals = 20 := hml0
  have hown : s.vm.findClass "com/example/done_once/doneonce/store/RequestEndedPinLaw" = some m.cls := findClass_of_methodNamed Bd.named
  have hnm := (name_of_methodNamed Bd.named Bd.method).1
  have hS0 : s.Since s.vm h0.size := (State.WarmedH.refl s).since _
  have hstr : ∀ a ∈ Bundle.stringAtoms, a.before a0 Z = true := own_str hw
  have X0 : Stand p l e room_1 (s.setVm s.vm) m #[(.int p0), (.int p1), (.int p2), (.int p3), (.int p4), (.long p5)] below meth c s₁ [] 0 0 := Stand.of_body Bd
  have e0 : s₁.heap = h0 := by rw [← hh, Bd.state]; rfl
  have N0 := Fr.nil n0
  have Z0 : n0 ≤ h0.size := old_le O0
  have pre0 : ∀ t, Steps p.tables e below (s₁.setTop (mkF m 0 #[.val (.int p0), .val (.int p1), .val (.int p2), .val (.int p3), .val (.int p4), .val (.long p5), .second, .unset, .unset, .unset, .unset, .unset, .unset, .unset, .unset, .unset, .unset, .unset, .unset, .unset] [])) t → Steps p.tables e below (s₁.setTop (entryFrame m #[(.int p0), (.int p1), (.int p2), (.int p3), (.int p4), (.long p5)] maxLocals)) t := fun t k => castTop (ef_rm0 m p0 p1 p2 p3 p4 p5) k
  have S101 : ∀ t, Steps p.tables e below (s₁.setTop (mkF m 20 #[.val (.int p0), .val (.int p1), .val (.int p2), .val (.int p3), .val (.int p4), .val (.long p5), .second, .val (.int ((p0 &&& (2147483647 : Int32)) % (4 : Int32))), .val (.int ((p1 &&& (2147483647 : Int32)) % (6 : Int32))), .unset, .unset, .unset, .unset, .unset, .unset, .unset, .unset, .unset, .unset, .unset] [(.int (p2 &&& (1 : Int32)))])) t → Steps p.tables e below (s₁.setTop (entryFrame m #[(.int p0), (.int p1), (.int p2), (.int p3), (.int p4), (.long p5)] maxLocals)) t := fun t k => by
    refine pre0 t ?_
    show Steps p.tables e below (s₁.setTop (mkF m 0 #[.val (.int p0), .val (.int p1), .val (.int p2), .val (.int p3), .val (.int p4), .val (.long p5), .second, .unset, .unset, .unset, .unset, .unset, .unset, .unset, .unset, .unset, .unset, .unset, .unset, .unset] [])) _
    refine XS.iloadN X0.here hx rfl (hb hby at_0) rfl ?_
    show Steps p.tables e below (s₁.setTop (mkF m 1 #[.val (.int p0), .val (.int p1), .val (.int p2), .val (.int p3), .val (.int p4), .val (.long p5), .second, .unset, .unset, .unset, .unset, .unset, .unset, .unset, .unset, .unset, .unset, .unset, .unset, .unset] [(.int p0)])) _
    refine X0.ldcInt hx hown (mvT hZ (hwk hw 0 rfl)) (g := (mkF m 1 #[.val (.int p0), .val (.int p1), .val (.int p2), .val (.int p3), .val (.int p4), .val (.long p5), .second, .unset, .unset, .unset, .unset, .unset, .unset, .unset, .unset, .unset, .unset, .unset, .unset, .unset] [(.int p0)])) rfl (hb hby at_1) _ ?_
    show Steps p.tables e below (s₁.setTop (mkF m 3 #[.val (.int p0), .val (.int p1), .val (.int p2), .val (.int p3), .val (.int p4), .val (.long p5), .second, .unset, .unset, .unset, .unset, .unset, .unset, .unset, .unset, .unset, .unset, .unset, .unset, .unset] [(.int (2147483647 : Int32)), (.int p0)])) _
    refine XS.iand X0.here hx rfl (hb hby at_3) rfl ?_
    show Steps p.tables e below (s₁.setTop (mkF m 4 #[.val (.int p0), .val (.int p1), .val (.int p2), .val (.int p3), .val (.int p4), .val (.long p5), .second, .unset, .unset, .unset, .unset, .unset, .unset, .unset, .unset, .unset, .unset, .unset, .unset, .unset] [(.int (p0 &&& (2147483647 : Int32)))])) _
    refine XS.iconst X0.here hx rfl (hb hby at_4) ?_
    show Steps p.tables e below (s₁.setTop (mkF m 5 #[.val (.int p0), .val (.int p1), .val (.int p2), .val (.int p3), .val (.int p4), .val (.long p5), .second, .unset, .unset, .unset, .unset, .unset, .unset, .unset, .unset, .unset, .unset, .unset, .unset, .unset] [(.int (4 : Int32)), (.int (p0 &&& (2147483647 : Int32)))])) _
    refine Jvm.RoadKit.iremM (g := (mkF m 5 #[.val (.int p0), .val (.int p1), .val (.int p2), .val (.int p3), .val (.int p4), .val (.long p5), .second, .unset, .unset, .unset, .unset, .unset, .unset, .unset, .unset, .unset, .unset, .unset, .unset, .unset] [(.int (4 : Int32)), (.int (p0 &&& (2147483647 : Int32)))])) X0 hx rfl (hb hby at_5) rfl (by decide) ?_
    show Steps p.tables e below (s₁.setTop (mkF m 6 #[.val (.int p0), .val (.int p1), .val (.int p2), .val (.int p3), .val (.int p4), .val (.long p5), .second, .unset, .unset, .unset, .unset, .unset, .unset, .unset, .unset, .unset, .unset, .unset, .unset, .unset] [(.int ((p0 &&& (2147483647 : Int32)) % (4 : Int32)))])) _
    refine XS.istore X0.here hx rfl (hb hby at_6) rfl (l' := #[.val (.int p0), .val (.int p1), .val (.int p2), .val (.int p3), .val (.int p4), .val (.long p5), .second, .val (.int ((p0 &&& (2147483647 : Int32)) % (4 : Int32))), .unset, .unset, .unset, .unset, .unset, .unset, .unset, .unset, .unset, .unset, .unset, .unset]) rfl ?_
    show Steps p.tables e below (s₁.setTop (mkF m 8 #[.val (.int p0), .val (.int p1), .val (.int p2), .val (.int p3), .val (.int p4), .val (.long p5), .second, .val (.int ((p0 &&& (2147483647 : Int32)) % (4 : Int32))), .unset, .unset, .unset, .unset, .unset, .unset, .unset, .unset, .unset, .unset, .unset, .unset] [])) _
    refine XS.iloadN X0.here hx rfl (hb hby at_8) rfl ?_
    show Steps p.tables e below (s₁.setTop (mkF m 9 #[.val (.int p0), .val (.int p1), .val (.int p2), .val (.int p3), .val (.int p4), .val (.long p5), .second, .val (.int ((p0 &&& (2147483647 : Int32)) % (4 : Int32))), .unset, .unset, .unset, .unset, .unset, .unset, .unset, .unset, .unset, .unset, .unset, .unset] [(.int p1)])) _
    refine X0.ldcInt hx hown (mvT hZ (hwk hw 0 rfl)) (g := (mkF m 9 #[.val (.int p0), .val (.int p1), .val (.int p2), .val (.int p3), .val (.int p4), .val (.long p5), .second, .val (.int ((p0 &&& (2147483647 : Int32)) % (4 : Int32))), .unset, .unset, .unset, .unset, .unset, .unset, .unset, .unset, .unset, .unset, .unset, .unset] [(.int p1)])) rfl (hb hby at_9) _ ?_
    show Steps p.tables e below (s₁.setTop (mkF m 11 #[.val (.int p0), .val (.int p1), .val (.int p2), .val (.int p3), .val (.int p4), .val (.long p5), .second, .val (.int ((p0 &&& (2147483647 : Int32)) % (4 : Int32))), .unset, .unset, .unset, .unset, .unset, .unset, .unset, .unset, .unset, .unset, .unset, .unset] [(.int (2147483647 : Int32)), (.int p1)])) _
    refine XS.iand X0.here hx rfl (hb hby at_11) rfl ?_
    show Steps p.tables e below (s₁.setTop (mkF m 12 #[.val (.int p0), .val (.int p1), .val (.int p2), .val (.int p3), .val (.int p4), .val (.long p5), .second, .val (.int ((p0 &&& (2147483647 : Int32)) % (4 : Int32))), .unset, .unset, .unset, .unset, .unset, .unset, .unset, .unset, .unset, .unset, .unset, .unset] [(.int (p1 &&& (2147483647 : Int32)))])) _
    refine XS.bipush X0.here hx rfl (hb hby at_12) ?_
    show Steps p.tables e below (s₁.setTop (mkF m 14 #[.val (.int p0), .val (.int p1), .val (.int p2), .val (.int p3), .val (.int p4), .val (.long p5), .second, .val (.int ((p0 &&& (2147483647 : Int32)) % (4 : Int32))), .unset, .unset, .unset, .unset, .unset, .unset, .unset, .unset, .unset, .unset, .unset, .unset] [(.int (6 : Int32)), (.int (p1 &&& (2147483647 : Int32)))])) _
    refine Jvm.RoadKit.iremM (g := (mkF m 14 #[.val (.int p0), .val (.int p1), .val (.int p2), .val (.int p3), .val (.int p4), .val (.long p5), .second, .val (.int ((p0 &&& (2147483647 : Int32)) % (4 : Int32))), .unset, .unset, .unset, .unset, .unset, .unset, .unset, .unset, .unset, .unset, .unset, .unset] [(.int (6 : Int32)), (.int (p1 &&& (2147483647 : Int32)))])) X0 hx rfl (hb hby at_14) rfl (by decide) ?_
    show Steps p.tables e below (s₁.setTop (mkF m 15 #[.val (.int p0), .val (.int p1), .val (.int p2), .val (.int p3), .val (.int p4), .val (.long p5), .second, .val (.int ((p0 &&& (2147483647 : Int32)) % (4 : Int32))), .unset, .unset, .unset, .unset, .unset, .unset, .unset, .unset, .unset, .unset, .unset, .unset] [(.int ((p1 &&& (2147483647 : Int32)) % (6 : Int32)))])) _
    refine XS.istore X0.here hx rfl (hb hby at_15) rfl (l' := #[.val (.int p0), .val (.int p1), .val (.int p2), .val (.int p3), .val (.int p4), .val (.long p5), .second, .val (.int ((p0 &&& (2147483647 : Int32)) % (4 : Int32))), .val (.int ((p1 &&& (2147483647 : Int32)) % (6 : Int32))), .unset, .unset, .unset, .unset, .unset, .unset, .unset, .unset, .unset, .unset, .unset]) rfl ?_
    show Steps p.tables e below (s₁.setTop (mkF m 17 #[.val (.int p0), .val (.int p1), .val (.int p2), .val (.int p3), .val (.int p4), .val (.long p5), .second, .val (.int ((p0 &&& (2147483647 : Int32)) % (4 : Int32))), .val (.int ((p1 &&& (2147483647 : Int32)) % (6 : Int32))), .unset, .unset, .unset, .unset, .unset, .unset, .unset, .unset, .unset, .unset, .unset] [])) _
    refine XS.iloadN X0.here hx rfl (hb hby at_17) rfl ?_
    show Steps p.tables e below (s₁.setTop (mkF m 18 #[.val (.int p0), .val (.int p1), .val (.int p2), .val (.int p3), .val (.int p4), .val (.long p5), .second, .val (.int ((p0 &&& (2147483647 : Int32)) % (4 : Int32))), .val (.int ((p1 &&& (2147483647 : Int32)) % (6 : Int32))), .unset, .unset, .unset, .unset, .unset, .unset, .unset, .unset, .unset, .unset, .unset] [(.int p2)])) _
    refine XS.iconst X0.here hx rfl (hb hby at_18) ?_
    show Steps p.tables e below (s₁.setTop (mkF m 19 #[.val (.int p0), .val (.int p1), .val (.int p2), .val (.int p3), .val (.int p4), .val (.long p5), .second, .val (.int ((p0 &&& (2147483647 : Int32)) % (4 : Int32))), .val (.int ((p1 &&& (2147483647 : Int32)) % (6 : Int32))), .unset, .unset, .unset, .unset, .unset, .unset, .unset, .unset, .unset, .unset, .unset] [(.int (1 : Int32)), (.int p2)])) _
    refine XS.iand X0.here hx rfl (hb hby at_19) rfl ?_
    exact k
  obtain ⟨T103, X103, e103, S103⟩ : ∃ T', SameStand X0 T' ∧ T'.heap = h0 ∧ ∀ t, Steps p.tables e below (T'.setTop (mkF m 32 #[.val (.int p0), .val (.int p1), .val (.int p2), .val (.int p3), .val (.int p4), .val (.long p5), .second, .val (.int ((p0 &&& (2147483647 : Int32)) % (4 : Int32))), .val (.int ((p1 &&& (2147483647 : Int32)) % (6 : Int32))), .unset, .unset, .unset, .unset, .unset, .unset, .unset, .unset, .unset, .unset, .unset] [(.ref (if (p2 &&& (1 : Int32)) = (0 : Int32) then w_RequestKind_JOB else w_RequestKind_EXECUTE))])) t → Steps p.tables e below (s₁.setTop (entryFrame m #[(.int p0), (.int p1), (.int p2), (.int p3), (.int p4), (.long p5)] maxLocals)) t := by
    by_cases hc102 : (p2 &&& (1 : Int32)) = (0 : Int32)
    · have c104 : Sta Z h0 "com/example/done_once/doneonce/core/RequestKind" "JOB" "Lcom/example/done_once/doneonce/core/RequestKind;" (.ref w_RequestKind_JOB) := Sta.ext (O0).2 S_RequestKind_JOB
      obtain ⟨T105, X105, e105, st105⟩ := getS2 X0 hx hZ hown (host := "") (Or.inl (hwk hw 1 rfl)) Via.refl e0 c104 (g := (mkF m 23 #[.val (.int p0), .val (.int p1), .val (.int p2), .val (.int p3), .val (.int p4), .val (.long p5), .second, .val (.int ((p0 &&& (2147483647 : Int32)) % (4 : Int32))), .val (.int ((p1 &&& (2147483647 : Int32)) % (6 : Int32))), .unset, .unset, .unset, .unset, .unset, .unset, .unset, .unset, .unset, .unset, .unset] [])) rfl (hb hby at_23)
      refine ⟨T105, X105, e105, fun t k => ?_⟩
      try simp only [if_pos hc102] at k
      refine S101 t ?_
      show Steps p.tables e below (s₁.setTop (mkF m 20 #[.val (.int p0), .val (.int p1), .val (.int p2), .val (.int p3), .val (.int p4), .val (.long p5), .second, .val (.int ((p0 &&& (2147483647 : Int32)) % (4 : Int32))), .val (.int ((p1 &&& (2147483647 : Int32)) % (6 : Int32))), .unset, .unset, .unset, .unset, .unset, .unset, .unset, .unset, .unset, .unset, .unset] [(.int (p2 &&& (1 : Int32)))])) _
      refine XS.ifNo X0.here hx rfl (hb hby at_20) rfl ((if0 _ _).trans (teq hc102).2) ?_
      show Steps p.tables e below (s₁.setTop (mkF m 23 #[.val (.int p0), .val (.int p1), .val (.int p2), .val (.int p3), .val (.int p4), .val (.long p5), .second, .val (.int ((p0 &&& (2147483647 : Int32)) % (4 : Int32))), .val (.int ((p1 &&& (2147483647 : Int32)) % (6 : Int32))), .unset, .unset, .unset, .unset, .unset, .unset, .unset, .unset, .unset, .unset, .unset] [])) _
      refine st105 _ ?_
      show Steps p.tables e below (T105.setTop (mkF m 26 #[.val (.int p0), .val (.int p1), .val (.int p2), .val (.int p3), .val (.int p4), .val (.long p5), .second, .val (.int ((p0 &&& (2147483647 : Int32)) % (4 : Int32))), .val (.int ((p1 &&& (2147483647 : Int32)) % (6 : Int32))), .unset, .unset, .unset, .unset, .unset, .unset, .unset, .unset, .unset, .unset, .unset] [(.ref w_RequestKind_JOB)])) _
      refine XS.goto X105.here hx rfl (pc0 := 26) (pc' := 32) rfl (hb hby at_26) (by decide) (by decide) ?_
      exact k
    · have c106 : Sta Z h0 "com/example/done_once/doneonce/core/RequestKind" "EXECUTE" "Lcom/example/done_once/doneonce/core/RequestKind;" (.ref w_RequestKind_EXECUTE) := Sta.ext (O0).2 S_RequestKind_EXECUTE
      obtain ⟨T107, X107, e107, st107⟩ := getS2 X0 hx hZ hown (host := "") (Or.inl (hwk hw 91 rfl)) Via.refl e0 c106 (g := (mkF m 29 #[.val (.int p0), .val (.int p1), .val (.int p2), .val (.int p3), .val (.int p4), .val (.long p5), .second, .val (.int ((p0 &&& (2147483647 : Int32)) % (4 : Int32))), .val (.int ((p1 &&& (2147483647 : Int32)) % (6 : Int32))), .unset, .unset, .unset, .unset, .unset, .unset, .unset, .unset, .unset, .unset, .unset] [])) rfl (hb hby at_29)
      refine ⟨T107, X107, e107, fun t k => ?_⟩
      try simp only [if_neg hc102] at k
      refine S101 t ?_
      show Steps p.tables e below (s₁.setTop (mkF m 20 #[.val (.int p0), .val (.int p1), .val (.int p2), .val (.int p3), .val (.int p4), .val (.long p5), .second, .val (.int ((p0 &&& (2147483647 : Int32)) % (4 : Int32))), .val (.int ((p1 &&& (2147483647 : Int32)) % (6 : Int32))), .unset, .unset, .unset, .unset, .unset, .unset, .unset, .unset, .unset, .unset, .unset] [(.int (p2 &&& (1 : Int32)))])) _
      refine XS.ifYes X0.here hx rfl (pc0 := 20) (pc' := 29) rfl (hb hby at_20) rfl ((if0 _ _).trans (feq hc102).2) (by decide) (by decide) ?_
      show Steps p.tables e below (s₁.setTop (mkF m 29 #[.val (.int p0), .val (.int p1), .val (.int p2), .val (.int p3), .val (.int p4), .val (.long p5), .second, .val (.int ((p0 &&& (2147483647 : Int32)) % (4 : Int32))), .val (.int ((p1 &&& (2147483647 : Int32)) % (6 : Int32))), .unset, .unset, .unset, .unset, .unset, .unset, .unset, .unset, .unset, .unset, .unset] [])) _
      refine st107 _ ?_
      exact k
  unfold SameStand at X103
  obtain ⟨_, _, ⟨T108, L108, k108, n108⟩, -, X108, ⟨Lc108, hQ108, l108, y108, z108⟩, st108⟩ := Jvm.LawKit.callS X103 hx (y := (⟨"com/example/done_once/doneonce/store/RequestEndedPinLaw", "execution", "(I)Lcom/example/done_once/doneonce/core/Execution;"⟩ : MethodName)) hown (mvT hZ (hwk hw 4 rfl)) (mvT hZ (hwk hw 5 rfl)) (mvT hZ (hwk hw 6 rfl)) (mvT hZ (hwk hw 7 rfl)) (by decide) (backOf (W := 0) (rm1 l Z a0 hw [] (p3 &&& (3 : Int32)) w_Execution_PENDING w_Execution_NOT_EXECUTED w_Execution_EXECUTED w_Execution_UNKNOWN h0 n0 O0 S_Execution_PENDING S_Execution_NOT_EXECUTED S_Execution_EXECUTED S_Execution_UNKNOWN) hZ (hwk hw 7 rfl) (hwk hw 6 rfl) (by decide) (by decide)) (g := (mkF m 37 #[.val (.int p0), .val (.int p1), .val (.int p2), .val (.int p3), .val (.int p4), .val (.long p5), .second, .val (.int ((p0 &&& (2147483647 : Int32)) % (4 : Int32))), .val (.int ((p1 &&& (2147483647 : Int32)) % (6 : Int32))), .val (.ref (if (p2 &&& (1 : Int32)) = (0 : Int32) then w_RequestKind_JOB else w_RequestKind_EXECUTE)), .unset, .unset, .unset, .unset, .unset, .unset, .unset, .unset, .unset, .unset] [(.int (p3 &&& (3 : Int32)))])) rfl (by rw [hml]; rfl) (argsL := [(.int (p3 &&& (3 : Int32)))]) (rest := []) (lenOf pd_8 rfl) rfl (by show 2 * 0 + _ ≤ _; exact Nat.le_of_eq rfl) (hb hby at_37) (fun _ _ => ⟨rfl, e103, (by decide : 0 + 0 ≤ _), (by decide : 0 + 0 ≤ _)⟩)
  dsimp only [Pt.U, Pt.locs, Pt.cells, Pt.slots] at X108 l108 y108 z108 st108 hQ108
  subst l108 y108 z108
  unfold Q_rm1 at hQ108
  obtain ⟨rfl, N108q, e108⟩ := hQ108
  have N108 := Fr.app N0 N108q
  have S109 : ∀ t, Steps p.tables e below (T108.setTop (mkF m 46 #[.val (.int p0), .val (.int p1), .val (.int p2), .val (.int p3), .val (.int p4), .val (.long p5), .second, .val (.int ((p0 &&& (2147483647 : Int32)) % (4 : Int32))), .val (.int ((p1 &&& (2147483647 : Int32)) % (6 : Int32))), .val (.ref (if (p2 &&& (1 : Int32)) = (0 : Int32) then w_RequestKind_JOB else w_RequestKind_EXECUTE)), .val (.ref (V1 (p3 &&& (3 : Int32)) w_Execution_PENDING w_Execution_NOT_EXECUTED w_Execution_EXECUTED w_Execution_UNKNOWN)), .unset, .unset, .unset, .unset, .unset, .unset, .unset, .unset, .unset] [(.int (p4 &&& (1 : Int32)))])) t → Steps p.tables e below (s₁.setTop (entryFrame m #[(.int p0), (.int p1), (.int p2), (.int p3), (.int p4), (.long p5)] maxLocals)) t := fun t k => by
    refine S103 t ?_
    show Steps p.tables e below (T103.setTop (mkF m 32 #[.val (.int p0), .val (.int p1), .val (.int p2), .val (.int p3), .val (.int p4), .val (.long p5), .second, .val (.int ((p0 &&& (2147483647 : Int32)) % (4 : Int32))), .val (.int ((p1 &&& (2147483647 : Int32)) % (6 : Int32))), .unset, .unset, .unset, .unset, .unset, .unset, .unset, .unset, .unset, .unset, .unset] [(.ref (if (p2 &&& (1 : Int32)) = (0 : Int32) then w_RequestKind_JOB else w_RequestKind_EXECUTE))])) _
    refine XS.astore X103.here hx rfl (hb hby at_32) rfl rfl (l' := #[.val (.int p0), .val (.int p1), .val (.int p2), .val (.int p3), .val (.int p4), .val (.long p5), .second, .val (.int ((p0 &&& (2147483647 : Int32)) % (4 : Int32))), .val (.int ((p1 &&& (2147483647 : Int32)) % (6 : Int32))), .val (.ref (if (p2 &&& (1 : Int32)) = (0 : Int32) then w_RequestKind_JOB else w_RequestKind_EXECUTE)), .unset, .unset, .unset, .unset, .unset, .unset, .unset, .unset, .unset, .unset]) rfl ?_
    show Steps p.tables e below (T103.setTop (mkF m 34 #[.val (.int p0), .val (.int p1), .val (.int p2), .val (.int p3), .val (.int p4), .val (.long p5), .second, .val (.int ((p0 &&& (2147483647 : Int32)) % (4 : Int32))), .val (.int ((p1 &&& (2147483647 : Int32)) % (6 : Int32))), .val (.ref (if (p2 &&& (1 : Int32)) = (0 : Int32) then w_RequestKind_JOB else w_RequestKind_EXECUTE)), .unset, .unset, .unset, .unset, .unset, .unset, .unset, .unset, .unset, .unset] [])) _
    refine XS.iloadN X103.here hx rfl (hb hby at_34) rfl ?_
    show Steps p.tables e below (T103.setTop (mkF m 35 #[.val (.int p0), .val (.int p1), .val (.int p2), .val (.int p3), .val (.int p4), .val (.long p5), .second, .val (.int ((p0 &&& (2147483647 : Int32)) % (4 : Int32))), .val (.int ((p1 &&& (2147483647 : Int32)) % (6 : Int32))), .val (.ref (if (p2 &&& (1 : Int32)) = (0 : Int32) then w_RequestKind_JOB else w_RequestKind_EXECUTE)), .unset, .unset, .unset, .unset, .unset, .unset, .unset, .unset, .unset, .unset] [(.int p3)])) _
    refine XS.iconst X103.here hx rfl (hb hby at_35) ?_
    show Steps p.tables e below (T103.setTop (mkF m 36 #[.val (.int p0), .val (.int p1), .val (.int p2), .val (.int p3), .val (.int p4), .val (.long p5), .second, .val (.int ((p0 &&& (2147483647 : Int32)) % (4 : Int32))), .val (.int ((p1 &&& (2147483647 : Int32)) % (6 : Int32))), .val (.ref (if (p2 &&& (1 : Int32)) = (0 : Int32) then w_RequestKind_JOB else w_RequestKind_EXECUTE)), .unset, .unset, .unset, .unset, .unset, .unset, .unset, .unset, .unset, .unset] [(.int (3 : Int32)), (.int p3)])) _
    refine XS.iand X103.here hx rfl (hb hby at_36) rfl ?_
    show Steps p.tables e below (T103.setTop (mkF m 37 #[.val (.int p0), .val (.int p1), .val (.int p2), .val (.int p3), .val (.int p4), .val (.long p5), .second, .val (.int ((p0 &&& (2147483647 : Int32)) % (4 : Int32))), .val (.int ((p1 &&& (2147483647 : Int32)) % (6 : Int32))), .val (.ref (if (p2 &&& (1 : Int32)) = (0 : Int32) then w_RequestKind_JOB else w_RequestKind_EXECUTE)), .unset, .unset, .unset, .unset, .unset, .unset, .unset, .unset, .unset, .unset] [(.int (p3 &&& (3 : Int32)))])) _
    refine st108 _ ?_
    show Steps p.tables e below (T108.setTop (mkF m 40 #[.val (.int p0), .val (.int p1), .val (.int p2), .val (.int p3), .val (.int p4), .val (.long p5), .second, .val (.int ((p0 &&& (2147483647 : Int32)) % (4 : Int32))), .val (.int ((p1 &&& (2147483647 : Int32)) % (6 : Int32))), .val (.ref (if (p2 &&& (1 : Int32)) = (0 : Int32) then w_RequestKind_JOB else w_RequestKind_EXECUTE)), .unset, .unset, .unset, .unset, .unset, .unset, .unset, .unset, .unset, .unset] [(.ref (V1 (p3 &&& (3 : Int32)) w_Execution_PENDING w_Execution_NOT_EXECUTED w_Execution_EXECUTED w_Execution_UNKNOWN))])) _
    refine XS.astore X108.here hx rfl (hb hby at_40) rfl rfl (l' := #[.val (.int p0), .val (.int p1), .val (.int p2), .val (.int p3), .val (.int p4), .val (.long p5), .second, .val (.int ((p0 &&& (2147483647 : Int32)) % (4 : Int32))), .val (.int ((p1 &&& (2147483647 : Int32)) % (6 : Int32))), .val (.ref (if (p2 &&& (1 : Int32)) = (0 : Int32) then w_RequestKind_JOB else w_RequestKind_EXECUTE)), .val (.ref (V1 (p3 &&& (3 : Int32)) w_Execution_PENDING w_Execution_NOT_EXECUTED w_Execution_EXECUTED w_Execution_UNKNOWN)), .unset, .unset, .unset, .unset, .unset, .unset, .unset, .unset, .unset]) rfl ?_
    show Steps p.tables e below (T108.setTop (mkF m 42 #[.val (.int p0), .val (.int p1), .val (.int p2), .val (.int p3), .val (.int p4), .val (.long p5), .second, .val (.int ((p0 &&& (2147483647 : Int32)) % (4 : Int32))), .val (.int ((p1 &&& (2147483647 : Int32)) % (6 : Int32))), .val (.ref (if (p2 &&& (1 : Int32)) = (0 : Int32) then w_RequestKind_JOB else w_RequestKind_EXECUTE)), .val (.ref (V1 (p3 &&& (3 : Int32)) w_Execution_PENDING w_Execution_NOT_EXECUTED w_Execution_EXECUTED w_Execution_UNKNOWN)), .unset, .unset, .unset, .unset, .unset, .unset, .unset, .unset, .unset] [])) _
    refine XS.iload X108.here hx rfl (hb hby at_42) rfl ?_
    show Steps p.tables e below (T108.setTop (mkF m 44 #[.val (.int p0), .val (.int p1), .val (.int p2), .val (.int p3), .val (.int p4), .val (.long p5), .second, .val (.int ((p0 &&& (2147483647 : Int32)) % (4 : Int32))), .val (.int ((p1 &&& (2147483647 : Int32)) % (6 : Int32))), .val (.ref (if (p2 &&& (1 : Int32)) = (0 : Int32) then w_RequestKind_JOB else w_RequestKind_EXECUTE)), .val (.ref (V1 (p3 &&& (3 : Int32)) w_Execution_PENDING w_Execution_NOT_EXECUTED w_Execution_EXECUTED w_Execution_UNKNOWN)), .unset, .unset, .unset, .unset, .unset, .unset, .unset, .unset, .unset] [(.int p4)])) _
    refine XS.iconst X108.here hx rfl (hb hby at_44) ?_
    show Steps p.tables e below (T108.setTop (mkF m 45 #[.val (.int p0), .val (.int p1), .val (.int p2), .val (.int p3), .val (.int p4), .val (.long p5), .second, .val (.int ((p0 &&& (2147483647 : Int32)) % (4 : Int32))), .val (.int ((p1 &&& (2147483647 : Int32)) % (6 : Int32))), .val (.ref (if (p2 &&& (1 : Int32)) = (0 : Int32) then w_RequestKind_JOB else w_RequestKind_EXECUTE)), .val (.ref (V1 (p3 &&& (3 : Int32)) w_Execution_PENDING w_Execution_NOT_EXECUTED w_Execution_EXECUTED w_Execution_UNKNOWN)), .unset, .unset, .unset, .unset, .unset, .unset, .unset, .unset, .unset] [(.int (1 : Int32)), (.int p4)])) _
    refine XS.iand X108.here hx rfl (hb hby at_45) rfl ?_
    exact k
  have S111 : ∀ t, Steps p.tables e below (T108.setTop (mkF m 54 #[.val (.int p0), .val (.int p1), .val (.int p2), .val (.int p3), .val (.int p4), .val (.long p5), .second, .val (.int ((p0 &&& (2147483647 : Int32)) % (4 : Int32))), .val (.int ((p1 &&& (2147483647 : Int32)) % (6 : Int32))), .val (.ref (if (p2 &&& (1 : Int32)) = (0 : Int32) then w_RequestKind_JOB else w_RequestKind_EXECUTE)), .val (.ref (V1 (p3 &&& (3 : Int32)) w_Execution_PENDING w_Execution_NOT_EXECUTED w_Execution_EXECUTED w_Execution_UNKNOWN)), .unset, .unset, .unset, .unset, .unset, .unset, .unset, .unset, .unset] [(.int (if (p4 &&& (1 : Int32)) = (0 : Int32) then (0 : Int32) else (1 : Int32)))])) t → Steps p.tables e below (s₁.setTop (entryFrame m #[(.int p0), (.int p1), (.int p2), (.int p3), (.int p4), (.long p5)] maxLocals)) t := by
    by_cases hc110 : (p4 &&& (1 : Int32)) = (0 : Int32)
    · intro t k
      try simp only [if_pos hc110] at k
      refine S109 t ?_
      show Steps p.tables e below (T108.setTop (mkF m 46 #[.val (.int p0), .val (.int p1), .val (.int p2), .val (.int p3), .val (.int p4), .val (.long p5), .second, .val (.int ((p0 &&& (2147483647 : Int32)) % (4 : Int32))), .val (.int ((p1 &&& (2147483647 : Int32)) % (6 : Int32))), .val (.ref (if (p2 &&& (1 : Int32)) = (0 : Int32) then w_RequestKind_JOB else w_RequestKind_EXECUTE)), .val (.ref (V1 (p3 &&& (3 : Int32)) w_Execution_PENDING w_Execution_NOT_EXECUTED w_Execution_EXECUTED w_Execution_UNKNOWN)), .unset, .unset, .unset, .unset, .unset, .unset, .unset, .unset, .unset] [(.int (p4 &&& (1 : Int32)))])) _
      refine XS.ifYes X108.here hx rfl (pc0 := 46) (pc' := 53) rfl (hb hby at_46) rfl ((if0 _ _).trans (teq hc110).1) (by decide) (by decide) ?_
      show Steps p.tables e below (T108.setTop (mkF m 53 #[.val (.int p0), .val (.int p1), .val (.int p2), .val (.int p3), .val (.int p4), .val (.long p5), .second, .val (.int ((p0 &&& (2147483647 : Int32)) % (4 : Int32))), .val (.int ((p1 &&& (2147483647 : Int32)) % (6 : Int32))), .val (.ref (if (p2 &&& (1 : Int32)) = (0 : Int32) then w_RequestKind_JOB else w_RequestKind_EXECUTE)), .val (.ref (V1 (p3 &&& (3 : Int32)) w_Execution_PENDING w_Execution_NOT_EXECUTED w_Execution_EXECUTED w_Execution_UNKNOWN)), .unset, .unset, .unset, .unset, .unset, .unset, .unset, .unset, .unset] [])) _
      refine XS.iconst X108.here hx rfl (hb hby at_53) ?_
      exact k
    · intro t k
      try simp only [if_neg hc110] at k
      refine S109 t ?_
      show Steps p.tables e below (T108.setTop (mkF m 46 #[.val (.int p0), .val (.int p1), .val (.int p2), .val (.int p3), .val (.int p4), .val (.long p5), .second, .val (.int ((p0 &&& (2147483647 : Int32)) % (4 : Int32))), .val (.int ((p1 &&& (2147483647 : Int32)) % (6 : Int32))), .val (.ref (if (p2 &&& (1 : Int32)) = (0 : Int32) then w_RequestKind_JOB else w_RequestKind_EXECUTE)), .val (.ref (V1 (p3 &&& (3 : Int32)) w_Execution_PENDING w_Execution_NOT_EXECUTED w_Execution_EXECUTED w_Execution_UNKNOWN)), .unset, .unset, .unset, .unset, .unset, .unset, .unset, .unset, .unset] [(.int (p4 &&& (1 : Int32)))])) _
      refine XS.ifNo X108.here hx rfl (hb hby at_46) rfl ((if0 _ _).trans (feq hc110).1) ?_
      show Steps p.tables e below (T108.setTop (mkF m 49 #[.val (.int p0), .val (.int p1), .val (.int p2), .val (.int p3), .val (.int p4), .val (.long p5), .second, .val (.int ((p0 &&& (2147483647 : Int32)) % (4 : Int32))), .val (.int ((p1 &&& (2147483647 : Int32)) % (6 : Int32))), .val (.ref (if (p2 &&& (1 : Int32)) = (0 : Int32) then w_RequestKind_JOB else w_RequestKind_EXECUTE)), .val (.ref (V1 (p3 &&& (3 : Int32)) w_Execution_PENDING w_Execution_NOT_EXECUTED w_Execution_EXECUTED w_Execution_UNKNOWN)), .unset, .unset, .unset, .unset, .unset, .unset, .unset, .unset, .unset] [])) _
      refine XS.iconst X108.here hx rfl (hb hby at_49) ?_
      show Steps p.tables e below (T108.setTop (mkF m 50 #[.val (.int p0), .val (.int p1), .val (.int p2), .val (.int p3), .val (.int p4), .val (.long p5), .second, .val (.int ((p0 &&& (2147483647 : Int32)) % (4 : Int32))), .val (.int ((p1 &&& (2147483647 : Int32)) % (6 : Int32))), .val (.ref (if (p2 &&& (1 : Int32)) = (0 : Int32) then w_RequestKind_JOB else w_RequestKind_EXECUTE)), .val (.ref (V1 (p3 &&& (3 : Int32)) w_Execution_PENDING w_Execution_NOT_EXECUTED w_Execution_EXECUTED w_Execution_UNKNOWN)), .unset, .unset, .unset, .unset, .unset, .unset, .unset, .unset, .unset] [(.int (1 : Int32))])) _
      refine XS.goto X108.here hx rfl (pc0 := 50) (pc' := 54) rfl (hb hby at_50) (by decide) (by decide) ?_
      exact k
  have S112 : ∀ t, Steps p.tables e below (T108.setTop (mkF m 60 #[.val (.int p0), .val (.int p1), .val (.int p2), .val (.int p3), .val (.int p4), .val (.long p5), .second, .val (.int ((p0 &&& (2147483647 : Int32)) % (4 : Int32))), .val (.int ((p1 &&& (2147483647 : Int32)) % (6 : Int32))), .val (.ref (if (p2 &&& (1 : Int32)) = (0 : Int32) then w_RequestKind_JOB else w_RequestKind_EXECUTE)), .val (.ref (V1 (p3 &&& (3 : Int32)) w_Execution_PENDING w_Execution_NOT_EXECUTED w_Execution_EXECUTED w_Execution_UNKNOWN)), .val (.int (if (p4 &&& (1 : Int32)) = (0 : Int32) then (0 : Int32) else (1 : Int32))), .unset, .unset, .unset, .unset, .unset, .unset, .unset, .unset] [(.int (p4 &&& (2 : Int32)))])) t → Steps p.tables e below (s₁.setTop (entryFrame m #[(.int p0), (.int p1), (.int p2), (.int p3), (.int p4), (.long p5)] maxLocals)) t := fun t k => by
    refine S111 t ?_
    show Steps p.tables e below (T108.setTop (mkF m 54 #[.val (.int p0), .val (.int p1), .val (.int p2), .val (.int p3), .val (.int p4), .val (.long p5), .second, .val (.int ((p0 &&& (2147483647 : Int32)) % (4 : Int32))), .val (.int ((p1 &&& (2147483647 : Int32)) % (6 : Int32))), .val (.ref (if (p2 &&& (1 : Int32)) = (0 : Int32) then w_RequestKind_JOB else w_RequestKind_EXECUTE)), .val (.ref (V1 (p3 &&& (3 : Int32)) w_Execution_PENDING w_Execution_NOT_EXECUTED w_Execution_EXECUTED w_Execution_UNKNOWN)), .unset, .unset, .unset, .unset, .unset, .unset, .unset, .unset, .unset] [(.int (if (p4 &&& (1 : Int32)) = (0 : Int32) then (0 : Int32) else (1 : Int32)))])) _
    refine XS.istore X108.here hx rfl (hb hby at_54) rfl (l' := #[.val (.int p0), .val (.int p1), .val (.int p2), .val (.int p3), .val (.int p4), .val (.long p5), .second, .val (.int ((p0 &&& (2147483647 : Int32)) % (4 : Int32))), .val (.int ((p1 &&& (2147483647 : Int32)) % (6 : Int32))), .val (.ref (if (p2 &&& (1 : Int32)) = (0 : Int32) then w_RequestKind_JOB else w_RequestKind_EXECUTE)), .val (.ref (V1 (p3 &&& (3 : Int32)) w_Execution_PENDING w_Execution_NOT_EXECUTED w_Execution_EXECUTED w_Execution_UNKNOWN)), .val (.int (if (p4 &&& (1 : Int32)) = (0 : Int32) then (0 : Int32) else (1 : Int32))), .unset, .unset, .unset, .unset, .unset, .unset, .unset, .unset]) rfl ?_
    show Steps p.tables e below (T108.setTop (mkF m 56 #[.val (.int p0), .val (.int p1), .val (.int p2), .val (.int p3), .val (.int p4), .val (.long p5), .second, .val (.int ((p0 &&& (2147483647 : Int32)) % (4 : Int32))), .val (.int ((p1 &&& (2147483647 : Int32)) % (6 : Int32))), .val (.ref (if (p2 &&& (1 : Int32)) = (0 : Int32) then w_RequestKind_JOB else w_RequestKind_EXECUTE)), .val (.ref (V1 (p3 &&& (3 : Int32)) w_Execution_PENDING w_Execution_NOT_EXECUTED w_Execution_EXECUTED w_Execution_UNKNOWN)), .val (.int (if (p4 &&& (1 : Int32)) = (0 : Int32) then (0 : Int32) else (1 : Int32))), .unset, .unset, .unset, .unset, .unset, .unset, .unset, .unset] [])) _
    refine XS.iload X108.here hx rfl (hb hby at_56) rfl ?_
    show Steps p.tables e below (T108.setTop (mkF m 58 #[.val (.int p0), .val (.int p1), .val (.int p2), .val (.int p3), .val (.int p4), .val (.long p5), .second, .val (.int ((p0 &&& (2147483647 : Int32)) % (4 : Int32))), .val (.int ((p1 &&& (2147483647 : Int32)) % (6 : Int32))), .val (.ref (if (p2 &&& (1 : Int32)) = (0 : Int32) then w_RequestKind_JOB else w_RequestKind_EXECUTE)), .val (.ref (V1 (p3 &&& (3 : Int32)) w_Execution_PENDING w_Execution_NOT_EXECUTED w_Execution_EXECUTED w_Execution_UNKNOWN)), .val (.int (if (p4 &&& (1 : Int32)) = (0 : Int32) then (0 : Int32) else (1 : Int32))), .unset, .unset, .unset, .unset, .unset, .unset, .unset, .unset] [(.int p4)])) _
    refine XS.iconst X108.here hx rfl (hb hby at_58) ?_
    show Steps p.tables e below (T108.setTop (mkF m 59 #[.val (.int p0), .val (.int p1), .val (.int p2), .val (.int p3), .val (.int p4), .val (.long p5), .second, .val (.int ((p0 &&& (2147483647 : Int32)) % (4 : Int32))), .val (.int ((p1 &&& (2147483647 : Int32)) % (6 : Int32))), .val (.ref (if (p2 &&& (1 : Int32)) = (0 : Int32) then w_RequestKind_JOB else w_RequestKind_EXECUTE)), .val (.ref (V1 (p3 &&& (3 : Int32)) w_Execution_PENDING w_Execution_NOT_EXECUTED w_Execution_EXECUTED w_Execution_UNKNOWN)), .val (.int (if (p4 &&& (1 : Int32)) = (0 : Int32) then (0 : Int32) else (1 : Int32))), .unset, .unset, .unset, .unset, .unset, .unset, .unset, .unset] [(.int (2 : Int32)), (.int p4)])) _
    refine XS.iand X108.here hx rfl (hb hby at_59) rfl ?_
    exact k
  have S114 : ∀ t, Steps p.tables e below (T108.setTop (mkF m 68 #[.val (.int p0), .val (.int p1), .val (.int p2), .val (.int p3), .val (.int p4), .val (.long p5), .second, .val (.int ((p0 &&& (2147483647 : Int32)) % (4 : Int32))), .val (.int ((p1 &&& (2147483647 : Int32)) % (6 : Int32))), .val (.ref (if (p2 &&& (1 : Int32)) = (0 : Int32) then w_RequestKind_JOB else w_RequestKind_EXECUTE)), .val (.ref (V1 (p3 &&& (3 : Int32)) w_Execution_PENDING w_Execution_NOT_EXECUTED w_Execution_EXECUTED w_Execution_UNKNOWN)), .val (.int (if (p4 &&& (1 : Int32)) = (0 : Int32) then (0 : Int32) else (1 : Int32))), .unset, .unset, .unset, .unset, .unset, .unset, .unset, .unset] [(.int (if (p4 &&& (2 : Int32)) = (0 : Int32) then (0 : Int32) else (1 : Int32)))])) t → Steps p.tables e below (s₁.setTop (entryFrame m #[(.int p0), (.int p1), (.int p2), (.int p3), (.int p4), (.long p5)] maxLocals)) t := by
    by_cases hc113 : (p4 &&& (2 : Int32)) = (0 : Int32)
    · intro t k
      try simp only [if_pos hc113] at k
      refine S112 t ?_
      show Steps p.tables e below (T108.setTop (mkF m 60 #[.val (.int p0), .val (.int p1), .val (.int p2), .val (.int p3), .val (.int p4), .val (.long p5), .second, .val (.int ((p0 &&& (2147483647 : Int32)) % (4 : Int32))), .val (.int ((p1 &&& (2147483647 : Int32)) % (6 : Int32))), .val (.ref (if (p2 &&& (1 : Int32)) = (0 : Int32) then w_RequestKind_JOB else w_RequestKind_EXECUTE)), .val (.ref (V1 (p3 &&& (3 : Int32)) w_Execution_PENDING w_Execution_NOT_EXECUTED w_Execution_EXECUTED w_Execution_UNKNOWN)), .val (.int (if (p4 &&& (1 : Int32)) = (0 : Int32) then (0 : Int32) else (1 : Int32))), .unset, .unset, .unset, .unset, .unset, .unset, .unset, .unset] [(.int (p4 &&& (2 : Int32)))])) _
      refine XS.ifYes X108.here hx rfl (pc0 := 60) (pc' := 67) rfl (hb hby at_60) rfl ((if0 _ _).trans (teq hc113).1) (by decide) (by decide) ?_
      show Steps p.tables e below (T108.setTop (mkF m 67 #[.val (.int p0), .val (.int p1), .val (.int p2), .val (.int p3), .val (.int p4), .val (.long p5), .second, .val (.int ((p0 &&& (2147483647 : Int32)) % (4 : Int32))), .val (.int ((p1 &&& (2147483647 : Int32)) % (6 : Int32))), .val (.ref (if (p2 &&& (1 : Int32)) = (0 : Int32) then w_RequestKind_JOB else w_RequestKind_EXECUTE)), .val (.ref (V1 (p3 &&& (3 : Int32)) w_Execution_PENDING w_Execution_NOT_EXECUTED w_Execution_EXECUTED w_Execution_UNKNOWN)), .val (.int (if (p4 &&& (1 : Int32)) = (0 : Int32) then (0 : Int32) else (1 : Int32))), .unset, .unset, .unset, .unset, .unset, .unset, .unset, .unset] [])) _
      refine XS.iconst X108.here hx rfl (hb hby at_67) ?_
      exact k
    · intro t k
      try simp only [if_neg hc113] at k
      refine S112 t ?_
      show Steps p.tables e below (T108.setTop (mkF m 60 #[.val (.int p0), .val (.int p1), .val (.int p2), .val (.int p3), .val (.int p4), .val (.long p5), .second, .val (.int ((p0 &&& (2147483647 : Int32)) % (4 : Int32))), .val (.int ((p1 &&& (2147483647 : Int32)) % (6 : Int32))), .val (.ref (if (p2 &&& (1 : Int32)) = (0 : Int32) then w_RequestKind_JOB else w_RequestKind_EXECUTE)), .val (.ref (V1 (p3 &&& (3 : Int32)) w_Execution_PENDING w_Execution_NOT_EXECUTED w_Execution_EXECUTED w_Execution_UNKNOWN)), .val (.int (if (p4 &&& (1 : Int32)) = (0 : Int32) then (0 : Int32) else (1 : Int32))), .unset, .unset, .unset, .unset, .unset, .unset, .unset, .unset] [(.int (p4 &&& (2 : Int32)))])) _
      refine XS.ifNo X108.here hx rfl (hb hby at_60) rfl ((if0 _ _).trans (feq hc113).1) ?_
      show Steps p.tables e below (T108.setTop (mkF m 63 #[.val (.int p0), .val (.int p1), .val (.int p2), .val (.int p3), .val (.int p4), .val (.long p5), .second, .val (.int ((p0 &&& (2147483647 : Int32)) % (4 : Int32))), .val (.int ((p1 &&& (2147483647 : Int32)) % (6 : Int32))), .val (.ref (if (p2 &&& (1 : Int32)) = (0 : Int32) then w_RequestKind_JOB else w_RequestKind_EXECUTE)), .val (.ref (V1 (p3 &&& (3 : Int32)) w_Execution_PENDING w_Execution_NOT_EXECUTED w_Execution_EXECUTED w_Execution_UNKNOWN)), .val (.int (if (p4 &&& (1 : Int32)) = (0 : Int32) then (0 : Int32) else (1 : Int32))), .unset, .unset, .unset, .unset, .unset, .unset, .unset, .unset] [])) _
      refine XS.iconst X108.here hx rfl (hb hby at_63) ?_
      show Steps p.tables e below (T108.setTop (mkF m 64 #[.val (.int p0), .val (.int p1), .val (.int p2), .val (.int p3), .val (.int p4), .val (.long p5), .second, .val (.int ((p0 &&& (2147483647 : Int32)) % (4 : Int32))), .val (.int ((p1 &&& (2147483647 : Int32)) % (6 : Int32))), .val (.ref (if (p2 &&& (1 : Int32)) = (0 : Int32) then w_RequestKind_JOB else w_RequestKind_EXECUTE)), .val (.ref (V1 (p3 &&& (3 : Int32)) w_Execution_PENDING w_Execution_NOT_EXECUTED w_Execution_EXECUTED w_Execution_UNKNOWN)), .val (.int (if (p4 &&& (1 : Int32)) = (0 : Int32) then (0 : Int32) else (1 : Int32))), .unset, .unset, .unset, .unset, .unset, .unset, .unset, .unset] [(.int (1 : Int32))])) _
      refine XS.goto X108.here hx rfl (pc0 := 64) (pc' := 68) rfl (hb hby at_64) (by decide) (by decide) ?_
      exact k
  have S115 : ∀ t, Steps p.tables e below (T108.setTop (mkF m 74 #[.val (.int p0), .val (.int p1), .val (.int p2), .val (.int p3), .val (.int p4), .val (.long p5), .second, .val (.int ((p0 &&& (2147483647 : Int32)) % (4 : Int32))), .val (.int ((p1 &&& (2147483647 : Int32)) % (6 : Int32))), .val (.ref (if (p2 &&& (1 : Int32)) = (0 : Int32) then w_RequestKind_JOB else w_RequestKind_EXECUTE)), .val (.ref (V1 (p3 &&& (3 : Int32)) w_Execution_PENDING w_Execution_NOT_EXECUTED w_Execution_EXECUTED w_Execution_UNKNOWN)), .val (.int (if (p4 &&& (1 : Int32)) = (0 : Int32) then (0 : Int32) else (1 : Int32))), .val (.int (if (p4 &&& (2 : Int32)) = (0 : Int32) then (0 : Int32) else (1 : Int32))), .unset, .unset, .unset, .unset, .unset, .unset, .unset] [(.int (p4 &&& (4 : Int32)))])) t → Steps p.tables e below (s₁.setTop (entryFrame m #[(.int p0), (.int p1), (.int p2), (.int p3), (.int p4), (.long p5)] maxLocals)) t := fun t k => by
    refine S114 t ?_
    show Steps p.tables e below (T108.setTop (mkF m 68 #[.val (.int p0), .val (.int p1), .val (.int p2), .val (.int p3), .val (.int p4), .val (.long p5), .second, .val (.int ((p0 &&& (2147483647 : Int32)) % (4 : Int32))), .val (.int ((p1 &&& (2147483647 : Int32)) % (6 : Int32))), .val (.ref (if (p2 &&& (1 : Int32)) = (0 : Int32) then w_RequestKind_JOB else w_RequestKind_EXECUTE)), .val (.ref (V1 (p3 &&& (3 : Int32)) w_Execution_PENDING w_Execution_NOT_EXECUTED w_Execution_EXECUTED w_Execution_UNKNOWN)), .val (.int (if (p4 &&& (1 : Int32)) = (0 : Int32) then (0 : Int32) else (1 : Int32))), .unset, .unset, .unset, .unset, .unset, .unset, .unset, .unset] [(.int (if (p4 &&& (2 : Int32)) = (0 : Int32) then (0 : Int32) else (1 : Int32)))])) _
    refine XS.istore X108.here hx rfl (hb hby at_68) rfl (l' := #[.val (.int p0), .val (.int p1), .val (.int p2), .val (.int p3), .val (.int p4), .val (.long p5), .second, .val (.int ((p0 &&& (2147483647 : Int32)) % (4 : Int32))), .val (.int ((p1 &&& (2147483647 : Int32)) % (6 : Int32))), .val (.ref (if (p2 &&& (1 : Int32)) = (0 : Int32) then w_RequestKind_JOB else w_RequestKind_EXECUTE)), .val (.ref (V1 (p3 &&& (3 : Int32)) w_Execution_PENDING w_Execution_NOT_EXECUTED w_Execution_EXECUTED w_Execution_UNKNOWN)), .val (.int (if (p4 &&& (1 : Int32)) = (0 : Int32) then (0 : Int32) else (1 : Int32))), .val (.int (if (p4 &&& (2 : Int32)) = (0 : Int32) then (0 : Int32) else (1 : Int32))), .unset, .unset, .unset, .unset, .unset, .unset, .unset]) rfl ?_
    show Steps p.tables e below (T108.setTop (mkF m 70 #[.val (.int p0), .val (.int p1), .val (.int p2), .val (.int p3), .val (.int p4), .val (.long p5), .second, .val (.int ((p0 &&& (2147483647 : Int32)) % (4 : Int32))), .val (.int ((p1 &&& (2147483647 : Int32)) % (6 : Int32))), .val (.ref (if (p2 &&& (1 : Int32)) = (0 : Int32) then w_RequestKind_JOB else w_RequestKind_EXECUTE)), .val (.ref (V1 (p3 &&& (3 : Int32)) w_Execution_PENDING w_Execution_NOT_EXECUTED w_Execution_EXECUTED w_Execution_UNKNOWN)), .val (.int (if (p4 &&& (1 : Int32)) = (0 : Int32) then (0 : Int32) else (1 : Int32))), .val (.int (if (p4 &&& (2 : Int32)) = (0 : Int32) then (0 : Int32) else (1 : Int32))), .unset, .unset, .unset, .unset, .unset, .unset, .unset] [])) _
    refine XS.iload X108.here hx rfl (hb hby at_70) rfl ?_
    show Steps p.tables e below (T108.setTop (mkF m 72 #[.val (.int p0), .val (.int p1), .val (.int p2), .val (.int p3), .val (.int p4), .val (.long p5), .second, .val (.int ((p0 &&& (2147483647 : Int32)) % (4 : Int32))), .val (.int ((p1 &&& (2147483647 : Int32)) % (6 : Int32))), .val (.ref (if (p2 &&& (1 : Int32)) = (0 : Int32) then w_RequestKind_JOB else w_RequestKind_EXECUTE)), .val (.ref (V1 (p3 &&& (3 : Int32)) w_Execution_PENDING w_Execution_NOT_EXECUTED w_Execution_EXECUTED w_Execution_UNKNOWN)), .val (.int (if (p4 &&& (1 : Int32)) = (0 : Int32) then (0 : Int32) else (1 : Int32))), .val (.int (if (p4 &&& (2 : Int32)) = (0 : Int32) then (0 : Int32) else (1 : Int32))), .unset, .unset, .unset, .unset, .unset, .unset, .unset] [(.int p4)])) _
    refine XS.iconst X108.here hx rfl (hb hby at_72) ?_
    show Steps p.tables e below (T108.setTop (mkF m 73 #[.val (.int p0), .val (.int p1), .val (.int p2), .val (.int p3), .val (.int p4), .val (.long p5), .second, .val (.int ((p0 &&& (2147483647 : Int32)) % (4 : Int32))), .val (.int ((p1 &&& (2147483647 : Int32)) % (6 : Int32))), .val (.ref (if (p2 &&& (1 : Int32)) = (0 : Int32) then w_RequestKind_JOB else w_RequestKind_EXECUTE)), .val (.ref (V1 (p3 &&& (3 : Int32)) w_Execution_PENDING w_Execution_NOT_EXECUTED w_Execution_EXECUTED w_Execution_UNKNOWN)), .val (.int (if (p4 &&& (1 : Int32)) = (0 : Int32) then (0 : Int32) else (1 : Int32))), .val (.int (if (p4 &&& (2 : Int32)) = (0 : Int32) then (0 : Int32) else (1 : Int32))), .unset, .unset, .unset, .unset, .unset, .unset, .unset] [(.int (4 : Int32)), (.int p4)])) _
    refine XS.iand X108.here hx rfl (hb hby at_73) rfl ?_
    exact k
  obtain ⟨T117, h117, vm117, k117, v117, X117, e117, E117, hS117, hk117, hZ117, hown117, hv117, S117⟩ : ∃ (T' : State) (h' : Heap) (vm' : Vm) (k' : Nat) (v117 : Value), WideStand X108 (s.setVm vm') T' 2 8 ∧ T'.heap = h' ∧ Ext h0 h' ∧ s.Since vm' k' ∧ k' ≤ h'.size ∧ Z.Warmed39 (s.setVm vm').vm ∧ (s.setVm vm').vm.findClass "com/example/done_once/doneonce/store/RequestEndedPinLaw" = some m.cls ∧ v117.isRef = true ∧ ∀ t, Steps p.tables e below (T'.setTop (mkF m 83 #[.val (.int p0), .val (.int p1), .val (.int p2), .val (.int p3), .val (.int p4), .val (.long p5), .second, .val (.int ((p0 &&& (2147483647 : Int32)) % (4 : Int32))), .val (.int ((p1 &&& (2147483647 : Int32)) % (6 : Int32))), .val (.ref (if (p2 &&& (1 : Int32)) = (0 : Int32) then w_RequestKind_JOB else w_RequestKind_EXECUTE)), .val (.ref (V1 (p3 &&& (3 : Int32)) w_Execution_PENDING w_Execution_NOT_EXECUTED w_Execution_EXECUTED w_Execution_UNKNOWN)), .val (.int (if (p4 &&& (1 : Int32)) = (0 : Int32) then (0 : Int32) else (1 : Int32))), .val (.int (if (p4 &&& (2 : Int32)) = (0 : Int32) then (0 : Int32) else (1 : Int32))), .unset, .unset, .unset, .unset, .unset, .unset, .unset] [v117])) t → Steps p.tables e below (s₁.setTop (entryFrame m #[(.int p0), (.int p1), (.int p2), (.int p3), (.int p4), (.long p5)] maxLocals)) t := by
    by_cases hc116 : (p4 &&& (4 : Int32)) = (0 : Int32)
    · refine ⟨T108, _, _, _, .null, X108.more (by decide) (by decide), e108, (⟨Nat.le_refl _, fun _ _ q => q⟩ : Ext _ _), hS0, (Nat.le_refl _), hZ, hown, rfl, fun t k => ?_⟩
      refine S115 t ?_
      show Steps p.tables e below (T108.setTop (mkF m 74 #[.val (.int p0), .val (.int p1), .val (.int p2), .val (.int p3), .val (.int p4), .val (.long p5), .second, .val (.int ((p0 &&& (2147483647 : Int32)) % (4 : Int32))), .val (.int ((p1 &&& (2147483647 : Int32)) % (6 : Int32))), .val (.ref (if (p2 &&& (1 : Int32)) = (0 : Int32) then w_RequestKind_JOB else w_RequestKind_EXECUTE)), .val (.ref (V1 (p3 &&& (3 : Int32)) w_Execution_PENDING w_Execution_NOT_EXECUTED w_Execution_EXECUTED w_Execution_UNKNOWN)), .val (.int (if (p4 &&& (1 : Int32)) = (0 : Int32) then (0 : Int32) else (1 : Int32))), .val (.int (if (p4 &&& (2 : Int32)) = (0 : Int32) then (0 : Int32) else (1 : Int32))), .unset, .unset, .unset, .unset, .unset, .unset, .unset] [(.int (p4 &&& (4 : Int32)))])) _
      refine XS.ifYes X108.here hx rfl (pc0 := 74) (pc' := 82) rfl (hb hby at_74) rfl ((if0 _ _).trans (teq hc116).1) (by decide) (by decide) ?_
      show Steps p.tables e below (T108.setTop (mkF m 82 #[.val (.int p0), .val (.int p1), .val (.int p2), .val (.int p3), .val (.int p4), .val (.long p5), .second, .val (.int ((p0 &&& (2147483647 : Int32)) % (4 : Int32))), .val (.int ((p1 &&& (2147483647 : Int32)) % (6 : Int32))), .val (.ref (if (p2 &&& (1 : Int32)) = (0 : Int32) then w_RequestKind_JOB else w_RequestKind_EXECUTE)), .val (.ref (V1 (p3 &&& (3 : Int32)) w_Execution_PENDING w_Execution_NOT_EXECUTED w_Execution_EXECUTED w_Execution_UNKNOWN)), .val (.int (if (p4 &&& (1 : Int32)) = (0 : Int32) then (0 : Int32) else (1 : Int32))), .val (.int (if (p4 &&& (2 : Int32)) = (0 : Int32) then (0 : Int32) else (1 : Int32))), .unset, .unset, .unset, .unset, .unset, .unset, .unset] [])) _
      refine XS.aconstNull X108.here hx rfl (hb hby at_82) ?_
      exact k
    · obtain ⟨a118, T118, h118, k118, X118, e118, E118, hS118, hk118, hZ118, hown118, st118⟩ := ldcS X108 hx hZ hown (hwk hw 97 rfl) hstr e108 hS0 (Nat.le_refl _) (g := (mkF m 77 #[.val (.int p0), .val (.int p1), .val (.int p2), .val (.int p3), .val (.int p4), .val (.long p5), .second, .val (.int ((p0 &&& (2147483647 : Int32)) % (4 : Int32))), .val (.int ((p1 &&& (2147483647 : Int32)) % (6 : Int32))), .val (.ref (if (p2 &&& (1 : Int32)) = (0 : Int32) then w_RequestKind_JOB else w_RequestKind_EXECUTE)), .val (.ref (V1 (p3 &&& (3 : Int32)) w_Execution_PENDING w_Execution_NOT_EXECUTED w_Execution_EXECUTED w_Execution_UNKNOWN)), .val (.int (if (p4 &&& (1 : Int32)) = (0 : Int32) then (0 : Int32) else (1 : Int32))), .val (.int (if (p4 &&& (2 : Int32)) = (0 : Int32) then (0 : Int32) else (1 : Int32))), .unset, .unset, .unset, .unset, .unset, .unset, .unset] [])) rfl (hb hby at_77) (n := 4) (by decide) (by decide) (by decide) (by decide)
      refine ⟨T118, _, _, _, (.ref a118), X118.more (by decide) (by decide), e118, E118, hS118, hk118, hZ118, hown118, rfl, fun t k => ?_⟩
      refine S115 t ?_
      show Steps p.tables e below (T108.setTop (mkF m 74 #[.val (.int p0), .val (.int p1), .val (.int p2), .val (.int p3), .val (.int p4), .val (.long p5), .second, .val (.int ((p0 &&& (2147483647 : Int32)) % (4 : Int32))), .val (.int ((p1 &&& (2147483647 : Int32)) % (6 : Int32))), .val (.ref (if (p2 &&& (1 : Int32)) = (0 : Int32) then w_RequestKind_JOB else w_RequestKind_EXECUTE)), .val (.ref (V1 (p3 &&& (3 : Int32)) w_Execution_PENDING w_Execution_NOT_EXECUTED w_Execution_EXECUTED w_Execution_UNKNOWN)), .val (.int (if (p4 &&& (1 : Int32)) = (0 : Int32) then (0 : Int32) else (1 : Int32))), .val (.int (if (p4 &&& (2 : Int32)) = (0 : Int32) then (0 : Int32) else (1 : Int32))), .unset, .unset, .unset, .unset, .unset, .unset, .unset] [(.int (p4 &&& (4 : Int32)))])) _
      refine XS.ifNo X108.here hx rfl (hb hby at_74) rfl ((if0 _ _).trans (feq hc116).1) ?_
      show Steps p.tables e below (T108.setTop (mkF m 77 #[.val (.int p0), .val (.int p1), .val (.int p2), .val (.int p3), .val (.int p4), .val (.long p5), .second, .val (.int ((p0 &&& (2147483647 : Int32)) % (4 : Int32))), .val (.int ((p1 &&& (2147483647 : Int32)) % (6 : Int32))), .val (.ref (if (p2 &&& (1 : Int32)) = (0 : Int32) then w_RequestKind_JOB else w_RequestKind_EXECUTE)), .val (.ref (V1 (p3 &&& (3 : Int32)) w_Execution_PENDING w_Execution_NOT_EXECUTED w_Execution_EXECUTED w_Execution_UNKNOWN)), .val (.int (if (p4 &&& (1 : Int32)) = (0 : Int32) then (0 : Int32) else (1 : Int32))), .val (.int (if (p4 &&& (2 : Int32)) = (0 : Int32) then (0 : Int32) else (1 : Int32))), .unset, .unset, .unset, .unset, .unset, .unset, .unset] [])) _
      refine st118 _ ?_
      show Steps p.tables e below (T118.setTop (mkF m 79 #[.val (.int p0), .val (.int p1), .val (.int p2), .val (.int p3), .val (.int p4), .val (.long p5), .second, .val (.int ((p0 &&& (2147483647 : Int32)) % (4 : Int32))), .val (.int ((p1 &&& (2147483647 : Int32)) % (6 : Int32))), .val (.ref (if (p2 &&& (1 : Int32)) = (0 : Int32) then w_RequestKind_JOB else w_RequestKind_EXECUTE)), .val (.ref (V1 (p3 &&& (3 : Int32)) w_Execution_PENDING w_Execution_NOT_EXECUTED w_Execution_EXECUTED w_Execution_UNKNOWN)), .val (.int (if (p4 &&& (1 : Int32)) = (0 : Int32) then (0 : Int32) else (1 : Int32))), .val (.int (if (p4 &&& (2 : Int32)) = (0 : Int32) then (0 : Int32) else (1 : Int32))), .unset, .unset, .unset, .unset, .unset, .unset, .unset] [(.ref a118)])) _
      refine XS.goto X118.here hx rfl (pc0 := 79) (pc' := 83) rfl (hb hby at_79) (by decide) (by decide) ?_
      exact k
  unfold WideStand at X117
  have S119 : ∀ t, Steps p.tables e below (T117.setTop (mkF m 90 #[.val (.int p0), .val (.int p1), .val (.int p2), .val (.int p3), .val (.int p4), .val (.long p5), .second, .val (.int ((p0 &&& (2147483647 : Int32)) % (4 : Int32))), .val (.int ((p1 &&& (2147483647 : Int32)) % (6 : Int32))), .val (.ref (if (p2 &&& (1 : Int32)) = (0 : Int32) then w_RequestKind_JOB else w_RequestKind_EXECUTE)), .val (.ref (V1 (p3 &&& (3 : Int32)) w_Execution_PENDING w_Execution_NOT_EXECUTED w_Execution_EXECUTED w_Execution_UNKNOWN)), .val (.int (if (p4 &&& (1 : Int32)) = (0 : Int32) then (0 : Int32) else (1 : Int32))), .val (.int (if (p4 &&& (2 : Int32)) = (0 : Int32) then (0 : Int32) else (1 : Int32))), .val v117, .unset, .unset, .unset, .unset, .unset, .unset] [(.int (p4 &&& (8 : Int32)))])) t → Steps p.tables e below (s₁.setTop (entryFrame m #[(.int p0), (.int p1), (.int p2), (.int p3), (.int p4), (.long p5)] maxLocals)) t := fun t k => by
    refine S117 t ?_
    show Steps p.tables e below (T117.setTop (mkF m 83 #[.val (.int p0), .val (.int p1), .val (.int p2), .val (.int p3), .val (.int p4), .val (.long p5), .second, .val (.int ((p0 &&& (2147483647 : Int32)) % (4 : Int32))), .val (.int ((p1 &&& (2147483647 : Int32)) % (6 : Int32))), .val (.ref (if (p2 &&& (1 : Int32)) = (0 : Int32) then w_RequestKind_JOB else w_RequestKind_EXECUTE)), .val (.ref (V1 (p3 &&& (3 : Int32)) w_Execution_PENDING w_Execution_NOT_EXECUTED w_Execution_EXECUTED w_Execution_UNKNOWN)), .val (.int (if (p4 &&& (1 : Int32)) = (0 : Int32) then (0 : Int32) else (1 : Int32))), .val (.int (if (p4 &&& (2 : Int32)) = (0 : Int32) then (0 : Int32) else (1 : Int32))), .unset, .unset, .unset, .unset, .unset, .unset, .unset] [v117])) _
    refine XS.astore X117.here hx rfl (hb hby at_83) rfl hv117 (l' := #[.val (.int p0), .val (.int p1), .val (.int p2), .val (.int p3), .val (.int p4), .val (.long p5), .second, .val (.int ((p0 &&& (2147483647 : Int32)) % (4 : Int32))), .val (.int ((p1 &&& (2147483647 : Int32)) % (6 : Int32))), .val (.ref (if (p2 &&& (1 : Int32)) = (0 : Int32) then w_RequestKind_JOB else w_RequestKind_EXECUTE)), .val (.ref (V1 (p3 &&& (3 : Int32)) w_Execution_PENDING w_Execution_NOT_EXECUTED w_Execution_EXECUTED w_Execution_UNKNOWN)), .val (.int (if (p4 &&& (1 : Int32)) = (0 : Int32) then (0 : Int32) else (1 : Int32))), .val (.int (if (p4 &&& (2 : Int32)) = (0 : Int32) then (0 : Int32) else (1 : Int32))), .val v117, .unset, .unset, .unset, .unset, .unset, .unset]) (XS.store1 (o := .unset) rfl (Or.inl rfl) (XT.cat1 hv117)) ?_
    show Steps p.tables e below (T117.setTop (mkF m 85 #[.val (.int p0), .val (.int p1), .val (.int p2), .val (.int p3), .val (.int p4), .val (.long p5), .second, .val (.int ((p0 &&& (2147483647 : Int32)) % (4 : Int32))), .val (.int ((p1 &&& (2147483647 : Int32)) % (6 : Int32))), .val (.ref (if (p2 &&& (1 : Int32)) = (0 : Int32) then w_RequestKind_JOB else w_RequestKind_EXECUTE)), .val (.ref (V1 (p3 &&& (3 : Int32)) w_Execution_PENDING w_Execution_NOT_EXECUTED w_Execution_EXECUTED w_Execution_UNKNOWN)), .val (.int (if (p4 &&& (1 : Int32)) = (0 : Int32) then (0 : Int32) else (1 : Int32))), .val (.int (if (p4 &&& (2 : Int32)) = (0 : Int32) then (0 : Int32) else (1 : Int32))), .val v117, .unset, .unset, .unset, .unset, .unset, .unset] [])) _
    refine XS.iload X117.here hx rfl (hb hby at_85) rfl ?_
    show Steps p.tables e below (T117.setTop (mkF m 87 #[.val (.int p0), .val (.int p1), .val (.int p2), .val (.int p3), .val (.int p4), .val (.long p5), .second, .val (.int ((p0 &&& (2147483647 : Int32)) % (4 : Int32))), .val (.int ((p1 &&& (2147483647 : Int32)) % (6 : Int32))), .val (.ref (if (p2 &&& (1 : Int32)) = (0 : Int32) then w_RequestKind_JOB else w_RequestKind_EXECUTE)), .val (.ref (V1 (p3 &&& (3 : Int32)) w_Execution_PENDING w_Execution_NOT_EXECUTED w_Execution_EXECUTED w_Execution_UNKNOWN)), .val (.int (if (p4 &&& (1 : Int32)) = (0 : Int32) then (0 : Int32) else (1 : Int32))), .val (.int (if (p4 &&& (2 : Int32)) = (0 : Int32) then (0 : Int32) else (1 : Int32))), .val v117, .unset, .unset, .unset, .unset, .unset, .unset] [(.int p4)])) _
    refine XS.bipush X117.here hx rfl (hb hby at_87) ?_
    show Steps p.tables e below (T117.setTop (mkF m 89 #[.val (.int p0), .val (.int p1), .val (.int p2), .val (.int p3), .val (.int p4), .val (.long p5), .second, .val (.int ((p0 &&& (2147483647 : Int32)) % (4 : Int32))), .val (.int ((p1 &&& (2147483647 : Int32)) % (6 : Int32))), .val (.ref (if (p2 &&& (1 : Int32)) = (0 : Int32) then w_RequestKind_JOB else w_RequestKind_EXECUTE)), .val (.ref (V1 (p3 &&& (3 : Int32)) w_Execution_PENDING w_Execution_NOT_EXECUTED w_Execution_EXECUTED w_Execution_UNKNOWN)), .val (.int (if (p4 &&& (1 : Int32)) = (0 : Int32) then (0 : Int32) else (1 : Int32))), .val (.int (if (p4 &&& (2 : Int32)) = (0 : Int32) then (0 : Int32) else (1 : Int32))), .val v117, .unset, .unset, .unset, .unset, .unset, .unset] [(.int (8 : Int32)), (.int p4)])) _
    refine XS.iand X117.here hx rfl (hb hby at_89) rfl ?_
    exact k
  obtain ⟨T121, h121, vm121, k121, v121, X121, e121, E121, hS121, hk121, hZ121, hown121, hv121, S121⟩ : ∃ (T' : State) (h' : Heap) (vm' : Vm) (k' : Nat) (v121 : Value), WideStand X117 (s.setVm vm') T' 2 8 ∧ T'.heap = h' ∧ Ext h117 h' ∧ s.Since vm' k' ∧ k' ≤ h'.size ∧ Z.Warmed39 (s.setVm vm').vm ∧ (s.setVm vm').vm.findClass "com/example/done_once/doneonce/store/RequestEndedPinLaw" = some m.cls ∧ v121.isRef = true ∧ ∀ t, Steps p.tables e below (T'.setTop (mkF m 99 #[.val (.int p0), .val (.int p1), .val (.int p2), .val (.int p3), .val (.int p4), .val (.long p5), .second, .val (.int ((p0 &&& (2147483647 : Int32)) % (4 : Int32))), .val (.int ((p1 &&& (2147483647 : Int32)) % (6 : Int32))), .val (.ref (if (p2 &&& (1 : Int32)) = (0 : Int32) then w_RequestKind_JOB else w_RequestKind_EXECUTE)), .val (.ref (V1 (p3 &&& (3 : Int32)) w_Execution_PENDING w_Execution_NOT_EXECUTED w_Execution_EXECUTED w_Execution_UNKNOWN)), .val (.int (if (p4 &&& (1 : Int32)) = (0 : Int32) then (0 : Int32) else (1 : Int32))), .val (.int (if (p4 &&& (2 : Int32)) = (0 : Int32) then (0 : Int32) else (1 : Int32))), .val v117, .unset, .unset, .unset, .unset, .unset, .unset] [v121])) t → Steps p.tables e below (s₁.setTop (entryFrame m #[(.int p0), (.int p1), (.int p2), (.int p3), (.int p4), (.long p5)] maxLocals)) t := by
    by_cases hc120 : (p4 &&& (8 : Int32)) = (0 : Int32)
    · refine ⟨T117, _, _, _, .null, X117.more (by decide) (by decide), e117, (⟨Nat.le_refl _, fun _ _ q => q⟩ : Ext _ _), hS117, hk117, hZ117, hown117, rfl, fun t k => ?_⟩
      refine S119 t ?_
      show Steps p.tables e below (T117.setTop (mkF m 90 #[.val (.int p0), .val (.int p1), .val (.int p2), .val (.int p3), .val (.int p4), .val (.long p5), .second, .val (.int ((p0 &&& (2147483647 : Int32)) % (4 : Int32))), .val (.int ((p1 &&& (2147483647 : Int32)) % (6 : Int32))), .val (.ref (if (p2 &&& (1 : Int32)) = (0 : Int32) then w_RequestKind_JOB else w_RequestKind_EXECUTE)), .val (.ref (V1 (p3 &&& (3 : Int32)) w_Execution_PENDING w_Execution_NOT_EXECUTED w_Execution_EXECUTED w_Execution_UNKNOWN)), .val (.int (if (p4 &&& (1 : Int32)) = (0 : Int32) then (0 : Int32) else (1 : Int32))), .val (.int (if (p4 &&& (2 : Int32)) = (0 : Int32) then (0 : Int32) else (1 : Int32))), .val v117, .unset, .unset, .unset, .unset, .unset, .unset] [(.int (p4 &&& (8 : Int32)))])) _
      refine XS.ifYes X117.here hx rfl (pc0 := 90) (pc' := 98) rfl (hb hby at_90) rfl ((if0 _ _).trans (teq hc120).1) (by decide) (by decide) ?_
      show Steps p.tables e below (T117.setTop (mkF m 98 #[.val (.int p0), .val (.int p1), .val (.int p2), .val (.int p3), .val (.int p4), .val (.long p5), .second, .val (.int ((p0 &&& (2147483647 : Int32)) % (4 : Int32))), .val (.int ((p1 &&& (2147483647 : Int32)) % (6 : Int32))), .val (.ref (if (p2 &&& (1 : Int32)) = (0 : Int32) then w_RequestKind_JOB else w_RequestKind_EXECUTE)), .val (.ref (V1 (p3 &&& (3 : Int32)) w_Execution_PENDING w_Execution_NOT_EXECUTED w_Execution_EXECUTED w_Execution_UNKNOWN)), .val (.int (if (p4 &&& (1 : Int32)) = (0 : Int32) then (0 : Int32) else (1 : Int32))), .val (.int (if (p4 &&& (2 : Int32)) = (0 : Int32) then (0 : Int32) else (1 : Int32))), .val v117, .unset, .unset, .unset, .unset, .unset, .unset] [])) _
      refine XS.aconstNull X117.here hx rfl (hb hby at_98) ?_
      exact k
    · obtain ⟨a122, T122, h122, k122, X122, e122, E122, hS122, hk122, hZ122, hown122, st122⟩ := ldcS X117 hx hZ117 hown117 (hwk hw 98 rfl) hstr e117 hS117 hk117 (g := (mkF m 93 #[.val (.int p0), .val (.int p1), .val (.int p2), .val (.int p3), .val (.int p4), .val (.long p5), .second, .val (.int ((p0 &&& (2147483647 : Int32)) % (4 : Int32))), .val (.int ((p1 &&& (2147483647 : Int32)) % (6 : Int32))), .val (.ref (if (p2 &&& (1 : Int32)) = (0 : Int32) then w_RequestKind_JOB else w_RequestKind_EXECUTE)), .val (.ref (V1 (p3 &&& (3 : Int32)) w_Execution_PENDING w_Execution_NOT_EXECUTED w_Execution_EXECUTED w_Execution_UNKNOWN)), .val (.int (if (p4 &&& (1 : Int32)) = (0 : Int32) then (0 : Int32) else (1 : Int32))), .val (.int (if (p4 &&& (2 : Int32)) = (0 : Int32) then (0 : Int32) else (1 : Int32))), .val v117, .unset, .unset, .unset, .unset, .unset, .unset] [])) rfl (hb hby at_93) (n := 4) (by decide) (by decide) (by decide) (by decide)
      refine ⟨T122, _, _, _, (.ref a122), X122.more (by decide) (by decide), e122, E122, hS122, hk122, hZ122, hown122, rfl, fun t k => ?_⟩
      refine S119 t ?_
      show Steps p.tables e below (T117.setTop (mkF m 90 #[.val (.int p0), .val (.int p1), .val (.int p2), .val (.int p3), .val (.int p4), .val (.long p5), .second, .val (.int ((p0 &&& (2147483647 : Int32)) % (4 : Int32))), .val (.int ((p1 &&& (2147483647 : Int32)) % (6 : Int32))), .val (.ref (if (p2 &&& (1 : Int32)) = (0 : Int32) then w_RequestKind_JOB else w_RequestKind_EXECUTE)), .val (.ref (V1 (p3 &&& (3 : Int32)) w_Execution_PENDING w_Execution_NOT_EXECUTED w_Execution_EXECUTED w_Execution_UNKNOWN)), .val (.int (if (p4 &&& (1 : Int32)) = (0 : Int32) then (0 : Int32) else (1 : Int32))), .val (.int (if (p4 &&& (2 : Int32)) = (0 : Int32) then (0 : Int32) else (1 : Int32))), .val v117, .unset, .unset, .unset, .unset, .unset, .unset] [(.int (p4 &&& (8 : Int32)))])) _
      refine XS.ifNo X117.here hx rfl (hb hby at_90) rfl ((if0 _ _).trans (feq hc120).1) ?_
      show Steps p.tables e below (T117.setTop (mkF m 93 #[.val (.int p0), .val (.int p1), .val (.int p2), .val (.int p3), .val (.int p4), .val (.long p5), .second, .val (.int ((p0 &&& (2147483647 : Int32)) % (4 : Int32))), .val (.int ((p1 &&& (2147483647 : Int32)) % (6 : Int32))), .val (.ref (if (p2 &&& (1 : Int32)) = (0 : Int32) then w_RequestKind_JOB else w_RequestKind_EXECUTE)), .val (.ref (V1 (p3 &&& (3 : Int32)) w_Execution_PENDING w_Execution_NOT_EXECUTED w_Execution_EXECUTED w_Execution_UNKNOWN)), .val (.int (if (p4 &&& (1 : Int32)) = (0 : Int32) then (0 : Int32) else (1 : Int32))), .val (.int (if (p4 &&& (2 : Int32)) = (0 : Int32) then (0 : Int32) else (1 : Int32))), .val v117, .unset, .unset, .unset, .unset, .unset, .unset] [])) _
      refine st122 _ ?_
      show Steps p.tables e below (T122.setTop (mkF m 95 #[.val (.int p0), .val (.int p1), .val (.int p2), .val (.int p3), .val (.int p4), .val (.long p5), .second, .val (.int ((p0 &&& (2147483647 : Int32)) % (4 : Int32))), .val (.int ((p1 &&& (2147483647 : Int32)) % (6 : Int32))), .val (.ref (if (p2 &&& (1 : Int32)) = (0 : Int32) then w_RequestKind_JOB else w_RequestKind_EXECUTE)), .val (.ref (V1 (p3 &&& (3 : Int32)) w_Execution_PENDING w_Execution_NOT_EXECUTED w_Execution_EXECUTED w_Execution_UNKNOWN)), .val (.int (if (p4 &&& (1 : Int32)) = (0 : Int32) then (0 : Int32) else (1 : Int32))), .val (.int (if (p4 &&& (2 : Int32)) = (0 : Int32) then (0 : Int32) else (1 : Int32))), .val v117, .unset, .unset, .unset, .unset, .unset, .unset] [(.ref a122)])) _
      refine XS.goto X122.here hx rfl (pc0 := 95) (pc' := 99) rfl (hb hby at_95) (by decide) (by decide) ?_
      exact k
  unfold WideStand at X121
  have O123 : Old Z n0 h117 := Old.ext O0 E117
  have O124 : Old Z n0 h121 := Old.ext O123 E121
  obtain ⟨_, _, ⟨T125, L125, k125, n125⟩, -, X125, ⟨Lc125, hQ125, l125, y125, z125⟩, st125⟩ := Jvm.LawKit.callS X121 hx (y := (⟨"java/lang/String", "valueOf", "(C)Ljava/lang/String;"⟩ : MethodName)) hown121 (mvT hZ121 (hwk hw 11 rfl)) (mvT hZ121 (hwk hw 12 rfl)) (mvT hZ121 (hwk hw 13 rfl)) (mvT hZ121 (hwk hw 14 rfl)) (by decide) (backOf (W := 0) (rm2 l Z a0 hw [] ((((p4.toUInt32 >>> ((8 : Int32) &&& 31).toUInt32).toInt32) &&& (255 : Int32)).toUInt32.toUInt16.toUInt32.toInt32) zc h121 n0 O124 SZ PZ (own_chm _)) hZ121 (hwk hw 14 rfl) (hwk hw 13 rfl) (by decide) (by decide)) (g := (mkF m 111 #[.val (.int p0), .val (.int p1), .val (.int p2), .val (.int p3), .val (.int p4), .val (.long p5), .second, .val (.int ((p0 &&& (2147483647 : Int32)) % (4 : Int32))), .val (.int ((p1 &&& (2147483647 : Int32)) % (6 : Int32))), .val (.ref (if (p2 &&& (1 : Int32)) = (0 : Int32) then w_RequestKind_JOB else w_RequestKind_EXECUTE)), .val (.ref (V1 (p3 &&& (3 : Int32)) w_Execution_PENDING w_Execution_NOT_EXECUTED w_Execution_EXECUTED w_Execution_UNKNOWN)), .val (.int (if (p4 &&& (1 : Int32)) = (0 : Int32) then (0 : Int32) else (1 : Int32))), .val (.int (if (p4 &&& (2 : Int32)) = (0 : Int32) then (0 : Int32) else (1 : Int32))), .val v117, .val v121, .unset, .unset, .unset, .unset, .unset] [(.int ((((p4.toUInt32 >>> ((8 : Int32) &&& 31).toUInt32).toInt32) &&& (255 : Int32)).toUInt32.toUInt16.toUInt32.toInt32))])) rfl (by rw [hml]; rfl) (argsL := [(.int ((((p4.toUInt32 >>> ((8 : Int32) &&& 31).toUInt32).toInt32) &&& (255 : Int32)).toUInt32.toUInt16.toUInt32.toInt32))]) (rest := []) (lenOf pd_9 rfl) rfl (by show 2 * 0 + _ ≤ _; exact Nat.le_of_eq rfl) (hb hby at_111) (fun _ _ => ⟨rfl, e121, (by decide : 4 + 2 ≤ _), (by decide : 16 + 5 ≤ _)⟩)
  dsimp only [Pt.U, Pt.locs, Pt.cells, Pt.slots] at X125 l125 y125 z125 st125 hQ125
  subst l125 y125 z125
  unfold Q_rm2 at hQ125
  obtain ⟨b_125, t_125, k_125, rfl, N125q, K125, ge_b_125, ge_t_125, f125_0, f125_1, f125_2, f125_3, f125_4⟩ := hQ125
  have N125 := Fr.app N108 N125q
  have g_b_125 : n0 ≤ b_125 := Nat.le_trans (old_le O124) ge_b_125
  have g_t_125 : n0 ≤ t_125 := Nat.le_trans (old_le O124) ge_t_125
  have S127 : ∀ t, Steps p.tables e below (T125.setTop (mkF m 119 #[.val (.int p0), .val (.int p1), .val (.int p2), .val (.int p3), .val (.int p4), .val (.long p5), .second, .val (.int ((p0 &&& (2147483647 : Int32)) % (4 : Int32))), .val (.int ((p1 &&& (2147483647 : Int32)) % (6 : Int32))), .val (.ref (if (p2 &&& (1 : Int32)) = (0 : Int32) then w_RequestKind_JOB else w_RequestKind_EXECUTE)), .val (.ref (V1 (p3 &&& (3 : Int32)) w_Execution_PENDING w_Execution_NOT_EXECUTED w_Execution_EXECUTED w_Execution_UNKNOWN)), .val (.int (if (p4 &&& (1 : Int32)) = (0 : Int32) then (0 : Int32) else (1 : Int32))), .val (.int (if (p4 &&& (2 : Int32)) = (0 : Int32) then (0 : Int32) else (1 : Int32))), .val v117, .val v121, .val (.ref b_125), .unset, .unset, .unset, .unset] [(.int (1 : Int32)), (.int ((p0 &&& (2147483647 : Int32)) % (4 : Int32)))])) t → Steps p.tables e below (s₁.setTop (entryFrame m #[(.int p0), (.int p1), (.int p2), (.int p3), (.int p4), (.long p5)] maxLocals)) t := fun t k => by
    refine S121 t ?_
    show Steps p.tables e below (T121.setTop (mkF m 99 #[.val (.int p0), .val (.int p1), .val (.int p2), .val (.int p3), .val (.int p4), .val (.long p5), .second, .val (.int ((p0 &&& (2147483647 : Int32)) % (4 : Int32))), .val (.int ((p1 &&& (2147483647 : Int32)) % (6 : Int32))), .val (.ref (if (p2 &&& (1 : Int32)) = (0 : Int32) then w_RequestKind_JOB else w_RequestKind_EXECUTE)), .val (.ref (V1 (p3 &&& (3 : Int32)) w_Execution_PENDING w_Execution_NOT_EXECUTED w_Execution_EXECUTED w_Execution_UNKNOWN)), .val (.int (if (p4 &&& (1 : Int32)) = (0 : Int32) then (0 : Int32) else (1 : Int32))), .val (.int (if (p4 &&& (2 : Int32)) = (0 : Int32) then (0 : Int32) else (1 : Int32))), .val v117, .unset, .unset, .unset, .unset, .unset, .unset] [v121])) _
    refine XS.astore X121.here hx rfl (hb hby at_99) rfl hv121 (l' := #[.val (.int p0), .val (.int p1), .val (.int p2), .val (.int p3), .val (.int p4), .val (.long p5), .second, .val (.int ((p0 &&& (2147483647 : Int32)) % (4 : Int32))), .val (.int ((p1 &&& (2147483647 : Int32)) % (6 : Int32))), .val (.ref (if (p2 &&& (1 : Int32)) = (0 : Int32) then w_RequestKind_JOB else w_RequestKind_EXECUTE)), .val (.ref (V1 (p3 &&& (3 : Int32)) w_Execution_PENDING w_Execution_NOT_EXECUTED w_Execution_EXECUTED w_Execution_UNKNOWN)), .val (.int (if (p4 &&& (1 : Int32)) = (0 : Int32) then (0 : Int32) else (1 : Int32))), .val (.int (if (p4 &&& (2 : Int32)) = (0 : Int32) then (0 : Int32) else (1 : Int32))), .val v117, .val v121, .unset, .unset, .unset, .unset, .unset]) (XS.store1 (o := .unset) rfl (Or.inl rfl) (XT.cat1 hv121)) ?_
    show Steps p.tables e below (T121.setTop (mkF m 101 #[.val (.int p0), .val (.int p1), .val (.int p2), .val (.int p3), .val (.int p4), .val (.long p5), .second, .val (.int ((p0 &&& (2147483647 : Int32)) % (4 : Int32))), .val (.int ((p1 &&& (2147483647 : Int32)) % (6 : Int32))), .val (.ref (if (p2 &&& (1 : Int32)) = (0 : Int32) then w_RequestKind_JOB else w_RequestKind_EXECUTE)), .val (.ref (V1 (p3 &&& (3 : Int32)) w_Execution_PENDING w_Execution_NOT_EXECUTED w_Execution_EXECUTED w_Execution_UNKNOWN)), .val (.int (if (p4 &&& (1 : Int32)) = (0 : Int32) then (0 : Int32) else (1 : Int32))), .val (.int (if (p4 &&& (2 : Int32)) = (0 : Int32) then (0 : Int32) else (1 : Int32))), .val v117, .val v121, .unset, .unset, .unset, .unset, .unset] [])) _
    refine XS.iload X121.here hx rfl (hb hby at_101) rfl ?_
    show Steps p.tables e below (T121.setTop (mkF m 103 #[.val (.int p0), .val (.int p1), .val (.int p2), .val (.int p3), .val (.int p4), .val (.long p5), .second, .val (.int ((p0 &&& (2147483647 : Int32)) % (4 : Int32))), .val (.int ((p1 &&& (2147483647 : Int32)) % (6 : Int32))), .val (.ref (if (p2 &&& (1 : Int32)) = (0 : Int32) then w_RequestKind_JOB else w_RequestKind_EXECUTE)), .val (.ref (V1 (p3 &&& (3 : Int32)) w_Execution_PENDING w_Execution_NOT_EXECUTED w_Execution_EXECUTED w_Execution_UNKNOWN)), .val (.int (if (p4 &&& (1 : Int32)) = (0 : Int32) then (0 : Int32) else (1 : Int32))), .val (.int (if (p4 &&& (2 : Int32)) = (0 : Int32) then (0 : Int32) else (1 : Int32))), .val v117, .val v121, .unset, .unset, .unset, .unset, .unset] [(.int p4)])) _
    refine XS.bipush X121.here hx rfl (hb hby at_103) ?_
    show Steps p.tables e below (T121.setTop (mkF m 105 #[.val (.int p0), .val (.int p1), .val (.int p2), .val (.int p3), .val (.int p4), .val (.long p5), .second, .val (.int ((p0 &&& (2147483647 : Int32)) % (4 : Int32))), .val (.int ((p1 &&& (2147483647 : Int32)) % (6 : Int32))), .val (.ref (if (p2 &&& (1 : Int32)) = (0 : Int32) then w_RequestKind_JOB else w_RequestKind_EXECUTE)), .val (.ref (V1 (p3 &&& (3 : Int32)) w_Execution_PENDING w_Execution_NOT_EXECUTED w_Execution_EXECUTED w_Execution_UNKNOWN)), .val (.int (if (p4 &&& (1 : Int32)) = (0 : Int32) then (0 : Int32) else (1 : Int32))), .val (.int (if (p4 &&& (2 : Int32)) = (0 : Int32) then (0 : Int32) else (1 : Int32))), .val v117, .val v121, .unset, .unset, .unset, .unset, .unset] [(.int (8 : Int32)), (.int p4)])) _
    refine XS.iushr X121.here hx rfl (hb hby at_105) rfl ?_
    show Steps p.tables e below (T121.setTop (mkF m 106 #[.val (.int p0), .val (.int p1), .val (.int p2), .val (.int p3), .val (.int p4), .val (.long p5), .second, .val (.int ((p0 &&& (2147483647 : Int32)) % (4 : Int32))), .val (.int ((p1 &&& (2147483647 : Int32)) % (6 : Int32))), .val (.ref (if (p2 &&& (1 : Int32)) = (0 : Int32) then w_RequestKind_JOB else w_RequestKind_EXECUTE)), .val (.ref (V1 (p3 &&& (3 : Int32)) w_Execution_PENDING w_Execution_NOT_EXECUTED w_Execution_EXECUTED w_Execution_UNKNOWN)), .val (.int (if (p4 &&& (1 : Int32)) = (0 : Int32) then (0 : Int32) else (1 : Int32))), .val (.int (if (p4 &&& (2 : Int32)) = (0 : Int32) then (0 : Int32) else (1 : Int32))), .val v117, .val v121, .unset, .unset, .unset, .unset, .unset] [(.int ((p4.toUInt32 >>> ((8 : Int32) &&& 31).toUInt32).toInt32))])) _
    refine XS.sipush X121.here hx rfl (hb hby at_106) ?_
    show Steps p.tables e below (T121.setTop (mkF m 109 #[.val (.int p0), .val (.int p1), .val (.int p2), .val (.int p3), .val (.int p4), .val (.long p5), .second, .val (.int ((p0 &&& (2147483647 : Int32)) % (4 : Int32))), .val (.int ((p1 &&& (2147483647 : Int32)) % (6 : Int32))), .val (.ref (if (p2 &&& (1 : Int32)) = (0 : Int32) then w_RequestKind_JOB else w_RequestKind_EXECUTE)), .val (.ref (V1 (p3 &&& (3 : Int32)) w_Execution_PENDING w_Execution_NOT_EXECUTED w_Execution_EXECUTED w_Execution_UNKNOWN)), .val (.int (if (p4 &&& (1 : Int32)) = (0 : Int32) then (0 : Int32) else (1 : Int32))), .val (.int (if (p4 &&& (2 : Int32)) = (0 : Int32) then (0 : Int32) else (1 : Int32))), .val v117, .val v121, .unset, .unset, .unset, .unset, .unset] [(.int (255 : Int32)), (.int ((p4.toUInt32 >>> ((8 : Int32) &&& 31).toUInt32).toInt32))])) _
    refine XS.iand X121.here hx rfl (hb hby at_109) rfl ?_
    show Steps p.tables e below (T121.setTop (mkF m 110 #[.val (.int p0), .val (.int p1), .val (.int p2), .val (.int p3), .val (.int p4), .val (.long p5), .second, .val (.int ((p0 &&& (2147483647 : Int32)) % (4 : Int32))), .val (.int ((p1 &&& (2147483647 : Int32)) % (6 : Int32))), .val (.ref (if (p2 &&& (1 : Int32)) = (0 : Int32) then w_RequestKind_JOB else w_RequestKind_EXECUTE)), .val (.ref (V1 (p3 &&& (3 : Int32)) w_Execution_PENDING w_Execution_NOT_EXECUTED w_Execution_EXECUTED w_Execution_UNKNOWN)), .val (.int (if (p4 &&& (1 : Int32)) = (0 : Int32) then (0 : Int32) else (1 : Int32))), .val (.int (if (p4 &&& (2 : Int32)) = (0 : Int32) then (0 : Int32) else (1 : Int32))), .val v117, .val v121, .unset, .unset, .unset, .unset, .unset] [(.int (((p4.toUInt32 >>> ((8 : Int32) &&& 31).toUInt32).toInt32) &&& (255 : Int32)))])) _
    refine XS.i2c X121.here hx rfl (hb hby at_110) rfl ?_
    show Steps p.tables e below (T121.setTop (mkF m 111 #[.val (.int p0), .val (.int p1), .val (.int p2), .val (.int p3), .val (.int p4), .val (.long p5), .second, .val (.int ((p0 &&& (2147483647 : Int32)) % (4 : Int32))), .val (.int ((p1 &&& (2147483647 : Int32)) % (6 : Int32))), .val (.ref (if (p2 &&& (1 : Int32)) = (0 : Int32) then w_RequestKind_JOB else w_RequestKind_EXECUTE)), .val (.ref (V1 (p3 &&& (3 : Int32)) w_Execution_PENDING w_Execution_NOT_EXECUTED w_Execution_EXECUTED w_Execution_UNKNOWN)), .val (.int (if (p4 &&& (1 : Int32)) = (0 : Int32) then (0 : Int32) else (1 : Int32))), .val (.int (if (p4 &&& (2 : Int32)) = (0 : Int32) then (0 : Int32) else (1 : Int32))), .val v117, .val v121, .unset, .unset, .unset, .unset, .unset] [(.int ((((p4.toUInt32 >>> ((8 : Int32) &&& 31).toUInt32).toInt32) &&& (255 : Int32)).toUInt32.toUInt16.toUInt32.toInt32))])) _
    refine st125 _ ?_
    show Steps p.tables e below (T125.setTop (mkF m 114 #[.val (.int p0), .val (.int p1), .val (.int p2), .val (.int p3), .val (.int p4), .val (.long p5), .second, .val (.int ((p0 &&& (2147483647 : Int32)) % (4 : Int32))), .val (.int ((p1 &&& (2147483647 : Int32)) % (6 : Int32))), .val (.ref (if (p2 &&& (1 : Int32)) = (0 : Int32) then w_RequestKind_JOB else w_RequestKind_EXECUTE)), .val (.ref (V1 (p3 &&& (3 : Int32)) w_Execution_PENDING w_Execution_NOT_EXECUTED w_Execution_EXECUTED w_Execution_UNKNOWN)), .val (.int (if (p4 &&& (1 : Int32)) = (0 : Int32) then (0 : Int32) else (1 : Int32))), .val (.int (if (p4 &&& (2 : Int32)) = (0 : Int32) then (0 : Int32) else (1 : Int32))), .val v117, .val v121, .unset, .unset, .unset, .unset, .unset] [(.ref b_125)])) _
    refine XS.astore X125.here hx rfl (hb hby at_114) rfl rfl (l' := #[.val (.int p0), .val (.int p1), .val (.int p2), .val (.int p3), .val (.int p4), .val (.long p5), .second, .val (.int ((p0 &&& (2147483647 : Int32)) % (4 : Int32))), .val (.int ((p1 &&& (2147483647 : Int32)) % (6 : Int32))), .val (.ref (if (p2 &&& (1 : Int32)) = (0 : Int32) then w_RequestKind_JOB else w_RequestKind_EXECUTE)), .val (.ref (V1 (p3 &&& (3 : Int32)) w_Execution_PENDING w_Execution_NOT_EXECUTED w_Execution_EXECUTED w_Execution_UNKNOWN)), .val (.int (if (p4 &&& (1 : Int32)) = (0 : Int32) then (0 : Int32) else (1 : Int32))), .val (.int (if (p4 &&& (2 : Int32)) = (0 : Int32) then (0 : Int32) else (1 : Int32))), .val v117, .val v121, .val (.ref b_125), .unset, .unset, .unset, .unset]) rfl ?_
    show Steps p.tables e below (T125.setTop (mkF m 116 #[.val (.int p0), .val (.int p1), .val (.int p2), .val (.int p3), .val (.int p4), .val (.long p5), .second, .val (.int ((p0 &&& (2147483647 : Int32)) % (4 : Int32))), .val (.int ((p1 &&& (2147483647 : Int32)) % (6 : Int32))), .val (.ref (if (p2 &&& (1 : Int32)) = (0 : Int32) then w_RequestKind_JOB else w_RequestKind_EXECUTE)), .val (.ref (V1 (p3 &&& (3 : Int32)) w_Execution_PENDING w_Execution_NOT_EXECUTED w_Execution_EXECUTED w_Execution_UNKNOWN)), .val (.int (if (p4 &&& (1 : Int32)) = (0 : Int32) then (0 : Int32) else (1 : Int32))), .val (.int (if (p4 &&& (2 : Int32)) = (0 : Int32) then (0 : Int32) else (1 : Int32))), .val v117, .val v121, .val (.ref b_125), .unset, .unset, .unset, .unset] [])) _
    refine XS.iload X125.here hx rfl (hb hby at_116) rfl ?_
    show Steps p.tables e below (T125.setTop (mkF m 118 #[.val (.int p0), .val (.int p1), .val (.int p2), .val (.int p3), .val (.int p4), .val (.long p5), .second, .val (.int ((p0 &&& (2147483647 : Int32)) % (4 : Int32))), .val (.int ((p1 &&& (2147483647 : Int32)) % (6 : Int32))), .val (.ref (if (p2 &&& (1 : Int32)) = (0 : Int32) then w_RequestKind_JOB else w_RequestKind_EXECUTE)), .val (.ref (V1 (p3 &&& (3 : Int32)) w_Execution_PENDING w_Execution_NOT_EXECUTED w_Execution_EXECUTED w_Execution_UNKNOWN)), .val (.int (if (p4 &&& (1 : Int32)) = (0 : Int32) then (0 : Int32) else (1 : Int32))), .val (.int (if (p4 &&& (2 : Int32)) = (0 : Int32) then (0 : Int32) else (1 : Int32))), .val v117, .val v121, .val (.ref b_125), .unset, .unset, .unset, .unset] [(.int ((p0 &&& (2147483647 : Int32)) % (4 : Int32)))])) _
    refine XS.iconst X125.here hx rfl (hb hby at_118) ?_
    exact k
  by_cases hc126 : ((p0 &&& (2147483647 : Int32)) % (4 : Int32)) = (1 : Int32)
  · have O128 : Old Z n0 T125.heap := Old.keep O124 K125 all0
    obtain ⟨T129, h129, X129, e129, E129, A129, D129, -, st129⟩ := newO X125 hx hZ121 hown121 (hwk hw 99 rfl) (hwk hw 100 rfl) (hwk hw 101 rfl) (rfl : T125.heap = T125.heap) (g := (mkF m 122 #[.val (.int p0), .val (.int p1), .val (.int p2), .val (.int p3), .val (.int p4), .val (.long p5), .second, .val (.int ((p0 &&& (2147483647 : Int32)) % (4 : Int32))), .val (.int ((p1 &&& (2147483647 : Int32)) % (6 : Int32))), .val (.ref (if (p2 &&& (1 : Int32)) = (0 : Int32) then w_RequestKind_JOB else w_RequestKind_EXECUTE)), .val (.ref (V1 (p3 &&& (3 : Int32)) w_Execution_PENDING w_Execution_NOT_EXECUTED w_Execution_EXECUTED w_Execution_UNKNOWN)), .val (.int (if (p4 &&& (1 : Int32)) = (0 : Int32) then (0 : Int32) else (1 : Int32))), .val (.int (if (p4 &&& (2 : Int32)) = (0 : Int32) then (0 : Int32) else (1 : Int32))), .val v117, .val v121, .val (.ref b_125), .unset, .unset, .unset, .unset] [])) rfl (hb hby at_122) (by decide) (by decide)
    obtain ⟨b129, g129⟩ : ∃ z, z = T125.heap.size := ⟨_, rfl⟩
    rw [← g129] at A129 D129 st129
    have g_b129 : n0 ≤ b129 := Nat.le_trans (old_le O128) (Nat.le_of_eq g129.symm)
    have O130 : Old Z n0 h129 := Old.ext O128 E129
    obtain ⟨_, _, ⟨T131, L131, k131, n131⟩, -, X131, ⟨Lc131, hQ131, l131, y131, z131⟩, st131⟩ := Jvm.LawKit.callS X129 hx (y := (⟨"com/example/done_once/doneonce/store/RequestEndedPinLaw", "jobState", "(I)Lcom/example/done_once/doneonce/core/JobState;"⟩ : MethodName)) hown121 (mvT hZ121 (hwk hw 102 rfl)) (mvT hZ121 (hwk hw 103 rfl)) (mvT hZ121 (hwk hw 6 rfl)) (mvT hZ121 (hwk hw 104 rfl)) (by decide) (backOf (W := 2) (rm12 l Z a0 hw [] ((p1 &&& (2147483647 : Int32)) % (6 : Int32)) w_JobState_QUEUED w_JobState_RUNNING w_JobState_SUCCEEDED w_JobState_FAILED w_JobState_TIMEOUT w_JobState_CANCELLED h129 n0 O130 S_JobState_QUEUED S_JobState_RUNNING S_JobState_SUCCEEDED S_JobState_FAILED S_JobState_TIMEOUT S_JobState_CANCELLED E_w_JobState_QUEUED E_w_JobState_RUNNING E_w_JobState_SUCCEEDED E_w_JobState_FAILED E_w_JobState_TIMEOUT E_w_JobState_CANCELLED F_w_JobState_QUEUED_terminal F_w_JobState_RUNNING_terminal F_w_JobState_SUCCEEDED_terminal F_w_JobState_FAILED_terminal F_w_JobState_TIMEOUT_terminal F_w_JobState_CANCELLED_terminal) hZ121 (hwk hw 104 rfl) (hwk hw 6 rfl) (by decide) (by decide)) (g := (mkF m 128 #[.val (.int p0), .val (.int p1), .val (.int p2), .val (.int p3), .val (.int p4), .val (.long p5), .second, .val (.int ((p0 &&& (2147483647 : Int32)) % (4 : Int32))), .val (.int ((p1 &&& (2147483647 : Int32)) % (6 : Int32))), .val (.ref (if (p2 &&& (1 : Int32)) = (0 : Int32) then w_RequestKind_JOB else w_RequestKind_EXECUTE)), .val (.ref (V1 (p3 &&& (3 : Int32)) w_Execution_PENDING w_Execution_NOT_EXECUTED w_Execution_EXECUTED w_Execution_UNKNOWN)), .val (.int (if (p4 &&& (1 : Int32)) = (0 : Int32) then (0 : Int32) else (1 : Int32))), .val (.int (if (p4 &&& (2 : Int32)) = (0 : Int32) then (0 : Int32) else (1 : Int32))), .val v117, .val v121, .val (.ref b_125), .unset, .unset, .unset, .unset] [(.int ((p1 &&& (2147483647 : Int32)) % (6 : Int32))), (.ref b129), (.ref b129)])) rfl (by rw [hml]; rfl) (argsL := [(.int ((p1 &&& (2147483647 : Int32)) % (6 : Int32)))]) (rest := [(.ref b129), (.ref b129)]) (lenOf pd_10 rfl) rfl (by show 2 * 0 + _ ≤ _; exact Nat.le_of_eq rfl) (hb hby at_128) (fun _ _ => ⟨rfl, e129, (by decide : 7 + 0 ≤ _), (by decide : 26 + 0 ≤ _)⟩)
    dsimp only [Pt.U, Pt.locs, Pt.cells, Pt.slots] at X131 l131 y131 z131 st131 hQ131
    subst l131 y131 z131
    unfold Q_rm12 at hQ131
    obtain ⟨rfl, N131q, e131, f131_0, f131_1⟩ := hQ131
    have N131 := Fr.app N125 N131q
    obtain ⟨_, _, ⟨T132, L132, k132, n132⟩, -, X132, hs132', hg132', ⟨Lc132, hQ132, l132, y132, z132⟩, st132⟩ := X131.specialBackS hx (y := (⟨"com/example/done_once/doneonce/core/JobStatus", "<init>", "(Lcom/example/done_once/doneonce/core/JobState;Lcom/example/done_once/doneonce/core/Execution;Ljava/lang/String;ZZ)V"⟩ : MethodName)) rfl hown121 (mvT hZ121 (hwk hw 108 rfl)) (mvT hZ121 (hwk hw 109 rfl)) (mvT hZ121 (hwk hw 110 rfl)) (by decide) (backOfS (W := 1) (rm13 l Z a0 hw [] b129 (V12 ((p1 &&& (2147483647 : Int32)) % (6 : Int32)) w_JobState_QUEUED w_JobState_RUNNING w_JobState_SUCCEEDED w_JobState_FAILED w_JobState_TIMEOUT w_JobState_CANCELLED) (V1 (p3 &&& (3 : Int32)) w_Execution_PENDING w_Execution_NOT_EXECUTED w_Execution_EXECUTED w_Execution_UNKNOWN) v121 (if (p4 &&& (1 : Int32)) = (0 : Int32) then (0 : Int32) else (1 : Int32)) (if (p4 &&& (2 : Int32)) = (0 : Int32) then (0 : Int32) else (1 : Int32)) h129 n0 O130 A129 g_b129 (show Fld Z h129 b129 "com/example/done_once/doneonce/core/JobStatus" "state" "Lcom/example/done_once/doneonce/core/JobState;" .null from D129 (Or.inr (hwk hw 116 rfl)) (ty := (.object "com/example/done_once/doneonce/core/JobState")) (by decide)) (show Fld Z h129 b129 "com/example/done_once/doneonce/core/JobStatus" "execution" "Lcom/example/done_once/doneonce/core/Execution;" .null from D129 (Or.inr (hwk hw 118 rfl)) (ty := (.object "com/example/done_once/doneonce/core/Execution")) (by decide)) (show Fld Z h129 b129 "com/example/done_once/doneonce/core/JobStatus" "executorId" "Ljava/lang/String;" .null from D129 (Or.inr (hwk hw 120 rfl)) (ty := (.object "java/lang/String")) (by decide)) (show Fld Z h129 b129 "com/example/done_once/doneonce/core/JobStatus" "cancelRequested" "Z" (.int (0 : Int32)) from D129 (Or.inr (hwk hw 122 rfl)) (ty := .boolean) (by decide)) (show Fld Z h129 b129 "com/example/done_once/doneonce/core/JobStatus" "supportsCancel" "Z" (.int (0 : Int32)) from D129 (Or.inr (hwk hw 124 rfl)) (ty := .boolean) (by decide)) hv121) hZ121 (hwk hw 110 rfl) (hwk hw 101 rfl) (by decide) (by decide)) (g := (mkF m 139 #[.val (.int p0), .val (.int p1), .val (.int p2), .val (.int p3), .val (.int p4), .val (.long p5), .second, .val (.int ((p0 &&& (2147483647 : Int32)) % (4 : Int32))), .val (.int ((p1 &&& (2147483647 : Int32)) % (6 : Int32))), .val (.ref (if (p2 &&& (1 : Int32)) = (0 : Int32) then w_RequestKind_JOB else w_RequestKind_EXECUTE)), .val (.ref (V1 (p3 &&& (3 : Int32)) w_Execution_PENDING w_Execution_NOT_EXECUTED w_Execution_EXECUTED w_Execution_UNKNOWN)), .val (.int (if (p4 &&& (1 : Int32)) = (0 : Int32) then (0 : Int32) else (1 : Int32))), .val (.int (if (p4 &&& (2 : Int32)) = (0 : Int32) then (0 : Int32) else (1 : Int32))), .val v117, .val v121, .val (.ref b_125), .unset, .unset, .unset, .unset] [(.int (if (p4 &&& (2 : Int32)) = (0 : Int32) then (0 : Int32) else (1 : Int32))), (.int (if (p4 &&& (1 : Int32)) = (0 : Int32) then (0 : Int32) else (1 : Int32))), v121, (.ref (V1 (p3 &&& (3 : Int32)) w_Execution_PENDING w_Execution_NOT_EXECUTED w_Execution_EXECUTED w_Execution_UNKNOWN)), (.ref (V12 ((p1 &&& (2147483647 : Int32)) % (6 : Int32)) w_JobState_QUEUED w_JobState_RUNNING w_JobState_SUCCEEDED w_JobState_FAILED w_JobState_TIMEOUT w_JobState_CANCELLED)), (.ref b129), (.ref b129)])) rfl (by rw [hml]; rfl) (Steps.refl _) (a := b129) (argsL := [(.ref (V12 ((p1 &&& (2147483647 : Int32)) % (6 : Int32)) w_JobState_QUEUED w_JobState_RUNNING w_JobState_SUCCEEDED w_JobState_FAILED w_JobState_TIMEOUT w_JobState_CANCELLED)), (.ref (V1 (p3 &&& (3 : Int32)) w_Execution_PENDING w_Execution_NOT_EXECUTED w_Execution_EXECUTED w_Execution_UNKNOWN)), v121, (.int (if (p4 &&& (1 : Int32)) = (0 : Int32) then (0 : Int32) else (1 : Int32))), (.int (if (p4 &&& (2 : Int32)) = (0 : Int32) then (0 : Int32) else (1 : Int32)))]) (rest := [(.ref b129)]) (lenOf pd_11 rfl) rfl (by show 2 * 0 + _ ≤ _; exact Nat.le_of_eq rfl) (hb hby at_139) (fun _ _ => ⟨rfl, e131, (by decide : 7 + 4 ≤ _), (by decide : 26 + 200 ≤ _)⟩)
    dsimp only [Pt.U, Pt.locs, Pt.cells, Pt.slots] at X132 l132 y132 z132 st132 hQ132 hs132' hg132'
    subst l132 y132 z132
    obtain ⟨X132b, hS132, hZ132, hown132⟩ := rebS hS121 (show _ ≤ T131.heap.size from by rw [e131]; exact (Nat.le_trans hk121 (Nat.le_trans (Nat.le_trans (Nat.le_refl _) K125.1) E129.1))) X132 hs132' hg132' hZ121 hown121
    unfold Q_rm13 at hQ132
    obtain ⟨rfl, N132q, K132, f132_0, f132_1⟩ := hQ132
    have N132 := Fr.app N131 N132q
    have O133 : Old Z n0 T132.heap := Old.keep O130 K132 (allS g_b129 all0)
    obtain ⟨T134, h134, X134, e134, E134, A134, D134, -, st134⟩ := newO X132b hx hZ132 hown132 (hwk hw 125 rfl) (hwk hw 126 rfl) (hwk hw 127 rfl) (rfl : T132.heap = T132.heap) (g := (mkF m 144 #[.val (.int p0), .val (.int p1), .val (.int p2), .val (.int p3), .val (.int p4), .val (.long p5), .second, .val (.int ((p0 &&& (2147483647 : Int32)) % (4 : Int32))), .val (.int ((p1 &&& (2147483647 : Int32)) % (6 : Int32))), .val (.ref (if (p2 &&& (1 : Int32)) = (0 : Int32) then w_RequestKind_JOB else w_RequestKind_EXECUTE)), .val (.ref (V1 (p3 &&& (3 : Int32)) w_Execution_PENDING w_Execution_NOT_EXECUTED w_Execution_EXECUTED w_Execution_UNKNOWN)), .val (.int (if (p4 &&& (1 : Int32)) = (0 : Int32) then (0 : Int32) else (1 : Int32))), .val (.int (if (p4 &&& (2 : Int32)) = (0 : Int32) then (0 : Int32) else (1 : Int32))), .val v117, .val v121, .val (.ref b_125), .unset, .unset, .val (.ref b129), .unset] [])) rfl (hb hby at_144) (by decide) (by decide)
    obtain ⟨b134, g134⟩ : ∃ z, z = T132.heap.size := ⟨_, rfl⟩
    rw [← g134] at A134 D134 st134
    have g_b134 : n0 ≤ b134 := Nat.le_trans (old_le O133) (Nat.le_of_eq g134.symm)
    obtain ⟨a135, T135, h135, k135, X135, e135, E135, hS135, hk135, hZ135, hown135, st135⟩ := ldcS X134 hx hZ132 hown132 (hwk hw 128 rfl) hstr e134 hS132 (Nat.le_trans (Nat.le_refl _) (Nat.le_trans (Nat.le_refl _) E134.1)) (g := (mkF m 148 #[.val (.int p0), .val (.int p1), .val (.int p2), .val (.int p3), .val (.int p4), .val (.long p5), .second, .val (.int ((p0 &&& (2147483647 : Int32)) % (4 : Int32))), .val (.int ((p1 &&& (2147483647 : Int32)) % (6 : Int32))), .val (.ref (if (p2 &&& (1 : Int32)) = (0 : Int32) then w_RequestKind_JOB else w_RequestKind_EXECUTE)), .val (.ref (V1 (p3 &&& (3 : Int32)) w_Execution_PENDING w_Execution_NOT_EXECUTED w_Execution_EXECUTED w_Execution_UNKNOWN)), .val (.int (if (p4 &&& (1 : Int32)) = (0 : Int32) then (0 : Int32) else (1 : Int32))), .val (.int (if (p4 &&& (2 : Int32)) = (0 : Int32) then (0 : Int32) else (1 : Int32))), .val v117, .val v121, .val (.ref b_125), .unset, .unset, .val (.ref b129), .unset] [(.ref b134), (.ref b134)])) rfl (hb hby at_148) (n := 4) (by decide) (by decide) (by decide) (by decide)
    obtain ⟨a136, T136, h136, k136, X136, e136, E136, hS136, hk136, hZ136, hown136, st136⟩ := ldcS X135 hx hZ135 hown135 (hwk hw 43 rfl) hstr e135 hS135 hk135 (g := (mkF m 152 #[.val (.int p0), .val (.int p1), .val (.int p2), .val (.int p3), .val (.int p4), .val (.long p5), .second, .val (.int ((p0 &&& (2147483647 : Int32)) % (4 : Int32))), .val (.int ((p1 &&& (2147483647 : Int32)) % (6 : Int32))), .val (.ref (if (p2 &&& (1 : Int32)) = (0 : Int32) then w_RequestKind_JOB else w_RequestKind_EXECUTE)), .val (.ref (V1 (p3 &&& (3 : Int32)) w_Execution_PENDING w_Execution_NOT_EXECUTED w_Execution_EXECUTED w_Execution_UNKNOWN)), .val (.int (if (p4 &&& (1 : Int32)) = (0 : Int32) then (0 : Int32) else (1 : Int32))), .val (.int (if (p4 &&& (2 : Int32)) = (0 : Int32) then (0 : Int32) else (1 : Int32))), .val v117, .val v121, .val (.ref b_125), .unset, .unset, .val (.ref b129), .unset] [(.ref b_125), (.ref a135), (.ref b134), (.ref b134)])) rfl (hb hby at_152) (n := 4) (by decide) (by decide) (by decide) (by decide)
    obtain ⟨a137, T137, h137, k137, X137, e137, E137, hS137, hk137, hZ137, hown137, st137⟩ := ldcS X136 hx hZ136 hown136 (hwk hw 46 rfl) hstr e136 hS136 hk136 (g := (mkF m 154 #[.val (.int p0), .val (.int p1), .val (.int p2), .val (.int p3), .val (.int p4), .val (.long p5), .second, .val (.int ((p0 &&& (2147483647 : Int32)) % (4 : Int32))), .val (.int ((p1 &&& (2147483647 : Int32)) % (6 : Int32))), .val (.ref (if (p2 &&& (1 : Int32)) = (0 : Int32) then w_RequestKind_JOB else w_RequestKind_EXECUTE)), .val (.ref (V1 (p3 &&& (3 : Int32)) w_Execution_PENDING w_Execution_NOT_EXECUTED w_Execution_EXECUTED w_Execution_UNKNOWN)), .val (.int (if (p4 &&& (1 : Int32)) = (0 : Int32) then (0 : Int32) else (1 : Int32))), .val (.int (if (p4 &&& (2 : Int32)) = (0 : Int32) then (0 : Int32) else (1 : Int32))), .val v117, .val v121, .val (.ref b_125), .unset, .unset, .val (.ref b129), .unset] [(.ref a136), (.ref b_125), (.ref a135), (.ref b134), (.ref b134)])) rfl (hb hby at_154) (n := 4) (by decide) (by decide) (by decide) (by decide)
    obtain ⟨a138, T138, h138, k138, X138, e138, E138, hS138, hk138, hZ138, hown138, st138⟩ := ldcS X137 hx hZ137 hown137 (hwk hw 129 rfl) hstr e137 hS137 hk137 (g := (mkF m 156 #[.val (.int p0), .val (.int p1), .val (.int p2), .val (.int p3), .val (.int p4), .val (.long p5), .second, .val (.int ((p0 &&& (2147483647 : Int32)) % (4 : Int32))), .val (.int ((p1 &&& (2147483647 : Int32)) % (6 : Int32))), .val (.ref (if (p2 &&& (1 : Int32)) = (0 : Int32) then w_RequestKind_JOB else w_RequestKind_EXECUTE)), .val (.ref (V1 (p3 &&& (3 : Int32)) w_Execution_PENDING w_Execution_NOT_EXECUTED w_Execution_EXECUTED w_Execution_UNKNOWN)), .val (.int (if (p4 &&& (1 : Int32)) = (0 : Int32) then (0 : Int32) else (1 : Int32))), .val (.int (if (p4 &&& (2 : Int32)) = (0 : Int32) then (0 : Int32) else (1 : Int32))), .val v117, .val v121, .val (.ref b_125), .unset, .unset, .val (.ref b129), .unset] [(.ref a137), (.ref a136), (.ref b_125), (.ref a135), (.ref b134), (.ref b134)])) rfl (hb hby at_156) (n := 8) (by decide) (by decide) (by decide) (by decide)
    have c139 : Exa Z h138 b134 "com/example/done_once/doneonce/store/Job" := (Exa.ext E138 (Exa.ext E137 (Exa.ext E136 (Exa.ext E135 A134))))
    have c140 : Fld Z h138 b134 "com/example/done_once/doneonce/store/Job" "jobId" "Ljava/lang/String;" .null := (Fld.ext E138 (Fld.ext E137 (Fld.ext E136 (Fld.ext E135 (show Fld Z h134 b134 "com/example/done_once/doneonce/store/Job" "jobId" "Ljava/lang/String;" .null from D134 (Or.inr (hwk hw 139 rfl)) (ty := (.object "java/lang/String")) (by decide))))))
    have c141 : Fld Z h138 b134 "com/example/done_once/doneonce/store/Job" "requestId" "Ljava/lang/String;" .null := (Fld.ext E138 (Fld.ext E137 (Fld.ext E136 (Fld.ext E135 (show Fld Z h134 b134 "com/example/done_once/doneonce/store/Job" "requestId" "Ljava/lang/String;" .null from D134 (Or.inr (hwk hw 141 rfl)) (ty := (.object "java/lang/String")) (by decide))))))
    have c142 : Fld Z h138 b134 "com/example/done_once/doneonce/store/Job" "lane" "Ljava/lang/String;" .null := (Fld.ext E138 (Fld.ext E137 (Fld.ext E136 (Fld.ext E135 (show Fld Z h134 b134 "com/example/done_once/doneonce/store/Job" "lane" "Ljava/lang/String;" .null from D134 (Or.inr (hwk hw 143 rfl)) (ty := (.object "java/lang/String")) (by decide))))))
    have c143 : Fld Z h138 b134 "com/example/done_once/doneonce/store/Job" "tool" "Ljava/lang/String;" .null := (Fld.ext E138 (Fld.ext E137 (Fld.ext E136 (Fld.ext E135 (show Fld Z h134 b134 "com/example/done_once/doneonce/store/Job" "tool" "Ljava/lang/String;" .null from D134 (Or.inr (hwk hw 145 rfl)) (ty := (.object "java/lang/String")) (by decide))))))
    have c144 : Fld Z h138 b134 "com/example/done_once/doneonce/store/Job" "params" "Ljava/lang/String;" .null := (Fld.ext E138 (Fld.ext E137 (Fld.ext E136 (Fld.ext E135 (show Fld Z h134 b134 "com/example/done_once/doneonce/store/Job" "params" "Ljava/lang/String;" .null from D134 (Or.inr (hwk hw 147 rfl)) (ty := (.object "java/lang/String")) (by decide))))))
    have c145 : Fld Z h138 b134 "com/example/done_once/doneonce/store/Job" "clientRequestId" "Ljava/lang/String;" .null := (Fld.ext E138 (Fld.ext E137 (Fld.ext E136 (Fld.ext E135 (show Fld Z h134 b134 "com/example/done_once/doneonce/store/Job" "clientRequestId" "Ljava/lang/String;" .null from D134 (Or.inr (hwk hw 149 rfl)) (ty := (.object "java/lang/String")) (by decide))))))
    have c146 : Fld Z h138 b134 "com/example/done_once/doneonce/store/Job" "timeoutMs" "J" (.long (0 : Int64)) := (Fld.ext E138 (Fld.ext E137 (Fld.ext E136 (Fld.ext E135 (show Fld Z h134 b134 "com/example/done_once/doneonce/store/Job" "timeoutMs" "J" (.long (0 : Int64)) from D134 (Or.inr (hwk hw 151 rfl)) (ty := .long) (by decide))))))
    have c147 : Fld Z h138 b134 "com/example/done_once/doneonce/store/Job" "status" "Lcom/example/done_once/doneonce/core/JobStatus;" .null := (Fld.ext E138 (Fld.ext E137 (Fld.ext E136 (Fld.ext E135 (show Fld Z h134 b134 "com/example/done_once/doneonce/store/Job" "status" "Lcom/example/done_once/doneonce/core/JobStatus;" .null from D134 (Or.inr (hwk hw 153 rfl)) (ty := (.object "com/example/done_once/doneonce/core/JobStatus")) (by decide))))))
    have c148 : Fld Z h138 b134 "com/example/done_once/doneonce/store/Job" "result" "Ljava/lang/String;" .null := (Fld.ext E138 (Fld.ext E137 (Fld.ext E136 (Fld.ext E135 (show Fld Z h134 b134 "com/example/done_once/doneonce/store/Job" "result" "Ljava/lang/String;" .null from D134 (Or.inr (hwk hw 155 rfl)) (ty := (.object "java/lang/String")) (by decide))))))
    have c149 : Fld Z h138 b134 "com/example/done_once/doneonce/store/Job" "error" "Ljava/lang/String;" .null := (Fld.ext E138 (Fld.ext E137 (Fld.ext E136 (Fld.ext E135 (show Fld Z h134 b134 "com/example/done_once/doneonce/store/Job" "error" "Ljava/lang/String;" .null from D134 (Or.inr (hwk hw 157 rfl)) (ty := (.object "java/lang/String")) (by decide))))))
    have O150 : Old Z n0 h134 := Old.ext O133 E134
    have O151 : Old Z n0 h135 := Old.ext O150 E135
    have O152 : Old Z n0 h136 := Old.ext O151 E136
    have O153 : Old Z n0 h137 := Old.ext O152 E137
    have O154 : Old Z n0 h138 := Old.ext O153 E138
    obtain ⟨_, _, ⟨T155, L155, k155, n155⟩, -, X155, hs155', hg155', ⟨Lc155, hQ155, l155, y155, z155⟩, st155⟩ := X138.specialBackS hx (y := (⟨"com/example/done_once/doneonce/store/Job", "<init>", "(Ljava/lang/String;Ljava/lang/String;Ljava/lang/String;Ljava/lang/String;Ljava/lang/String;Ljava/lang/String;JLcom/example/done_once/doneonce/core/JobStatus;Ljava/lang/String;Ljava/lang/String;)V"⟩ : MethodName)) rfl hown138 (mvT hZ138 (hwk hw 130 rfl)) (mvT hZ138 (hwk hw 131 rfl)) (mvT hZ138 (hwk hw 132 rfl)) (by decide) (backOfS (W := 1) (rm14 l Z a0 hw [] b134 a135 b_125 a136 a137 a138 p5 b129 h138 n0 O154 c139 g_b134 c140 c141 c142 c143 c144 c145 c146 c147 c148 c149) hZ138 (hwk hw 132 rfl) (hwk hw 127 rfl) (by decide) (by decide)) (g := (mkF m 165 #[.val (.int p0), .val (.int p1), .val (.int p2), .val (.int p3), .val (.int p4), .val (.long p5), .second, .val (.int ((p0 &&& (2147483647 : Int32)) % (4 : Int32))), .val (.int ((p1 &&& (2147483647 : Int32)) % (6 : Int32))), .val (.ref (if (p2 &&& (1 : Int32)) = (0 : Int32) then w_RequestKind_JOB else w_RequestKind_EXECUTE)), .val (.ref (V1 (p3 &&& (3 : Int32)) w_Execution_PENDING w_Execution_NOT_EXECUTED w_Execution_EXECUTED w_Execution_UNKNOWN)), .val (.int (if (p4 &&& (1 : Int32)) = (0 : Int32) then (0 : Int32) else (1 : Int32))), .val (.int (if (p4 &&& (2 : Int32)) = (0 : Int32) then (0 : Int32) else (1 : Int32))), .val v117, .val v121, .val (.ref b_125), .unset, .unset, .val (.ref b129), .unset] [.null, .null, (.ref b129), (.long p5), .null, (.ref a138), (.ref a137), (.ref a136), (.ref b_125), (.ref a135), (.ref b134), (.ref b134)])) rfl (by rw [hml]; rfl) (Steps.refl _) (a := b134) (argsL := [(.ref a135), (.ref b_125), (.ref a136), (.ref a137), (.ref a138), .null, (.long p5), (.ref b129), .null, .null]) (rest := [(.ref b134)]) (lenOf pd_12 rfl) rfl (by show 2 * 0 + _ ≤ _; exact Nat.le_of_eq rfl) (hb hby at_165) (fun _ _ => ⟨rfl, e138, (by decide : 20 + 6 ≤ _), (by decide : 272 + 304 ≤ _)⟩)
    dsimp only [Pt.U, Pt.locs, Pt.cells, Pt.slots] at X155 l155 y155 z155 st155 hQ155 hs155' hg155'
    subst l155 y155 z155
    obtain ⟨X155b, hS155, hZ155, hown155⟩ := rebS hS138 (show _ ≤ T138.heap.size from by rw [e138]; exact hk138) X155 hs155' hg155' hZ138 hown138
    unfold Q_rm14 at hQ155
    obtain ⟨rfl, N155q, K155, f155_0, f155_1⟩ := hQ155
    have N155 := Fr.app N132 N155q
    have O156 : Old Z n0 T155.heap := Old.keep O154 K155 (allS g_b134 all0)
    obtain ⟨T157, h157, X157, e157, E157, A157, D157, -, st157⟩ := newO X155b hx hZ155 hown155 (hwk hw 40 rfl) (hwk hw 41 rfl) (hwk hw 42 rfl) (rfl : T155.heap = T155.heap) (g := (mkF m 170 #[.val (.int p0), .val (.int p1), .val (.int p2), .val (.int p3), .val (.int p4), .val (.long p5), .second, .val (.int ((p0 &&& (2147483647 : Int32)) % (4 : Int32))), .val (.int ((p1 &&& (2147483647 : Int32)) % (6 : Int32))), .val (.ref (if (p2 &&& (1 : Int32)) = (0 : Int32) then w_RequestKind_JOB else w_RequestKind_EXECUTE)), .val (.ref (V1 (p3 &&& (3 : Int32)) w_Execution_PENDING w_Execution_NOT_EXECUTED w_Execution_EXECUTED w_Execution_UNKNOWN)), .val (.int (if (p4 &&& (1 : Int32)) = (0 : Int32) then (0 : Int32) else (1 : Int32))), .val (.int (if (p4 &&& (2 : Int32)) = (0 : Int32) then (0 : Int32) else (1 : Int32))), .val v117, .val v121, .val (.ref b_125), .unset, .unset, .val (.ref b129), .val (.ref b134)] [])) rfl (hb hby at_170) (by decide) (by decide)
    obtain ⟨b157, g157⟩ : ∃ z, z = T155.heap.size := ⟨_, rfl⟩
    rw [← g157] at A157 D157 st157
    have g_b157 : n0 ≤ b157 := Nat.le_trans (old_le O156) (Nat.le_of_eq g157.symm)
    obtain ⟨a158, T158, h158, k158, X158, e158, E158, hS158, hk158, hZ158, hown158, st158⟩ := ldcS X157 hx hZ155 hown155 (hwk hw 43 rfl) hstr e157 hS155 (Nat.le_trans (Nat.le_refl _) (Nat.le_trans (Nat.le_refl _) E157.1)) (g := (mkF m 178 #[.val (.int p0), .val (.int p1), .val (.int p2), .val (.int p3), .val (.int p4), .val (.long p5), .second, .val (.int ((p0 &&& (2147483647 : Int32)) % (4 : Int32))), .val (.int ((p1 &&& (2147483647 : Int32)) % (6 : Int32))), .val (.ref (if (p2 &&& (1 : Int32)) = (0 : Int32) then w_RequestKind_JOB else w_RequestKind_EXECUTE)), .val (.ref (V1 (p3 &&& (3 : Int32)) w_Execution_PENDING w_Execution_NOT_EXECUTED w_Execution_EXECUTED w_Execution_UNKNOWN)), .val (.int (if (p4 &&& (1 : Int32)) = (0 : Int32) then (0 : Int32) else (1 : Int32))), .val (.int (if (p4 &&& (2 : Int32)) = (0 : Int32) then (0 : Int32) else (1 : Int32))), .val v117, .val v121, .val (.ref b_125), .unset, .unset, .val (.ref b129), .val (.ref b134)] [(.ref (if (p2 &&& (1 : Int32)) = (0 : Int32) then w_RequestKind_JOB else w_RequestKind_EXECUTE)), (.ref b_125), (.ref b157), (.ref b157)])) rfl (hb hby at_178) (n := 4) (by decide) (by decide) (by decide) (by decide)
    obtain ⟨a159, T159, h159, k159, X159, e159, E159, hS159, hk159, hZ159, hown159, st159⟩ := ldcS X158 hx hZ158 hown158 (hwk hw 46 rfl) hstr e158 hS158 hk158 (g := (mkF m 180 #[.val (.int p0), .val (.int p1), .val (.int p2), .val (.int p3), .val (.int p4), .val (.long p5), .second, .val (.int ((p0 &&& (2147483647 : Int32)) % (4 : Int32))), .val (.int ((p1 &&& (2147483647 : Int32)) % (6 : Int32))), .val (.ref (if (p2 &&& (1 : Int32)) = (0 : Int32) then w_RequestKind_JOB else w_RequestKind_EXECUTE)), .val (.ref (V1 (p3 &&& (3 : Int32)) w_Execution_PENDING w_Execution_NOT_EXECUTED w_Execution_EXECUTED w_Execution_UNKNOWN)), .val (.int (if (p4 &&& (1 : Int32)) = (0 : Int32) then (0 : Int32) else (1 : Int32))), .val (.int (if (p4 &&& (2 : Int32)) = (0 : Int32) then (0 : Int32) else (1 : Int32))), .val v117, .val v121, .val (.ref b_125), .unset, .unset, .val (.ref b129), .val (.ref b134)] [(.ref a158), (.ref (if (p2 &&& (1 : Int32)) = (0 : Int32) then w_RequestKind_JOB else w_RequestKind_EXECUTE)), (.ref b_125), (.ref b157), (.ref b157)])) rfl (hb hby at_180) (n := 4) (by decide) (by decide) (by decide) (by decide)
    have O161 : Old Z n0 h157 := Old.ext O156 E157
    have O162 : Old Z n0 h158 := Old.ext O161 E158
    have O163 : Old Z n0 h159 := Old.ext O162 E159
    have c160 : Sta Z h159 "com/example/done_once/doneonce/core/RequestState" "SUCCEEDED" "Lcom/example/done_once/doneonce/core/RequestState;" (.ref w_RequestState_SUCCEEDED) := Sta.ext (O163).2 S_RequestState_SUCCEEDED
    obtain ⟨T164, X164, e164, st164⟩ := getS2 X159 hx hZ159 hown159 (host := "") (Or.inl (hwk hw 158 rfl)) Via.refl e159 c160 (g := (mkF m 182 #[.val (.int p0), .val (.int p1), .val (.int p2), .val (.int p3), .val (.int p4), .val (.long p5), .second, .val (.int ((p0 &&& (2147483647 : Int32)) % (4 : Int32))), .val (.int ((p1 &&& (2147483647 : Int32)) % (6 : Int32))), .val (.ref (if (p2 &&& (1 : Int32)) = (0 : Int32) then w_RequestKind_JOB else w_RequestKind_EXECUTE)), .val (.ref (V1 (p3 &&& (3 : Int32)) w_Execution_PENDING w_Execution_NOT_EXECUTED w_Execution_EXECUTED w_Execution_UNKNOWN)), .val (.int (if (p4 &&& (1 : Int32)) = (0 : Int32) then (0 : Int32) else (1 : Int32))), .val (.int (if (p4 &&& (2 : Int32)) = (0 : Int32) then (0 : Int32) else (1 : Int32))), .val v117, .val v121, .val (.ref b_125), .unset, .unset, .val (.ref b129), .val (.ref b134)] [(.ref a159), (.ref a158), (.ref (if (p2 &&& (1 : Int32)) = (0 : Int32) then w_RequestKind_JOB else w_RequestKind_EXECUTE)), (.ref b_125), (.ref b157), (.ref b157)])) rfl (hb hby at_182)
    have c165 : Exa Z h159 b157 "com/example/done_once/doneonce/store/Request" := (Exa.ext E159 (Exa.ext E158 A157))
    have c166 : Fld Z h159 b157 "com/example/done_once/doneonce/store/Request" "requestId" "Ljava/lang/String;" .null := (Fld.ext E159 (Fld.ext E158 (show Fld Z h157 b157 "com/example/done_once/doneonce/store/Request" "requestId" "Ljava/lang/String;" .null from D157 (Or.inr (hwk hw 66 rfl)) (ty := (.object "java/lang/String")) (by decide))))
    have c167 : Fld Z h159 b157 "com/example/done_once/doneonce/store/Request" "kind" "Lcom/example/done_once/doneonce/core/RequestKind;" .null := (Fld.ext E159 (Fld.ext E158 (show Fld Z h157 b157 "com/example/done_once/doneonce/store/Request" "kind" "Lcom/example/done_once/doneonce/core/RequestKind;" .null from D157 (Or.inr (hwk hw 68 rfl)) (ty := (.object "com/example/done_once/doneonce/core/RequestKind")) (by decide))))
    have c168 : Fld Z h159 b157 "com/example/done_once/doneonce/store/Request" "lane" "Ljava/lang/String;" .null := (Fld.ext E159 (Fld.ext E158 (show Fld Z h157 b157 "com/example/done_once/doneonce/store/Request" "lane" "Ljava/lang/String;" .null from D157 (Or.inr (hwk hw 70 rfl)) (ty := (.object "java/lang/String")) (by decide))))
    have c169 : Fld Z h159 b157 "com/example/done_once/doneonce/store/Request" "tool" "Ljava/lang/String;" .null := (Fld.ext E159 (Fld.ext E158 (show Fld Z h157 b157 "com/example/done_once/doneonce/store/Request" "tool" "Ljava/lang/String;" .null from D157 (Or.inr (hwk hw 72 rfl)) (ty := (.object "java/lang/String")) (by decide))))
    have c170 : Fld Z h159 b157 "com/example/done_once/doneonce/store/Request" "state" "Lcom/example/done_once/doneonce/core/RequestState;" .null := (Fld.ext E159 (Fld.ext E158 (show Fld Z h157 b157 "com/example/done_once/doneonce/store/Request" "state" "Lcom/example/done_once/doneonce/core/RequestState;" .null from D157 (Or.inr (hwk hw 74 rfl)) (ty := (.object "com/example/done_once/doneonce/core/RequestState")) (by decide))))
    have c171 : Fld Z h159 b157 "com/example/done_once/doneonce/store/Request" "error" "Ljava/lang/String;" .null := (Fld.ext E159 (Fld.ext E158 (show Fld Z h157 b157 "com/example/done_once/doneonce/store/Request" "error" "Ljava/lang/String;" .null from D157 (Or.inr (hwk hw 76 rfl)) (ty := (.object "java/lang/String")) (by decide))))
    have c172 : Fld Z h159 b157 "com/example/done_once/doneonce/store/Request" "job" "Lcom/example/done_once/doneonce/store/Job;" .null := (Fld.ext E159 (Fld.ext E158 (show Fld Z h157 b157 "com/example/done_once/doneonce/store/Request" "job" "Lcom/example/done_once/doneonce/store/Job;" .null from D157 (Or.inr (hwk hw 78 rfl)) (ty := (.object "com/example/done_once/doneonce/store/Job")) (by decide))))
    obtain ⟨_, _, ⟨T173, L173, k173, n173⟩, -, X173, hs173', hg173', ⟨Lc173, hQ173, l173, y173, z173⟩, st173⟩ := X164.specialBackS hx (y := (⟨"com/example/done_once/doneonce/store/Request", "<init>", "(Ljava/lang/String;Lcom/example/done_once/doneonce/core/RequestKind;Ljava/lang/String;Ljava/lang/String;Lcom/example/done_once/doneonce/core/RequestState;Ljava/lang/String;Lcom/example/done_once/doneonce/store/Job;)V"⟩ : MethodName)) rfl hown159 (mvT hZ159 (hwk hw 47 rfl)) (mvT hZ159 (hwk hw 48 rfl)) (mvT hZ159 (hwk hw 49 rfl)) (by decide) (backOfS (W := 1) (rm7j l Z a0 hw [] b157 b_125 (if (p2 &&& (1 : Int32)) = (0 : Int32) then w_RequestKind_JOB else w_RequestKind_EXECUTE) a158 a159 v117 b134 w_RequestState_SUCCEEDED h159 n0 O163 c165 g_b157 c166 c167 c168 c169 c170 c171 c172 hv117 S_RequestState_SUCCEEDED) hZ159 (hwk hw 49 rfl) (hwk hw 42 rfl) (by decide) (by decide)) (g := (mkF m 189 #[.val (.int p0), .val (.int p1), .val (.int p2), .val (.int p3), .val (.int p4), .val (.long p5), .second, .val (.int ((p0 &&& (2147483647 : Int32)) % (4 : Int32))), .val (.int ((p1 &&& (2147483647 : Int32)) % (6 : Int32))), .val (.ref (if (p2 &&& (1 : Int32)) = (0 : Int32) then w_RequestKind_JOB else w_RequestKind_EXECUTE)), .val (.ref (V1 (p3 &&& (3 : Int32)) w_Execution_PENDING w_Execution_NOT_EXECUTED w_Execution_EXECUTED w_Execution_UNKNOWN)), .val (.int (if (p4 &&& (1 : Int32)) = (0 : Int32) then (0 : Int32) else (1 : Int32))), .val (.int (if (p4 &&& (2 : Int32)) = (0 : Int32) then (0 : Int32) else (1 : Int32))), .val v117, .val v121, .val (.ref b_125), .unset, .unset, .val (.ref b129), .val (.ref b134)] [(.ref b134), v117, (.ref w_RequestState_SUCCEEDED), (.ref a159), (.ref a158), (.ref (if (p2 &&& (1 : Int32)) = (0 : Int32) then w_RequestKind_JOB else w_RequestKind_EXECUTE)), (.ref b_125), (.ref b157), (.ref b157)])) rfl (by rw [hml]; rfl) (Steps.refl _) (a := b157) (argsL := [(.ref b_125), (.ref (if (p2 &&& (1 : Int32)) = (0 : Int32) then w_RequestKind_JOB else w_RequestKind_EXECUTE)), (.ref a158), (.ref a159), (.ref w_RequestState_SUCCEEDED), v117, (.ref b134)]) (rest := [(.ref b157)]) (lenOf pd_13 rfl) rfl (by show 2 * 0 + _ ≤ _; exact Nat.le_of_eq rfl) (hb hby at_189) (fun _ _ => ⟨rfl, e164, (by decide : 31 + 6 ≤ _), (by decide : 599 + 292 ≤ _)⟩)
    dsimp only [Pt.U, Pt.locs, Pt.cells, Pt.slots] at X173 l173 y173 z173 st173 hQ173 hs173' hg173'
    subst l173 y173 z173
    obtain ⟨X173b, hS173, hZ173, hown173⟩ := rebS hS159 (show _ ≤ T164.heap.size from by rw [e164]; exact hk159) X173 hs173' hg173' hZ159 hown159
    unfold Q_rm7j at hQ173
    obtain ⟨rfl, N173q, K173, f173_0, f173_1, f173_2⟩ := hQ173
    have N173 := Fr.app N155 N173q
    have S174 : ∀ t, Steps p.tables e below (T173.setTop (mkF m 197 #[.val (.int p0), .val (.int p1), .val (.int p2), .val (.int p3), .val (.int p4), .val (.long p5), .second, .val (.int ((p0 &&& (2147483647 : Int32)) % (4 : Int32))), .val (.int ((p1 &&& (2147483647 : Int32)) % (6 : Int32))), .val (.ref (if (p2 &&& (1 : Int32)) = (0 : Int32) then w_RequestKind_JOB else w_RequestKind_EXECUTE)), .val (.ref (V1 (p3 &&& (3 : Int32)) w_Execution_PENDING w_Execution_NOT_EXECUTED w_Execution_EXECUTED w_Execution_UNKNOWN)), .val (.int (if (p4 &&& (1 : Int32)) = (0 : Int32) then (0 : Int32) else (1 : Int32))), .val (.int (if (p4 &&& (2 : Int32)) = (0 : Int32) then (0 : Int32) else (1 : Int32))), .val v117, .val v121, .val (.ref b_125), .unset, .val (.ref b157), .val (.ref b129), .val (.ref b134)] [(.int (2 : Int32)), (.int ((p1 &&& (2147483647 : Int32)) % (6 : Int32)))])) t → Steps p.tables e below (s₁.setTop (entryFrame m #[(.int p0), (.int p1), (.int p2), (.int p3), (.int p4), (.long p5)] maxLocals)) t := fun t k => by
      refine S127 t ?_
      show Steps p.tables e below (T125.setTop (mkF m 119 #[.val (.int p0), .val (.int p1), .val (.int p2), .val (.int p3), .val (.int p4), .val (.long p5), .second, .val (.int ((p0 &&& (2147483647 : Int32)) % (4 : Int32))), .val (.int ((p1 &&& (2147483647 : Int32)) % (6 : Int32))), .val (.ref (if (p2 &&& (1 : Int32)) = (0 : Int32) then w_RequestKind_JOB else w_RequestKind_EXECUTE)), .val (.ref (V1 (p3 &&& (3 : Int32)) w_Execution_PENDING w_Execution_NOT_EXECUTED w_Execution_EXECUTED w_Execution_UNKNOWN)), .val (.int (if (p4 &&& (1 : Int32)) = (0 : Int32) then (0 : Int32) else (1 : Int32))), .val (.int (if (p4 &&& (2 : Int32)) = (0 : Int32) then (0 : Int32) else (1 : Int32))), .val v117, .val v121, .val (.ref b_125), .unset, .unset, .unset, .unset] [(.int (1 : Int32)), (.int ((p0 &&& (2147483647 : Int32)) % (4 : Int32)))])) _
      refine XS.icmpNo X125.here hx rfl (hb hby at_119) rfl (teq hc126).2 ?_
      show Steps p.tables e below (T125.setTop (mkF m 122 #[.val (.int p0), .val (.int p1), .val (.int p2), .val (.int p3), .val (.int p4), .val (.long p5), .second, .val (.int ((p0 &&& (2147483647 : Int32)) % (4 : Int32))), .val (.int ((p1 &&& (2147483647 : Int32)) % (6 : Int32))), .val (.ref (if (p2 &&& (1 : Int32)) = (0 : Int32) then w_RequestKind_JOB else w_RequestKind_EXECUTE)), .val (.ref (V1 (p3 &&& (3 : Int32)) w_Execution_PENDING w_Execution_NOT_EXECUTED w_Execution_EXECUTED w_Execution_UNKNOWN)), .val (.int (if (p4 &&& (1 : Int32)) = (0 : Int32) then (0 : Int32) else (1 : Int32))), .val (.int (if (p4 &&& (2 : Int32)) = (0 : Int32) then (0 : Int32) else (1 : Int32))), .val v117, .val v121, .val (.ref b_125), .unset, .unset, .unset, .unset] [])) _
      refine st129 _ ?_
      show Steps p.tables e below (T129.setTop (mkF m 125 #[.val (.int p0), .val (.int p1), .val (.int p2), .val (.int p3), .val (.int p4), .val (.long p5), .second, .val (.int ((p0 &&& (2147483647 : Int32)) % (4 : Int32))), .val (.int ((p1 &&& (2147483647 : Int32)) % (6 : Int32))), .val (.ref (if (p2 &&& (1 : Int32)) = (0 : Int32) then w_RequestKind_JOB else w_RequestKind_EXECUTE)), .val (.ref (V1 (p3 &&& (3 : Int32)) w_Execution_PENDING w_Execution_NOT_EXECUTED w_Execution_EXECUTED w_Execution_UNKNOWN)), .val (.int (if (p4 &&& (1 : Int32)) = (0 : Int32) then (0 : Int32) else (1 : Int32))), .val (.int (if (p4 &&& (2 : Int32)) = (0 : Int32) then (0 : Int32) else (1 : Int32))), .val v117, .val v121, .val (.ref b_125), .unset, .unset, .unset, .unset] [(.ref b129)])) _
      refine XS.dup X129.here hx rfl (hb hby at_125) rfl rfl ?_
      show Steps p.tables e below (T129.setTop (mkF m 126 #[.val (.int p0), .val (.int p1), .val (.int p2), .val (.int p3), .val (.int p4), .val (.long p5), .second, .val (.int ((p0 &&& (2147483647 : Int32)) % (4 : Int32))), .val (.int ((p1 &&& (2147483647 : Int32)) % (6 : Int32))), .val (.ref (if (p2 &&& (1 : Int32)) = (0 : Int32) then w_RequestKind_JOB else w_RequestKind_EXECUTE)), .val (.ref (V1 (p3 &&& (3 : Int32)) w_Execution_PENDING w_Execution_NOT_EXECUTED w_Execution_EXECUTED w_Execution_UNKNOWN)), .val (.int (if (p4 &&& (1 : Int32)) = (0 : Int32) then (0 : Int32) else (1 : Int32))), .val (.int (if (p4 &&& (2 : Int32)) = (0 : Int32) then (0 : Int32) else (1 : Int32))), .val v117, .val v121, .val (.ref b_125), .unset, .unset, .unset, .unset] [(.ref b129), (.ref b129)])) _
      refine XS.iload X129.here hx rfl (hb hby at_126) rfl ?_
      show Steps p.tables e below (T129.setTop (mkF m 128 #[.val (.int p0), .val (.int p1), .val (.int p2), .val (.int p3), .val (.int p4), .val (.long p5), .second, .val (.int ((p0 &&& (2147483647 : Int32)) % (4 : Int32))), .val (.int ((p1 &&& (2147483647 : Int32)) % (6 : Int32))), .val (.ref (if (p2 &&& (1 : Int32)) = (0 : Int32) then w_RequestKind_JOB else w_RequestKind_EXECUTE)), .val (.ref (V1 (p3 &&& (3 : Int32)) w_Execution_PENDING w_Execution_NOT_EXECUTED w_Execution_EXECUTED w_Execution_UNKNOWN)), .val (.int (if (p4 &&& (1 : Int32)) = (0 : Int32) then (0 : Int32) else (1 : Int32))), .val (.int (if (p4 &&& (2 : Int32)) = (0 : Int32) then (0 : Int32) else (1 : Int32))), .val v117, .val v121, .val (.ref b_125), .unset, .unset, .unset, .unset] [(.int ((p1 &&& (2147483647 : Int32)) % (6 : Int32))), (.ref b129), (.ref b129)])) _
      refine st131 _ ?_
      show Steps p.tables e below (T131.setTop (mkF m 131 #[.val (.int p0), .val (.int p1), .val (.int p2), .val (.int p3), .val (.int p4), .val (.long p5), .second, .val (.int ((p0 &&& (2147483647 : Int32)) % (4 : Int32))), .val (.int ((p1 &&& (2147483647 : Int32)) % (6 : Int32))), .val (.ref (if (p2 &&& (1 : Int32)) = (0 : Int32) then w_RequestKind_JOB else w_RequestKind_EXECUTE)), .val (.ref (V1 (p3 &&& (3 : Int32)) w_Execution_PENDING w_Execution_NOT_EXECUTED w_Execution_EXECUTED w_Execution_UNKNOWN)), .val (.int (if (p4 &&& (1 : Int32)) = (0 : Int32) then (0 : Int32) else (1 : Int32))), .val (.int (if (p4 &&& (2 : Int32)) = (0 : Int32) then (0 : Int32) else (1 : Int32))), .val v117, .val v121, .val (.ref b_125), .unset, .unset, .unset, .unset] [(.ref (V12 ((p1 &&& (2147483647 : Int32)) % (6 : Int32)) w_JobState_QUEUED w_JobState_RUNNING w_JobState_SUCCEEDED w_JobState_FAILED w_JobState_TIMEOUT w_JobState_CANCELLED)), (.ref b129), (.ref b129)])) _
      refine XS.aload X131.here hx rfl (hb hby at_131) rfl rfl ?_
      show Steps p.tables e below (T131.setTop (mkF m 133 #[.val (.int p0), .val (.int p1), .val (.int p2), .val (.int p3), .val (.int p4), .val (.long p5), .second, .val (.int ((p0 &&& (2147483647 : Int32)) % (4 : Int32))), .val (.int ((p1 &&& (2147483647 : Int32)) % (6 : Int32))), .val (.ref (if (p2 &&& (1 : Int32)) = (0 : Int32) then w_RequestKind_JOB else w_RequestKind_EXECUTE)), .val (.ref (V1 (p3 &&& (3 : Int32)) w_Execution_PENDING w_Execution_NOT_EXECUTED w_Execution_EXECUTED w_Execution_UNKNOWN)), .val (.int (if (p4 &&& (1 : Int32)) = (0 : Int32) then (0 : Int32) else (1 : Int32))), .val (.int (if (p4 &&& (2 : Int32)) = (0 : Int32) then (0 : Int32) else (1 : Int32))), .val v117, .val v121, .val (.ref b_125), .unset, .unset, .unset, .unset] [(.ref (V1 (p3 &&& (3 : Int32)) w_Execution_PENDING w_Execution_NOT_EXECUTED w_Execution_EXECUTED w_Execution_UNKNOWN)), (.ref (V12 ((p1 &&& (2147483647 : Int32)) % (6 : Int32)) w_JobState_QUEUED w_JobState_RUNNING w_JobState_SUCCEEDED w_JobState_FAILED w_JobState_TIMEOUT w_JobState_CANCELLED)), (.ref b129), (.ref b129)])) _
      refine XS.aload X131.here hx rfl (hb hby at_133) rfl hv121 ?_
      show Steps p.tables e below (T131.setTop (mkF m 135 #[.val (.int p0), .val (.int p1), .val (.int p2), .val (.int p3), .val (.int p4), .val (.long p5), .second, .val (.int ((p0 &&& (2147483647 : Int32)) % (4 : Int32))), .val (.int ((p1 &&& (2147483647 : Int32)) % (6 : Int32))), .val (.ref (if (p2 &&& (1 : Int32)) = (0 : Int32) then w_RequestKind_JOB else w_RequestKind_EXECUTE)), .val (.ref (V1 (p3 &&& (3 : Int32)) w_Execution_PENDING w_Execution_NOT_EXECUTED w_Execution_EXECUTED w_Execution_UNKNOWN)), .val (.int (if (p4 &&& (1 : Int32)) = (0 : Int32) then (0 : Int32) else (1 : Int32))), .val (.int (if (p4 &&& (2 : Int32)) = (0 : Int32) then (0 : Int32) else (1 : Int32))), .val v117, .val v121, .val (.ref b_125), .unset, .unset, .unset, .unset] [v121, (.ref (V1 (p3 &&& (3 : Int32)) w_Execution_PENDING w_Execution_NOT_EXECUTED w_Execution_EXECUTED w_Execution_UNKNOWN)), (.ref (V12 ((p1 &&& (2147483647 : Int32)) % (6 : Int32)) w_JobState_QUEUED w_JobState_RUNNING w_JobState_SUCCEEDED w_JobState_FAILED w_JobState_TIMEOUT w_JobState_CANCELLED)), (.ref b129), (.ref b129)])) _
      refine XS.iload X131.here hx rfl (hb hby at_135) rfl ?_
      show Steps p.tables e below (T131.setTop (mkF m 137 #[.val (.int p0), .val (.int p1), .val (.int p2), .val (.int p3), .val (.int p4), .val (.long p5), .second, .val (.int ((p0 &&& (2147483647 : Int32)) % (4 : Int32))), .val (.int ((p1 &&& (2147483647 : Int32)) % (6 : Int32))), .val (.ref (if (p2 &&& (1 : Int32)) = (0 : Int32) then w_RequestKind_JOB else w_RequestKind_EXECUTE)), .val (.ref (V1 (p3 &&& (3 : Int32)) w_Execution_PENDING w_Execution_NOT_EXECUTED w_Execution_EXECUTED w_Execution_UNKNOWN)), .val (.int (if (p4 &&& (1 : Int32)) = (0 : Int32) then (0 : Int32) else (1 : Int32))), .val (.int (if (p4 &&& (2 : Int32)) = (0 : Int32) then (0 : Int32) else (1 : Int32))), .val v117, .val v121, .val (.ref b_125), .unset, .unset, .unset, .unset] [(.int (if (p4 &&& (1 : Int32)) = (0 : Int32) then (0 : Int32) else (1 : Int32))), v121, (.ref (V1 (p3 &&& (3 : Int32)) w_Execution_PENDING w_Execution_NOT_EXECUTED w_Execution_EXECUTED w_Execution_UNKNOWN)), (.ref (V12 ((p1 &&& (2147483647 : Int32)) % (6 : Int32)) w_JobState_QUEUED w_JobState_RUNNING w_JobState_SUCCEEDED w_JobState_FAILED w_JobState_TIMEOUT w_JobState_CANCELLED)), (.ref b129), (.ref b129)])) _
      refine XS.iload X131.here hx rfl (hb hby at_137) rfl ?_
      show Steps p.tables e below (T131.setTop (mkF m 139 #[.val (.int p0), .val (.int p1), .val (.int p2), .val (.int p3), .val (.int p4), .val (.long p5), .second, .val (.int ((p0 &&& (2147483647 : Int32)) % (4 : Int32))), .val (.int ((p1 &&& (2147483647 : Int32)) % (6 : Int32))), .val (.ref (if (p2 &&& (1 : Int32)) = (0 : Int32) then w_RequestKind_JOB else w_RequestKind_EXECUTE)), .val (.ref (V1 (p3 &&& (3 : Int32)) w_Execution_PENDING w_Execution_NOT_EXECUTED w_Execution_EXECUTED w_Execution_UNKNOWN)), .val (.int (if (p4 &&& (1 : Int32)) = (0 : Int32) then (0 : Int32) else (1 : Int32))), .val (.int (if (p4 &&& (2 : Int32)) = (0 : Int32) then (0 : Int32) else (1 : Int32))), .val v117, .val v121, .val (.ref b_125), .unset, .unset, .unset, .unset] [(.int (if (p4 &&& (2 : Int32)) = (0 : Int32) then (0 : Int32) else (1 : Int32))), (.int (if (p4 &&& (1 : Int32)) = (0 : Int32) then (0 : Int32) else (1 : Int32))), v121, (.ref (V1 (p3 &&& (3 : Int32)) w_Execution_PENDING w_Execution_NOT_EXECUTED w_Execution_EXECUTED w_Execution_UNKNOWN)), (.ref (V12 ((p1 &&& (2147483647 : Int32)) % (6 : Int32)) w_JobState_QUEUED w_JobState_RUNNING w_JobState_SUCCEEDED w_JobState_FAILED w_JobState_TIMEOUT w_JobState_CANCELLED)), (.ref b129), (.ref b129)])) _
      refine st132.trans ?_
      show Steps p.tables e below (T132.setTop (mkF m 142 #[.val (.int p0), .val (.int p1), .val (.int p2), .val (.int p3), .val (.int p4), .val (.long p5), .second, .val (.int ((p0 &&& (2147483647 : Int32)) % (4 : Int32))), .val (.int ((p1 &&& (2147483647 : Int32)) % (6 : Int32))), .val (.ref (if (p2 &&& (1 : Int32)) = (0 : Int32) then w_RequestKind_JOB else w_RequestKind_EXECUTE)), .val (.ref (V1 (p3 &&& (3 : Int32)) w_Execution_PENDING w_Execution_NOT_EXECUTED w_Execution_EXECUTED w_Execution_UNKNOWN)), .val (.int (if (p4 &&& (1 : Int32)) = (0 : Int32) then (0 : Int32) else (1 : Int32))), .val (.int (if (p4 &&& (2 : Int32)) = (0 : Int32) then (0 : Int32) else (1 : Int32))), .val v117, .val v121, .val (.ref b_125), .unset, .unset, .unset, .unset] [(.ref b129)])) _
      refine XS.astore X132b.here hx rfl (hb hby at_142) rfl rfl (l' := #[.val (.int p0), .val (.int p1), .val (.int p2), .val (.int p3), .val (.int p4), .val (.long p5), .second, .val (.int ((p0 &&& (2147483647 : Int32)) % (4 : Int32))), .val (.int ((p1 &&& (2147483647 : Int32)) % (6 : Int32))), .val (.ref (if (p2 &&& (1 : Int32)) = (0 : Int32) then w_RequestKind_JOB else w_RequestKind_EXECUTE)), .val (.ref (V1 (p3 &&& (3 : Int32)) w_Execution_PENDING w_Execution_NOT_EXECUTED w_Execution_EXECUTED w_Execution_UNKNOWN)), .val (.int (if (p4 &&& (1 : Int32)) = (0 : Int32) then (0 : Int32) else (1 : Int32))), .val (.int (if (p4 &&& (2 : Int32)) = (0 : Int32) then (0 : Int32) else (1 : Int32))), .val v117, .val v121, .val (.ref b_125), .unset, .unset, .val (.ref b129), .unset]) rfl ?_
      show Steps p.tables e below (T132.setTop (mkF m 144 #[.val (.int p0), .val (.int p1), .val (.int p2), .val (.int p3), .val (.int p4), .val (.long p5), .second, .val (.int ((p0 &&& (2147483647 : Int32)) % (4 : Int32))), .val (.int ((p1 &&& (2147483647 : Int32)) % (6 : Int32))), .val (.ref (if (p2 &&& (1 : Int32)) = (0 : Int32) then w_RequestKind_JOB else w_RequestKind_EXECUTE)), .val (.ref (V1 (p3 &&& (3 : Int32)) w_Execution_PENDING w_Execution_NOT_EXECUTED w_Execution_EXECUTED w_Execution_UNKNOWN)), .val (.int (if (p4 &&& (1 : Int32)) = (0 : Int32) then (0 : Int32) else (1 : Int32))), .val (.int (if (p4 &&& (2 : Int32)) = (0 : Int32) then (0 : Int32) else (1 : Int32))), .val v117, .val v121, .val (.ref b_125), .unset, .unset, .val (.ref b129), .unset] [])) _
      refine st134 _ ?_
      show Steps p.tables e below (T134.setTop (mkF m 147 #[.val (.int p0), .val (.int p1), .val (.int p2), .val (.int p3), .val (.int p4), .val (.long p5), .second, .val (.int ((p0 &&& (2147483647 : Int32)) % (4 : Int32))), .val (.int ((p1 &&& (2147483647 : Int32)) % (6 : Int32))), .val (.ref (if (p2 &&& (1 : Int32)) = (0 : Int32) then w_RequestKind_JOB else w_RequestKind_EXECUTE)), .val (.ref (V1 (p3 &&& (3 : Int32)) w_Execution_PENDING w_Execution_NOT_EXECUTED w_Execution_EXECUTED w_Execution_UNKNOWN)), .val (.int (if (p4 &&& (1 : Int32)) = (0 : Int32) then (0 : Int32) else (1 : Int32))), .val (.int (if (p4 &&& (2 : Int32)) = (0 : Int32) then (0 : Int32) else (1 : Int32))), .val v117, .val v121, .val (.ref b_125), .unset, .unset, .val (.ref b129), .unset] [(.ref b134)])) _
      refine XS.dup X134.here hx rfl (hb hby at_147) rfl rfl ?_
      show Steps p.tables e below (T134.setTop (mkF m 148 #[.val (.int p0), .val (.int p1), .val (.int p2), .val (.int p3), .val (.int p4), .val (.long p5), .second, .val (.int ((p0 &&& (2147483647 : Int32)) % (4 : Int32))), .val (.int ((p1 &&& (2147483647 : Int32)) % (6 : Int32))), .val (.ref (if (p2 &&& (1 : Int32)) = (0 : Int32) then w_RequestKind_JOB else w_RequestKind_EXECUTE)), .val (.ref (V1 (p3 &&& (3 : Int32)) w_Execution_PENDING w_Execution_NOT_EXECUTED w_Execution_EXECUTED w_Execution_UNKNOWN)), .val (.int (if (p4 &&& (1 : Int32)) = (0 : Int32) then (0 : Int32) else (1 : Int32))), .val (.int (if (p4 &&& (2 : Int32)) = (0 : Int32) then (0 : Int32) else (1 : Int32))), .val v117, .val v121, .val (.ref b_125), .unset, .unset, .val (.ref b129), .unset] [(.ref b134), (.ref b134)])) _
      refine st135 _ ?_
      show Steps p.tables e below (T135.setTop (mkF m 150 #[.val (.int p0), .val (.int p1), .val (.int p2), .val (.int p3), .val (.int p4), .val (.long p5), .second, .val (.int ((p0 &&& (2147483647 : Int32)) % (4 : Int32))), .val (.int ((p1 &&& (2147483647 : Int32)) % (6 : Int32))), .val (.ref (if (p2 &&& (1 : Int32)) = (0 : Int32) then w_RequestKind_JOB else w_RequestKind_EXECUTE)), .val (.ref (V1 (p3 &&& (3 : Int32)) w_Execution_PENDING w_Execution_NOT_EXECUTED w_Execution_EXECUTED w_Execution_UNKNOWN)), .val (.int (if (p4 &&& (1 : Int32)) = (0 : Int32) then (0 : Int32) else (1 : Int32))), .val (.int (if (p4 &&& (2 : Int32)) = (0 : Int32) then (0 : Int32) else (1 : Int32))), .val v117, .val v121, .val (.ref b_125), .unset, .unset, .val (.ref b129), .unset] [(.ref a135), (.ref b134), (.ref b134)])) _
      refine XS.aload X135.here hx rfl (hb hby at_150) rfl rfl ?_
      show Steps p.tables e below (T135.setTop (mkF m 152 #[.val (.int p0), .val (.int p1), .val (.int p2), .val (.int p3), .val (.int p4), .val (.long p5), .second, .val (.int ((p0 &&& (2147483647 : Int32)) % (4 : Int32))), .val (.int ((p1 &&& (2147483647 : Int32)) % (6 : Int32))), .val (.ref (if (p2 &&& (1 : Int32)) = (0 : Int32) then w_RequestKind_JOB else w_RequestKind_EXECUTE)), .val (.ref (V1 (p3 &&& (3 : Int32)) w_Execution_PENDING w_Execution_NOT_EXECUTED w_Execution_EXECUTED w_Execution_UNKNOWN)), .val (.int (if (p4 &&& (1 : Int32)) = (0 : Int32) then (0 : Int32) else (1 : Int32))), .val (.int (if (p4 &&& (2 : Int32)) = (0 : Int32) then (0 : Int32) else (1 : Int32))), .val v117, .val v121, .val (.ref b_125), .unset, .unset, .val (.ref b129), .unset] [(.ref b_125), (.ref a135), (.ref b134), (.ref b134)])) _
      refine st136 _ ?_
      show Steps p.tables e below (T136.setTop (mkF m 154 #[.val (.int p0), .val (.int p1), .val (.int p2), .val (.int p3), .val (.int p4), .val (.long p5), .second, .val (.int ((p0 &&& (2147483647 : Int32)) % (4 : Int32))), .val (.int ((p1 &&& (2147483647 : Int32)) % (6 : Int32))), .val (.ref (if (p2 &&& (1 : Int32)) = (0 : Int32) then w_RequestKind_JOB else w_RequestKind_EXECUTE)), .val (.ref (V1 (p3 &&& (3 : Int32)) w_Execution_PENDING w_Execution_NOT_EXECUTED w_Execution_EXECUTED w_Execution_UNKNOWN)), .val (.int (if (p4 &&& (1 : Int32)) = (0 : Int32) then (0 : Int32) else (1 : Int32))), .val (.int (if (p4 &&& (2 : Int32)) = (0 : Int32) then (0 : Int32) else (1 : Int32))), .val v117, .val v121, .val (.ref b_125), .unset, .unset, .val (.ref b129), .unset] [(.ref a136), (.ref b_125), (.ref a135), (.ref b134), (.ref b134)])) _
      refine st137 _ ?_
      show Steps p.tables e below (T137.setTop (mkF m 156 #[.val (.int p0), .val (.int p1), .val (.int p2), .val (.int p3), .val (.int p4), .val (.long p5), .second, .val (.int ((p0 &&& (2147483647 : Int32)) % (4 : Int32))), .val (.int ((p1 &&& (2147483647 : Int32)) % (6 : Int32))), .val (.ref (if (p2 &&& (1 : Int32)) = (0 : Int32) then w_RequestKind_JOB else w_RequestKind_EXECUTE)), .val (.ref (V1 (p3 &&& (3 : Int32)) w_Execution_PENDING w_Execution_NOT_EXECUTED w_Execution_EXECUTED w_Execution_UNKNOWN)), .val (.int (if (p4 &&& (1 : Int32)) = (0 : Int32) then (0 : Int32) else (1 : Int32))), .val (.int (if (p4 &&& (2 : Int32)) = (0 : Int32) then (0 : Int32) else (1 : Int32))), .val v117, .val v121, .val (.ref b_125), .unset, .unset, .val (.ref b129), .unset] [(.ref a137), (.ref a136), (.ref b_125), (.ref a135), (.ref b134), (.ref b134)])) _
      refine st138 _ ?_
      show Steps p.tables e below (T138.setTop (mkF m 158 #[.val (.int p0), .val (.int p1), .val (.int p2), .val (.int p3), .val (.int p4), .val (.long p5), .second, .val (.int ((p0 &&& (2147483647 : Int32)) % (4 : Int32))), .val (.int ((p1 &&& (2147483647 : Int32)) % (6 : Int32))), .val (.ref (if (p2 &&& (1 : Int32)) = (0 : Int32) then w_RequestKind_JOB else w_RequestKind_EXECUTE)), .val (.ref (V1 (p3 &&& (3 : Int32)) w_Execution_PENDING w_Execution_NOT_EXECUTED w_Execution_EXECUTED w_Execution_UNKNOWN)), .val (.int (if (p4 &&& (1 : Int32)) = (0 : Int32) then (0 : Int32) else (1 : Int32))), .val (.int (if (p4 &&& (2 : Int32)) = (0 : Int32) then (0 : Int32) else (1 : Int32))), .val v117, .val v121, .val (.ref b_125), .unset, .unset, .val (.ref b129), .unset] [(.ref a138), (.ref a137), (.ref a136), (.ref b_125), (.ref a135), (.ref b134), (.ref b134)])) _
      refine XS.aconstNull X138.here hx rfl (hb hby at_158) ?_
      show Steps p.tables e below (T138.setTop (mkF m 159 #[.val (.int p0), .val (.int p1), .val (.int p2), .val (.int p3), .val (.int p4), .val (.long p5), .second, .val (.int ((p0 &&& (2147483647 : Int32)) % (4 : Int32))), .val (.int ((p1 &&& (2147483647 : Int32)) % (6 : Int32))), .val (.ref (if (p2 &&& (1 : Int32)) = (0 : Int32) then w_RequestKind_JOB else w_RequestKind_EXECUTE)), .val (.ref (V1 (p3 &&& (3 : Int32)) w_Execution_PENDING w_Execution_NOT_EXECUTED w_Execution_EXECUTED w_Execution_UNKNOWN)), .val (.int (if (p4 &&& (1 : Int32)) = (0 : Int32) then (0 : Int32) else (1 : Int32))), .val (.int (if (p4 &&& (2 : Int32)) = (0 : Int32) then (0 : Int32) else (1 : Int32))), .val v117, .val v121, .val (.ref b_125), .unset, .unset, .val (.ref b129), .unset] [.null, (.ref a138), (.ref a137), (.ref a136), (.ref b_125), (.ref a135), (.ref b134), (.ref b134)])) _
      refine XS.lload X138.here hx rfl (hb hby at_159) rfl ?_
      show Steps p.tables e below (T138.setTop (mkF m 161 #[.val (.int p0), .val (.int p1), .val (.int p2), .val (.int p3), .val (.int p4), .val (.long p5), .second, .val (.int ((p0 &&& (2147483647 : Int32)) % (4 : Int32))), .val (.int ((p1 &&& (2147483647 : Int32)) % (6 : Int32))), .val (.ref (if (p2 &&& (1 : Int32)) = (0 : Int32) then w_RequestKind_JOB else w_RequestKind_EXECUTE)), .val (.ref (V1 (p3 &&& (3 : Int32)) w_Execution_PENDING w_Execution_NOT_EXECUTED w_Execution_EXECUTED w_Execution_UNKNOWN)), .val (.int (if (p4 &&& (1 : Int32)) = (0 : Int32) then (0 : Int32) else (1 : Int32))), .val (.int (if (p4 &&& (2 : Int32)) = (0 : Int32) then (0 : Int32) else (1 : Int32))), .val v117, .val v121, .val (.ref b_125), .unset, .unset, .val (.ref b129), .unset] [(.long p5), .null, (.ref a138), (.ref a137), (.ref a136), (.ref b_125), (.ref a135), (.ref b134), (.ref b134)])) _
      refine XS.aload X138.here hx rfl (hb hby at_161) rfl rfl ?_
      show Steps p.tables e below (T138.setTop (mkF m 163 #[.val (.int p0), .val (.int p1), .val (.int p2), .val (.int p3), .val (.int p4), .val (.long p5), .second, .val (.int ((p0 &&& (2147483647 : Int32)) % (4 : Int32))), .val (.int ((p1 &&& (2147483647 : Int32)) % (6 : Int32))), .val (.ref (if (p2 &&& (1 : Int32)) = (0 : Int32) then w_RequestKind_JOB else w_RequestKind_EXECUTE)), .val (.ref (V1 (p3 &&& (3 : Int32)) w_Execution_PENDING w_Execution_NOT_EXECUTED w_Execution_EXECUTED w_Execution_UNKNOWN)), .val (.int (if (p4 &&& (1 : Int32)) = (0 : Int32) then (0 : Int32) else (1 : Int32))), .val (.int (if (p4 &&& (2 : Int32)) = (0 : Int32) then (0 : Int32) else (1 : Int32))), .val v117, .val v121, .val (.ref b_125), .unset, .unset, .val (.ref b129), .unset] [(.ref b129), (.long p5), .null, (.ref a138), (.ref a137), (.ref a136), (.ref b_125), (.ref a135), (.ref b134), (.ref b134)])) _
      refine XS.aconstNull X138.here hx rfl (hb hby at_163) ?_
      show Steps p.tables e below (T138.setTop (mkF m 164 #[.val (.int p0), .val (.int p1), .val (.int p2), .val (.int p3), .val (.int p4), .val (.long p5), .second, .val (.int ((p0 &&& (2147483647 : Int32)) % (4 : Int32))), .val (.int ((p1 &&& (2147483647 : Int32)) % (6 : Int32))), .val (.ref (if (p2 &&& (1 : Int32)) = (0 : Int32) then w_RequestKind_JOB else w_RequestKind_EXECUTE)), .val (.ref (V1 (p3 &&& (3 : Int32)) w_Execution_PENDING w_Execution_NOT_EXECUTED w_Execution_EXECUTED w_Execution_UNKNOWN)), .val (.int (if (p4 &&& (1 : Int32)) = (0 : Int32) then (0 : Int32) else (1 : Int32))), .val (.int (if (p4 &&& (2 : Int32)) = (0 : Int32) then (0 : Int32) else (1 : Int32))), .val v117, .val v121, .val (.ref b_125), .unset, .unset, .val (.ref b129), .unset] [.null, (.ref b129), (.long p5), .null, (.ref a138), (.ref a137), (.ref a136), (.ref b_125), (.ref a135), (.ref b134), (.ref b134)])) _
      refine XS.aconstNull X138.here hx rfl (hb hby at_164) ?_
      show Steps p.tables e below (T138.setTop (mkF m 165 #[.val (.int p0), .val (.int p1), .val (.int p2), .val (.int p3), .val (.int p4), .val (.long p5), .second, .val (.int ((p0 &&& (2147483647 : Int32)) % (4 : Int32))), .val (.int ((p1 &&& (2147483647 : Int32)) % (6 : Int32))), .val (.ref (if (p2 &&& (1 : Int32)) = (0 : Int32) then w_RequestKind_JOB else w_RequestKind_EXECUTE)), .val (.ref (V1 (p3 &&& (3 : Int32)) w_Execution_PENDING w_Execution_NOT_EXECUTED w_Execution_EXECUTED w_Execution_UNKNOWN)), .val (.int (if (p4 &&& (1 : Int32)) = (0 : Int32) then (0 : Int32) else (1 : Int32))), .val (.int (if (p4 &&& (2 : Int32)) = (0 : Int32) then (0 : Int32) else (1 : Int32))), .val v117, .val v121, .val (.ref b_125), .unset, .unset, .val (.ref b129), .unset] [.null, .null, (.ref b129), (.long p5), .null, (.ref a138), (.ref a137), (.ref a136), (.ref b_125), (.ref a135), (.ref b134), (.ref b134)])) _
      refine st155.trans ?_
      show Steps p.tables e below (T155.setTop (mkF m 168 #[.val (.int p0), .val (.int p1), .val (.int p2), .val (.int p3), .val (.int p4), .val (.long p5), .second, .val (.int ((p0 &&& (2147483647 : Int32)) % (4 : Int32))), .val (.int ((p1 &&& (2147483647 : Int32)) % (6 : Int32))), .val (.ref (if (p2 &&& (1 : Int32)) = (0 : Int32) then w_RequestKind_JOB else w_RequestKind_EXECUTE)), .val (.ref (V1 (p3 &&& (3 : Int32)) w_Execution_PENDING w_Execution_NOT_EXECUTED w_Execution_EXECUTED w_Execution_UNKNOWN)), .val (.int (if (p4 &&& (1 : Int32)) = (0 : Int32) then (0 : Int32) else (1 : Int32))), .val (.int (if (p4 &&& (2 : Int32)) = (0 : Int32) then (0 : Int32) else (1 : Int32))), .val v117, .val v121, .val (.ref b_125), .unset, .unset, .val (.ref b129), .unset] [(.ref b134)])) _
      refine XS.astore X155b.here hx rfl (hb hby at_168) rfl rfl (l' := #[.val (.int p0), .val (.int p1), .val (.int p2), .val (.int p3), .val (.int p4), .val (.long p5), .second, .val (.int ((p0 &&& (2147483647 : Int32)) % (4 : Int32))), .val (.int ((p1 &&& (2147483647 : Int32)) % (6 : Int32))), .val (.ref (if (p2 &&& (1 : Int32)) = (0 : Int32) then w_RequestKind_JOB else w_RequestKind_EXECUTE)), .val (.ref (V1 (p3 &&& (3 : Int32)) w_Execution_PENDING w_Execution_NOT_EXECUTED w_Execution_EXECUTED w_Execution_UNKNOWN)), .val (.int (if (p4 &&& (1 : Int32)) = (0 : Int32) then (0 : Int32) else (1 : Int32))), .val (.int (if (p4 &&& (2 : Int32)) = (0 : Int32) then (0 : Int32) else (1 : Int32))), .val v117, .val v121, .val (.ref b_125), .unset, .unset, .val (.ref b129), .val (.ref b134)]) rfl ?_
      show Steps p.tables e below (T155.setTop (mkF m 170 #[.val (.int p0), .val (.int p1), .val (.int p2), .val (.int p3), .val (.int p4), .val (.long p5), .second, .val (.int ((p0 &&& (2147483647 : Int32)) % (4 : Int32))), .val (.int ((p1 &&& (2147483647 : Int32)) % (6 : Int32))), .val (.ref (if (p2 &&& (1 : Int32)) = (0 : Int32) then w_RequestKind_JOB else w_RequestKind_EXECUTE)), .val (.ref (V1 (p3 &&& (3 : Int32)) w_Execution_PENDING w_Execution_NOT_EXECUTED w_Execution_EXECUTED w_Execution_UNKNOWN)), .val (.int (if (p4 &&& (1 : Int32)) = (0 : Int32) then (0 : Int32) else (1 : Int32))), .val (.int (if (p4 &&& (2 : Int32)) = (0 : Int32) then (0 : Int32) else (1 : Int32))), .val v117, .val v121, .val (.ref b_125), .unset, .unset, .val (.ref b129), .val (.ref b134)] [])) _
      refine st157 _ ?_
      show Steps p.tables e below (T157.setTop (mkF m 173 #[.val (.int p0), .val (.int p1), .val (.int p2), .val (.int p3), .val (.int p4), .val (.long p5), .second, .val (.int ((p0 &&& (2147483647 : Int32)) % (4 : Int32))), .val (.int ((p1 &&& (2147483647 : Int32)) % (6 : Int32))), .val (.ref (if (p2 &&& (1 : Int32)) = (0 : Int32) then w_RequestKind_JOB else w_RequestKind_EXECUTE)), .val (.ref (V1 (p3 &&& (3 : Int32)) w_Execution_PENDING w_Execution_NOT_EXECUTED w_Execution_EXECUTED w_Execution_UNKNOWN)), .val (.int (if (p4 &&& (1 : Int32)) = (0 : Int32) then (0 : Int32) else (1 : Int32))), .val (.int (if (p4 &&& (2 : Int32)) = (0 : Int32) then (0 : Int32) else (1 : Int32))), .val v117, .val v121, .val (.ref b_125), .unset, .unset, .val (.ref b129), .val (.ref b134)] [(.ref b157)])) _
      refine XS.dup X157.here hx rfl (hb hby at_173) rfl rfl ?_
      show Steps p.tables e below (T157.setTop (mkF m 174 #[.val (.int p0), .val (.int p1), .val (.int p2), .val (.int p3), .val (.int p4), .val (.long p5), .second, .val (.int ((p0 &&& (2147483647 : Int32)) % (4 : Int32))), .val (.int ((p1 &&& (2147483647 : Int32)) % (6 : Int32))), .val (.ref (if (p2 &&& (1 : Int32)) = (0 : Int32) then w_RequestKind_JOB else w_RequestKind_EXECUTE)), .val (.ref (V1 (p3 &&& (3 : Int32)) w_Execution_PENDING w_Execution_NOT_EXECUTED w_Execution_EXECUTED w_Execution_UNKNOWN)), .val (.int (if (p4 &&& (1 : Int32)) = (0 : Int32) then (0 : Int32) else (1 : Int32))), .val (.int (if (p4 &&& (2 : Int32)) = (0 : Int32) then (0 : Int32) else (1 : Int32))), .val v117, .val v121, .val (.ref b_125), .unset, .unset, .val (.ref b129), .val (.ref b134)] [(.ref b157), (.ref b157)])) _
      refine XS.aload X157.here hx rfl (hb hby at_174) rfl rfl ?_
      show Steps p.tables e below (T157.setTop (mkF m 176 #[.val (.int p0), .val (.int p1), .val (.int p2), .val (.int p3), .val (.int p4), .val (.long p5), .second, .val (.int ((p0 &&& (2147483647 : Int32)) % (4 : Int32))), .val (.int ((p1 &&& (2147483647 : Int32)) % (6 : Int32))), .val (.ref (if (p2 &&& (1 : Int32)) = (0 : Int32) then w_RequestKind_JOB else w_RequestKind_EXECUTE)), .val (.ref (V1 (p3 &&& (3 : Int32)) w_Execution_PENDING w_Execution_NOT_EXECUTED w_Execution_EXECUTED w_Execution_UNKNOWN)), .val (.int (if (p4 &&& (1 : Int32)) = (0 : Int32) then (0 : Int32) else (1 : Int32))), .val (.int (if (p4 &&& (2 : Int32)) = (0 : Int32) then (0 : Int32) else (1 : Int32))), .val v117, .val v121, .val (.ref b_125), .unset, .unset, .val (.ref b129), .val (.ref b134)] [(.ref b_125), (.ref b157), (.ref b157)])) _
      refine XS.aload X157.here hx rfl (hb hby at_176) rfl rfl ?_
      show Steps p.tables e below (T157.setTop (mkF m 178 #[.val (.int p0), .val (.int p1), .val (.int p2), .val (.int p3), .val (.int p4), .val (.long p5), .second, .val (.int ((p0 &&& (2147483647 : Int32)) % (4 : Int32))), .val (.int ((p1 &&& (2147483647 : Int32)) % (6 : Int32))), .val (.ref (if (p2 &&& (1 : Int32)) = (0 : Int32) then w_RequestKind_JOB else w_RequestKind_EXECUTE)), .val (.ref (V1 (p3 &&& (3 : Int32)) w_Execution_PENDING w_Execution_NOT_EXECUTED w_Execution_EXECUTED w_Execution_UNKNOWN)), .val (.int (if (p4 &&& (1 : Int32)) = (0 : Int32) then (0 : Int32) else (1 : Int32))), .val (.int (if (p4 &&& (2 : Int32)) = (0 : Int32) then (0 : Int32) else (1 : Int32))), .val v117, .val v121, .val (.ref b_125), .unset, .unset, .val (.ref b129), .val (.ref b134)] [(.ref (if (p2 &&& (1 : Int32)) = (0 : Int32) then w_RequestKind_JOB else w_RequestKind_EXECUTE)), (.ref b_125), (.ref b157), (.ref b157)])) _
      refine st158 _ ?_
      show Steps p.tables e below (T158.setTop (mkF m 180 #[.val (.int p0), .val (.int p1), .val (.int p2), .val (.int p3), .val (.int p4), .val (.long p5), .second, .val (.int ((p0 &&& (2147483647 : Int32)) % (4 : Int32))), .val (.int ((p1 &&& (2147483647 : Int32)) % (6 : Int32))), .val (.ref (if (p2 &&& (1 : Int32)) = (0 : Int32) then w_RequestKind_JOB else w_RequestKind_EXECUTE)), .val (.ref (V1 (p3 &&& (3 : Int32)) w_Execution_PENDING w_Execution_NOT_EXECUTED w_Execution_EXECUTED w_Execution_UNKNOWN)), .val (.int (if (p4 &&& (1 : Int32)) = (0 : Int32) then (0 : Int32) else (1 : Int32))), .val (.int (if (p4 &&& (2 : Int32)) = (0 : Int32) then (0 : Int32) else (1 : Int32))), .val v117, .val v121, .val (.ref b_125), .unset, .unset, .val (.ref b129), .val (.ref b134)] [(.ref a158), (.ref (if (p2 &&& (1 : Int32)) = (0 : Int32) then w_RequestKind_JOB else w_RequestKind_EXECUTE)), (.ref b_125), (.ref b157), (.ref b157)])) _
      refine st159 _ ?_
      show Steps p.tables e below (T159.setTop (mkF m 182 #[.val (.int p0), .val (.int p1), .val (.int p2), .val (.int p3), .val (.int p4), .val (.long p5), .second, .val (.int ((p0 &&& (2147483647 : Int32)) % (4 : Int32))), .val (.int ((p1 &&& (2147483647 : Int32)) % (6 : Int32))), .val (.ref (if (p2 &&& (1 : Int32)) = (0 : Int32) then w_RequestKind_JOB else w_RequestKind_EXECUTE)), .val (.ref (V1 (p3 &&& (3 : Int32)) w_Execution_PENDING w_Execution_NOT_EXECUTED w_Execution_EXECUTED w_Execution_UNKNOWN)), .val (.int (if (p4 &&& (1 : Int32)) = (0 : Int32) then (0 : Int32) else (1 : Int32))), .val (.int (if (p4 &&& (2 : Int32)) = (0 : Int32) then (0 : Int32) else (1 : Int32))), .val v117, .val v121, .val (.ref b_125), .unset, .unset, .val (.ref b129), .val (.ref b134)] [(.ref a159), (.ref a158), (.ref (if (p2 &&& (1 : Int32)) = (0 : Int32) then w_RequestKind_JOB else w_RequestKind_EXECUTE)), (.ref b_125), (.ref b157), (.ref b157)])) _
      refine st164 _ ?_
      show Steps p.tables e below (T164.setTop (mkF m 185 #[.val (.int p0), .val (.int p1), .val (.int p2), .val (.int p3), .val (.int p4), .val (.long p5), .second, .val (.int ((p0 &&& (2147483647 : Int32)) % (4 : Int32))), .val (.int ((p1 &&& (2147483647 : Int32)) % (6 : Int32))), .val (.ref (if (p2 &&& (1 : Int32)) = (0 : Int32) then w_RequestKind_JOB else w_RequestKind_EXECUTE)), .val (.ref (V1 (p3 &&& (3 : Int32)) w_Execution_PENDING w_Execution_NOT_EXECUTED w_Execution_EXECUTED w_Execution_UNKNOWN)), .val (.int (if (p4 &&& (1 : Int32)) = (0 : Int32) then (0 : Int32) else (1 : Int32))), .val (.int (if (p4 &&& (2 : Int32)) = (0 : Int32) then (0 : Int32) else (1 : Int32))), .val v117, .val v121, .val (.ref b_125), .unset, .unset, .val (.ref b129), .val (.ref b134)] [(.ref w_RequestState_SUCCEEDED), (.ref a159), (.ref a158), (.ref (if (p2 &&& (1 : Int32)) = (0 : Int32) then w_RequestKind_JOB else w_RequestKind_EXECUTE)), (.ref b_125), (.ref b157), (.ref b157)])) _
      refine XS.aload X164.here hx rfl (hb hby at_185) rfl hv117 ?_
      show Steps p.tables e below (T164.setTop (mkF m 187 #[.val (.int p0), .val (.int p1), .val (.int p2), .val (.int p3), .val (.int p4), .val (.long p5), .second, .val (.int ((p0 &&& (2147483647 : Int32)) % (4 : Int32))), .val (.int ((p1 &&& (2147483647 : Int32)) % (6 : Int32))), .val (.ref (if (p2 &&& (1 : Int32)) = (0 : Int32) then w_RequestKind_JOB else w_RequestKind_EXECUTE)), .val (.ref (V1 (p3 &&& (3 : Int32)) w_Execution_PENDING w_Execution_NOT_EXECUTED w_Execution_EXECUTED w_Execution_UNKNOWN)), .val (.int (if (p4 &&& (1 : Int32)) = (0 : Int32) then (0 : Int32) else (1 : Int32))), .val (.int (if (p4 &&& (2 : Int32)) = (0 : Int32) then (0 : Int32) else (1 : Int32))), .val v117, .val v121, .val (.ref b_125), .unset, .unset, .val (.ref b129), .val (.ref b134)] [v117, (.ref w_RequestState_SUCCEEDED), (.ref a159), (.ref a158), (.ref (if (p2 &&& (1 : Int32)) = (0 : Int32) then w_RequestKind_JOB else w_RequestKind_EXECUTE)), (.ref b_125), (.ref b157), (.ref b157)])) _
      refine XS.aload X164.here hx rfl (hb hby at_187) rfl rfl ?_
      show Steps p.tables e below (T164.setTop (mkF m 189 #[.val (.int p0), .val (.int p1), .val (.int p2), .val (.int p3), .val (.int p4), .val (.long p5), .second, .val (.int ((p0 &&& (2147483647 : Int32)) % (4 : Int32))), .val (.int ((p1 &&& (2147483647 : Int32)) % (6 : Int32))), .val (.ref (if (p2 &&& (1 : Int32)) = (0 : Int32) then w_RequestKind_JOB else w_RequestKind_EXECUTE)), .val (.ref (V1 (p3 &&& (3 : Int32)) w_Execution_PENDING w_Execution_NOT_EXECUTED w_Execution_EXECUTED w_Execution_UNKNOWN)), .val (.int (if (p4 &&& (1 : Int32)) = (0 : Int32) then (0 : Int32) else (1 : Int32))), .val (.int (if (p4 &&& (2 : Int32)) = (0 : Int32) then (0 : Int32) else (1 : Int32))), .val v117, .val v121, .val (.ref b_125), .unset, .unset, .val (.ref b129), .val (.ref b134)] [(.ref b134), v117, (.ref w_RequestState_SUCCEEDED), (.ref a159), (.ref a158), (.ref (if (p2 &&& (1 : Int32)) = (0 : Int32) then w_RequestKind_JOB else w_RequestKind_EXECUTE)), (.ref b_125), (.ref b157), (.ref b157)])) _
      refine st173.trans ?_
      show Steps p.tables e below (T173.setTop (mkF m 192 #[.val (.int p0), .val (.int p1), .val (.int p2), .val (.int p3), .val (.int p4), .val (.long p5), .second, .val (.int ((p0 &&& (2147483647 : Int32)) % (4 : Int32))), .val (.int ((p1 &&& (2147483647 : Int32)) % (6 : Int32))), .val (.ref (if (p2 &&& (1 : Int32)) = (0 : Int32) then w_RequestKind_JOB else w_RequestKind_EXECUTE)), .val (.ref (V1 (p3 &&& (3 : Int32)) w_Execution_PENDING w_Execution_NOT_EXECUTED w_Execution_EXECUTED w_Execution_UNKNOWN)), .val (.int (if (p4 &&& (1 : Int32)) = (0 : Int32) then (0 : Int32) else (1 : Int32))), .val (.int (if (p4 &&& (2 : Int32)) = (0 : Int32) then (0 : Int32) else (1 : Int32))), .val v117, .val v121, .val (.ref b_125), .unset, .unset, .val (.ref b129), .val (.ref b134)] [(.ref b157)])) _
      refine XS.astore X173b.here hx rfl (hb hby at_192) rfl rfl (l' := #[.val (.int p0), .val (.int p1), .val (.int p2), .val (.int p3), .val (.int p4), .val (.long p5), .second, .val (.int ((p0 &&& (2147483647 : Int32)) % (4 : Int32))), .val (.int ((p1 &&& (2147483647 : Int32)) % (6 : Int32))), .val (.ref (if (p2 &&& (1 : Int32)) = (0 : Int32) then w_RequestKind_JOB else w_RequestKind_EXECUTE)), .val (.ref (V1 (p3 &&& (3 : Int32)) w_Execution_PENDING w_Execution_NOT_EXECUTED w_Execution_EXECUTED w_Execution_UNKNOWN)), .val (.int (if (p4 &&& (1 : Int32)) = (0 : Int32) then (0 : Int32) else (1 : Int32))), .val (.int (if (p4 &&& (2 : Int32)) = (0 : Int32) then (0 : Int32) else (1 : Int32))), .val v117, .val v121, .val (.ref b_125), .unset, .val (.ref b157), .val (.ref b129), .val (.ref b134)]) rfl ?_
      show Steps p.tables e below (T173.setTop (mkF m 194 #[.val (.int p0), .val (.int p1), .val (.int p2), .val (.int p3), .val (.int p4), .val (.long p5), .second, .val (.int ((p0 &&& (2147483647 : Int32)) % (4 : Int32))), .val (.int ((p1 &&& (2147483647 : Int32)) % (6 : Int32))), .val (.ref (if (p2 &&& (1 : Int32)) = (0 : Int32) then w_RequestKind_JOB else w_RequestKind_EXECUTE)), .val (.ref (V1 (p3 &&& (3 : Int32)) w_Execution_PENDING w_Execution_NOT_EXECUTED w_Execution_EXECUTED w_Execution_UNKNOWN)), .val (.int (if (p4 &&& (1 : Int32)) = (0 : Int32) then (0 : Int32) else (1 : Int32))), .val (.int (if (p4 &&& (2 : Int32)) = (0 : Int32) then (0 : Int32) else (1 : Int32))), .val v117, .val v121, .val (.ref b_125), .unset, .val (.ref b157), .val (.ref b129), .val (.ref b134)] [])) _
      refine XS.iload X173b.here hx rfl (hb hby at_194) rfl ?_
      show Steps p.tables e below (T173.setTop (mkF m 196 #[.val (.int p0), .val (.int p1), .val (.int p2), .val (.int p3), .val (.int p4), .val (.long p5), .second, .val (.int ((p0 &&& (2147483647 : Int32)) % (4 : Int32))), .val (.int ((p1 &&& (2147483647 : Int32)) % (6 : Int32))), .val (.ref (if (p2 &&& (1 : Int32)) = (0 : Int32) then w_RequestKind_JOB else w_RequestKind_EXECUTE)), .val (.ref (V1 (p3 &&& (3 : Int32)) w_Execution_PENDING w_Execution_NOT_EXECUTED w_Execution_EXECUTED w_Execution_UNKNOWN)), .val (.int (if (p4 &&& (1 : Int32)) = (0 : Int32) then (0 : Int32) else (1 : Int32))), .val (.int (if (p4 &&& (2 : Int32)) = (0 : Int32) then (0 : Int32) else (1 : Int32))), .val v117, .val v121, .val (.ref b_125), .unset, .val (.ref b157), .val (.ref b129), .val (.ref b134)] [(.int ((p1 &&& (2147483647 : Int32)) % (6 : Int32)))])) _
      refine XS.iconst X173b.here hx rfl (hb hby at_196) ?_
      exact k
    have S176 : ∀ t, Steps p.tables e below (T173.setTop (mkF m 205 #[.val (.int p0), .val (.int p1), .val (.int p2), .val (.int p3), .val (.int p4), .val (.long p5), .second, .val (.int ((p0 &&& (2147483647 : Int32)) % (4 : Int32))), .val (.int ((p1 &&& (2147483647 : Int32)) % (6 : Int32))), .val (.ref (if (p2 &&& (1 : Int32)) = (0 : Int32) then w_RequestKind_JOB else w_RequestKind_EXECUTE)), .val (.ref (V1 (p3 &&& (3 : Int32)) w_Execution_PENDING w_Execution_NOT_EXECUTED w_Execution_EXECUTED w_Execution_UNKNOWN)), .val (.int (if (p4 &&& (1 : Int32)) = (0 : Int32) then (0 : Int32) else (1 : Int32))), .val (.int (if (p4 &&& (2 : Int32)) = (0 : Int32) then (0 : Int32) else (1 : Int32))), .val v117, .val v121, .val (.ref b_125), .unset, .val (.ref b157), .val (.ref b129), .val (.ref b134)] [(.int (if ((p1 &&& (2147483647 : Int32)) % (6 : Int32)) < (2 : Int32) then (0 : Int32) else (1 : Int32)))])) t → Steps p.tables e below (s₁.setTop (entryFrame m #[(.int p0), (.int p1), (.int p2), (.int p3), (.int p4), (.long p5)] maxLocals)) t := by
      by_cases hc175 : ((p1 &&& (2147483647 : Int32)) % (6 : Int32)) < (2 : Int32)
      · intro t k
        try simp only [if_pos hc175] at k
        refine S174 t ?_
        show Steps p.tables e below (T173.setTop (mkF m 197 #[.val (.int p0), .val (.int p1), .val (.int p2), .val (.int p3), .val (.int p4), .val (.long p5), .second, .val (.int ((p0 &&& (2147483647 : Int32)) % (4 : Int32))), .val (.int ((p1 &&& (2147483647 : Int32)) % (6 : Int32))), .val (.ref (if (p2 &&& (1 : Int32)) = (0 : Int32) then w_RequestKind_JOB else w_RequestKind_EXECUTE)), .val (.ref (V1 (p3 &&& (3 : Int32)) w_Execution_PENDING w_Execution_NOT_EXECUTED w_Execution_EXECUTED w_Execution_UNKNOWN)), .val (.int (if (p4 &&& (1 : Int32)) = (0 : Int32) then (0 : Int32) else (1 : Int32))), .val (.int (if (p4 &&& (2 : Int32)) = (0 : Int32) then (0 : Int32) else (1 : Int32))), .val v117, .val v121, .val (.ref b_125), .unset, .val (.ref b157), .val (.ref b129), .val (.ref b134)] [(.int (2 : Int32)), (.int ((p1 &&& (2147483647 : Int32)) % (6 : Int32)))])) _
        refine XS.icmpYes X173b.here hx rfl (pc0 := 197) (pc' := 204) rfl (hb hby at_197) rfl (tlt hc175).1 (by decide) (by decide) ?_
        show Steps p.tables e below (T173.setTop (mkF m 204 #[.val (.int p0), .val (.int p1), .val (.int p2), .val (.int p3), .val (.int p4), .val (.long p5), .second, .val (.int ((p0 &&& (2147483647 : Int32)) % (4 : Int32))), .val (.int ((p1 &&& (2147483647 : Int32)) % (6 : Int32))), .val (.ref (if (p2 &&& (1 : Int32)) = (0 : Int32) then w_RequestKind_JOB else w_RequestKind_EXECUTE)), .val (.ref (V1 (p3 &&& (3 : Int32)) w_Execution_PENDING w_Execution_NOT_EXECUTED w_Execution_EXECUTED w_Execution_UNKNOWN)), .val (.int (if (p4 &&& (1 : Int32)) = (0 : Int32) then (0 : Int32) else (1 : Int32))), .val (.int (if (p4 &&& (2 : Int32)) = (0 : Int32) then (0 : Int32) else (1 : Int32))), .val v117, .val v121, .val (.ref b_125), .unset, .val (.ref b157), .val (.ref b129), .val (.ref b134)] [])) _
        refine XS.iconst X173b.here hx rfl (hb hby at_204) ?_
        exact k
      · intro t k
        try simp only [if_neg hc175] at k
        refine S174 t ?_
        show Steps p.tables e below (T173.setTop (mkF m 197 #[.val (.int p0), .val (.int p1), .val (.int p2), .val (.int p3), .val (.int p4), .val (.long p5), .second, .val (.int ((p0 &&& (2147483647 : Int32)) % (4 : Int32))), .val (.int ((p1 &&& (2147483647 : Int32)) % (6 : Int32))), .val (.ref (if (p2 &&& (1 : Int32)) = (0 : Int32) then w_RequestKind_JOB else w_RequestKind_EXECUTE)), .val (.ref (V1 (p3 &&& (3 : Int32)) w_Execution_PENDING w_Execution_NOT_EXECUTED w_Execution_EXECUTED w_Execution_UNKNOWN)), .val (.int (if (p4 &&& (1 : Int32)) = (0 : Int32) then (0 : Int32) else (1 : Int32))), .val (.int (if (p4 &&& (2 : Int32)) = (0 : Int32) then (0 : Int32) else (1 : Int32))), .val v117, .val v121, .val (.ref b_125), .unset, .val (.ref b157), .val (.ref b129), .val (.ref b134)] [(.int (2 : Int32)), (.int ((p1 &&& (2147483647 : Int32)) % (6 : Int32)))])) _
        refine XS.icmpNo X173b.here hx rfl (hb hby at_197) rfl (flt hc175).1 ?_
        show Steps p.tables e below (T173.setTop (mkF m 200 #[.val (.int p0), .val (.int p1), .val (.int p2), .val (.int p3), .val (.int p4), .val (.long p5), .second, .val (.int ((p0 &&& (2147483647 : Int32)) % (4 : Int32))), .val (.int ((p1 &&& (2147483647 : Int32)) % (6 : Int32))), .val (.ref (if (p2 &&& (1 : Int32)) = (0 : Int32) then w_RequestKind_JOB else w_RequestKind_EXECUTE)), .val (.ref (V1 (p3 &&& (3 : Int32)) w_Execution_PENDING w_Execution_NOT_EXECUTED w_Execution_EXECUTED w_Execution_UNKNOWN)), .val (.int (if (p4 &&& (1 : Int32)) = (0 : Int32) then (0 : Int32) else (1 : Int32))), .val (.int (if (p4 &&& (2 : Int32)) = (0 : Int32) then (0 : Int32) else (1 : Int32))), .val v117, .val v121, .val (.ref b_125), .unset, .val (.ref b157), .val (.ref b129), .val (.ref b134)] [])) _
        refine XS.iconst X173b.here hx rfl (hb hby at_200) ?_
        show Steps p.tables e below (T173.setTop (mkF m 201 #[.val (.int p0), .val (.int p1), .val (.int p2), .val (.int p3), .val (.int p4), .val (.long p5), .second, .val (.int ((p0 &&& (2147483647 : Int32)) % (4 : Int32))), .val (.int ((p1 &&& (2147483647 : Int32)) % (6 : Int32))), .val (.ref (if (p2 &&& (1 : Int32)) = (0 : Int32) then w_RequestKind_JOB else w_RequestKind_EXECUTE)), .val (.ref (V1 (p3 &&& (3 : Int32)) w_Execution_PENDING w_Execution_NOT_EXECUTED w_Execution_EXECUTED w_Execution_UNKNOWN)), .val (.int (if (p4 &&& (1 : Int32)) = (0 : Int32) then (0 : Int32) else (1 : Int32))), .val (.int (if (p4 &&& (2 : Int32)) = (0 : Int32) then (0 : Int32) else (1 : Int32))), .val v117, .val v121, .val (.ref b_125), .unset, .val (.ref b157), .val (.ref b129), .val (.ref b134)] [(.int (1 : Int32))])) _
        refine XS.goto X173b.here hx rfl (pc0 := 201) (pc' := 205) rfl (hb hby at_201) (by decide) (by decide) ?_
        exact k
    have c177 : Exa Z T173.heap b134 "com/example/done_once/doneonce/store/Job" := (Exa.keep (Exa.ext E159 (Exa.ext E158 (Exa.ext E157 f155_0))) K173)
    have c178 : Fld Z T173.heap b134 "com/example/done_once/doneonce/store/Job" "status" "Lcom/example/done_once/doneonce/core/JobStatus;" (.ref b129) := (Fld.keep (Fld.ext E159 (Fld.ext E158 (Fld.ext E157 f155_1))) K173 (ninS (Nat.ne_of_lt (Nat.lt_of_lt_of_le (f155_0).lt (Nat.le_of_eq g157.symm))) nin0))
    have c179 : Exa Z T173.heap b129 "com/example/done_once/doneonce/core/JobStatus" := (Exa.keep (Exa.ext E159 (Exa.ext E158 (Exa.ext E157 (Exa.keep (Exa.ext E138 (Exa.ext E137 (Exa.ext E136 (Exa.ext E135 (Exa.ext E134 f132_0))))) K155)))) K173)
    have c180 : Exa Z T155.heap b129 "com/example/done_once/doneonce/core/JobStatus" := (Exa.keep (Exa.ext E138 (Exa.ext E137 (Exa.ext E136 (Exa.ext E135 (Exa.ext E134 f132_0))))) K155)
    have c181 : Fld Z T173.heap b129 "com/example/done_once/doneonce/core/JobStatus" "state" "Lcom/example/done_once/doneonce/core/JobState;" (.ref (V12 ((p1 &&& (2147483647 : Int32)) % (6 : Int32)) w_JobState_QUEUED w_JobState_RUNNING w_JobState_SUCCEEDED w_JobState_FAILED w_JobState_TIMEOUT w_JobState_CANCELLED)) := (Fld.keep (Fld.ext E159 (Fld.ext E158 (Fld.ext E157 (Fld.keep (Fld.ext E138 (Fld.ext E137 (Fld.ext E136 (Fld.ext E135 (Fld.ext E134 f132_1))))) K155 (ninS (Nat.ne_of_lt (Nat.lt_of_lt_of_le (f132_0).lt (Nat.le_of_eq g134.symm))) nin0))))) K173 (ninS (Nat.ne_of_lt (Nat.lt_of_lt_of_le (c180).lt (Nat.le_of_eq g157.symm))) nin0))
    have O182 : Old Z n0 T173.heap := Old.keep O163 K173 (allS g_b157 all0)
    obtain ⟨cq183, kq183, q183a, q183b, q183c⟩ := isOf hZ173 (rfl : T173.heap = T173.heap) f173_0
    obtain ⟨_, _, ⟨T183, L183, k183, n183⟩, -, X183, ⟨Lc183, hQ183, l183, y183, z183⟩, st183⟩ := X173b.virtualBack hx (y := (⟨"com/example/done_once/doneonce/store/Request", "ended", "()Z"⟩ : MethodName)) (z := (⟨"com/example/done_once/doneonce/store/Request", "ended", "()Z"⟩ : MethodName)) hown173 (mvT hZ173 (hwk hw 79 rfl)) (mvT hZ173 (hwk hw 80 rfl)) (notFace_of_selects (args := #[]) (mvT hZ173 (hwk hw 82 rfl))) (mvT hZ173 (hwk hw 82 rfl)) (mvT hZ173 (hwk hw 81 rfl)) (by decide) (backOf (W := 0) (rm10j l Z a0 hw [] b157 b134 b129 (V12 ((p1 &&& (2147483647 : Int32)) % (6 : Int32)) w_JobState_QUEUED w_JobState_RUNNING w_JobState_SUCCEEDED w_JobState_FAILED w_JobState_TIMEOUT w_JobState_CANCELLED) (T12 ((p1 &&& (2147483647 : Int32)) % (6 : Int32))) T173.heap n0 O182 f173_2 c177 c178 c179 c181 f131_0 f131_1) hZ173 (hwk hw 83 rfl) (hwk hw 42 rfl) (by decide) (by decide)) q183a q183c (g := (mkF m 278 #[.val (.int p0), .val (.int p1), .val (.int p2), .val (.int p3), .val (.int p4), .val (.long p5), .second, .val (.int ((p0 &&& (2147483647 : Int32)) % (4 : Int32))), .val (.int ((p1 &&& (2147483647 : Int32)) % (6 : Int32))), .val (.ref (if (p2 &&& (1 : Int32)) = (0 : Int32) then w_RequestKind_JOB else w_RequestKind_EXECUTE)), .val (.ref (V1 (p3 &&& (3 : Int32)) w_Execution_PENDING w_Execution_NOT_EXECUTED w_Execution_EXECUTED w_Execution_UNKNOWN)), .val (.int (if (p4 &&& (1 : Int32)) = (0 : Int32) then (0 : Int32) else (1 : Int32))), .val (.int (if (p4 &&& (2 : Int32)) = (0 : Int32) then (0 : Int32) else (1 : Int32))), .val v117, .val v121, .val (.ref b_125), .val (.int (if ((p1 &&& (2147483647 : Int32)) % (6 : Int32)) < (2 : Int32) then (0 : Int32) else (1 : Int32))), .val (.ref b157), .val (.ref b129), .val (.ref b134)] [(.ref b157)])) rfl (by rw [hml]; rfl) (Steps.refl _) (argsL := []) (rest := []) (lenOf pd_5 rfl) rfl (by show 2 * 0 + _ ≤ _; exact Nat.le_of_eq rfl) (hb hby at_278) (fun _ _ => ⟨rfl, (rfl : T173.heap = T173.heap), (by decide : 37 + 0 ≤ _), (by decide : 891 + 0 ≤ _)⟩)
    dsimp only [Pt.U, Pt.locs, Pt.cells, Pt.slots] at X183 l183 y183 z183 st183 hQ183
    subst l183 y183 z183
    unfold Q_rm10j at hQ183
    obtain ⟨rfl, N183q, e183⟩ := hQ183
    have N183 := Fr.app N173 N183q
    have K184 : Keep h0 h117 [] := Keep.ext (Keep.refl h0 []) E117
    have K185 : Keep h0 h121 [] := Keep.ext K184 E121
    have K186 : Keep h0 T125.heap [] := Keep.trans K185 K125 all0
    have K187 : Keep h0 h129 [] := Keep.ext K186 E129
    have K188 : Keep h0 T132.heap [] := Keep.trans K187 K132 (allS (Or.inr (Nat.le_trans (Nat.le_trans (Nat.le_trans (Nat.le_trans (Nat.le_refl _) E117.1) E121.1) K125.1) (Nat.le_of_eq g129.symm))) all0)
    have K189 : Keep h0 h134 [] := Keep.ext K188 E134
    have K190 : Keep h0 h135 [] := Keep.ext K189 E135
    have K191 : Keep h0 h136 [] := Keep.ext K190 E136
    have K192 : Keep h0 h137 [] := Keep.ext K191 E137
    have K193 : Keep h0 h138 [] := Keep.ext K192 E138
    have K194 : Keep h0 T155.heap [] := Keep.trans K193 K155 (allS (Or.inr (Nat.le_trans (Nat.le_trans (Nat.le_trans (Nat.le_trans (Nat.le_trans (Nat.le_trans (Nat.le_refl _) E117.1) E121.1) K125.1) E129.1) K132.1) (Nat.le_of_eq g134.symm))) all0)
    have K195 : Keep h0 h157 [] := Keep.ext K194 E157
    have K196 : Keep h0 h158 [] := Keep.ext K195 E158
    have K197 : Keep h0 h159 [] := Keep.ext K196 E159
    have K198 : Keep h0 T173.heap [] := Keep.trans K197 K173 (allS (Or.inr (Nat.le_trans (Nat.le_trans (Nat.le_trans (Nat.le_trans (Nat.le_trans (Nat.le_trans (Nat.le_trans (Nat.le_trans (Nat.le_trans (Nat.le_trans (Nat.le_trans (Nat.le_trans (Nat.le_refl _) E117.1) E121.1) K125.1) E129.1) K132.1) E134.1) E135.1) E136.1) E137.1) E138.1) K155.1) (Nat.le_of_eq g157.symm))) all0)
    obtain ⟨fs, hr, hrun, hended, hRE⟩ := X183.leaveW hS173 (show _ ≤ T183.heap.size from by rw [e183]; exact (Nat.le_refl _)) (v := some (.int (1 : Int32))) (fun h => by rw [Bd.returns] at h; cases h)
    refine ⟨_, _, S176 _ ?_, hrun, hended, _, _, rfl, ?_, hRE.1, hRE.2.1, hRE.2.2.1, hRE.2.2.2.mono (by decide) (by decide)⟩
    · show Steps p.tables e below (T173.setTop (mkF m 205 #[.val (.int p0), .val (.int p1), .val (.int p2), .val (.int p3), .val (.int p4), .val (.long p5), .second, .val (.int ((p0 &&& (2147483647 : Int32)) % (4 : Int32))), .val (.int ((p1 &&& (2147483647 : Int32)) % (6 : Int32))), .val (.ref (if (p2 &&& (1 : Int32)) = (0 : Int32) then w_RequestKind_JOB else w_RequestKind_EXECUTE)), .val (.ref (V1 (p3 &&& (3 : Int32)) w_Execution_PENDING w_Execution_NOT_EXECUTED w_Execution_EXECUTED w_Execution_UNKNOWN)), .val (.int (if (p4 &&& (1 : Int32)) = (0 : Int32) then (0 : Int32) else (1 : Int32))), .val (.int (if (p4 &&& (2 : Int32)) = (0 : Int32) then (0 : Int32) else (1 : Int32))), .val v117, .val v121, .val (.ref b_125), .unset, .val (.ref b157), .val (.ref b129), .val (.ref b134)] [(.int (if ((p1 &&& (2147483647 : Int32)) % (6 : Int32)) < (2 : Int32) then (0 : Int32) else (1 : Int32)))])) _
      refine XS.istore X173b.here hx rfl (hb hby at_205) rfl (l' := #[.val (.int p0), .val (.int p1), .val (.int p2), .val (.int p3), .val (.int p4), .val (.long p5), .second, .val (.int ((p0 &&& (2147483647 : Int32)) % (4 : Int32))), .val (.int ((p1 &&& (2147483647 : Int32)) % (6 : Int32))), .val (.ref (if (p2 &&& (1 : Int32)) = (0 : Int32) then w_RequestKind_JOB else w_RequestKind_EXECUTE)), .val (.ref (V1 (p3 &&& (3 : Int32)) w_Execution_PENDING w_Execution_NOT_EXECUTED w_Execution_EXECUTED w_Execution_UNKNOWN)), .val (.int (if (p4 &&& (1 : Int32)) = (0 : Int32) then (0 : Int32) else (1 : Int32))), .val (.int (if (p4 &&& (2 : Int32)) = (0 : Int32) then (0 : Int32) else (1 : Int32))), .val v117, .val v121, .val (.ref b_125), .val (.int (if ((p1 &&& (2147483647 : Int32)) % (6 : Int32)) < (2 : Int32) then (0 : Int32) else (1 : Int32))), .val (.ref b157), .val (.ref b129), .val (.ref b134)]) rfl ?_
      show Steps p.tables e below (T173.setTop (mkF m 207 #[.val (.int p0), .val (.int p1), .val (.int p2), .val (.int p3), .val (.int p4), .val (.long p5), .second, .val (.int ((p0 &&& (2147483647 : Int32)) % (4 : Int32))), .val (.int ((p1 &&& (2147483647 : Int32)) % (6 : Int32))), .val (.ref (if (p2 &&& (1 : Int32)) = (0 : Int32) then w_RequestKind_JOB else w_RequestKind_EXECUTE)), .val (.ref (V1 (p3 &&& (3 : Int32)) w_Execution_PENDING w_Execution_NOT_EXECUTED w_Execution_EXECUTED w_Execution_UNKNOWN)), .val (.int (if (p4 &&& (1 : Int32)) = (0 : Int32) then (0 : Int32) else (1 : Int32))), .val (.int (if (p4 &&& (2 : Int32)) = (0 : Int32) then (0 : Int32) else (1 : Int32))), .val v117, .val v121, .val (.ref b_125), .val (.int (if ((p1 &&& (2147483647 : Int32)) % (6 : Int32)) < (2 : Int32) then (0 : Int32) else (1 : Int32))), .val (.ref b157), .val (.ref b129), .val (.ref b134)] [])) _
      refine XS.goto X173b.here hx rfl (pc0 := 207) (pc' := 276) rfl (hb hby at_207) (by decide) (by decide) ?_
      show Steps p.tables e below (T173.setTop (mkF m 276 #[.val (.int p0), .val (.int p1), .val (.int p2), .val (.int p3), .val (.int p4), .val (.long p5), .second, .val (.int ((p0 &&& (2147483647 : Int32)) % (4 : Int32))), .val (.int ((p1 &&& (2147483647 : Int32)) % (6 : Int32))), .val (.ref (if (p2 &&& (1 : Int32)) = (0 : Int32) then w_RequestKind_JOB else w_RequestKind_EXECUTE)), .val (.ref (V1 (p3 &&& (3 : Int32)) w_Execution_PENDING w_Execution_NOT_EXECUTED w_Execution_EXECUTED w_Execution_UNKNOWN)), .val (.int (if (p4 &&& (1 : Int32)) = (0 : Int32) then (0 : Int32) else (1 : Int32))), .val (.int (if (p4 &&& (2 : Int32)) = (0 : Int32) then (0 : Int32) else (1 : Int32))), .val v117, .val v121, .val (.ref b_125), .val (.int (if ((p1 &&& (2147483647 : Int32)) % (6 : Int32)) < (2 : Int32) then (0 : Int32) else (1 : Int32))), .val (.ref b157), .val (.ref b129), .val (.ref b134)] [])) _
      refine XS.aload X173b.here hx rfl (hb hby at_276) rfl rfl ?_
      show Steps p.tables e below (T173.setTop (mkF m 278 #[.val (.int p0), .val (.int p1), .val (.int p2), .val (.int p3), .val (.int p4), .val (.long p5), .second, .val (.int ((p0 &&& (2147483647 : Int32)) % (4 : Int32))), .val (.int ((p1 &&& (2147483647 : Int32)) % (6 : Int32))), .val (.ref (if (p2 &&& (1 : Int32)) = (0 : Int32) then w_RequestKind_JOB else w_RequestKind_EXECUTE)), .val (.ref (V1 (p3 &&& (3 : Int32)) w_Execution_PENDING w_Execution_NOT_EXECUTED w_Execution_EXECUTED w_Execution_UNKNOWN)), .val (.int (if (p4 &&& (1 : Int32)) = (0 : Int32) then (0 : Int32) else (1 : Int32))), .val (.int (if (p4 &&& (2 : Int32)) = (0 : Int32) then (0 : Int32) else (1 : Int32))), .val v117, .val v121, .val (.ref b_125), .val (.int (if ((p1 &&& (2147483647 : Int32)) % (6 : Int32)) < (2 : Int32) then (0 : Int32) else (1 : Int32))), .val (.ref b157), .val (.ref b129), .val (.ref b134)] [(.ref b157)])) _
      refine st183.trans ?_
      show Steps p.tables e below (T183.setTop (mkF m 281 #[.val (.int p0), .val (.int p1), .val (.int p2), .val (.int p3), .val (.int p4), .val (.long p5), .second, .val (.int ((p0 &&& (2147483647 : Int32)) % (4 : Int32))), .val (.int ((p1 &&& (2147483647 : Int32)) % (6 : Int32))), .val (.ref (if (p2 &&& (1 : Int32)) = (0 : Int32) then w_RequestKind_JOB else w_RequestKind_EXECUTE)), .val (.ref (V1 (p3 &&& (3 : Int32)) w_Execution_PENDING w_Execution_NOT_EXECUTED w_Execution_EXECUTED w_Execution_UNKNOWN)), .val (.int (if (p4 &&& (1 : Int32)) = (0 : Int32) then (0 : Int32) else (1 : Int32))), .val (.int (if (p4 &&& (2 : Int32)) = (0 : Int32) then (0 : Int32) else (1 : Int32))), .val v117, .val v121, .val (.ref b_125), .val (.int (if ((p1 &&& (2147483647 : Int32)) % (6 : Int32)) < (2 : Int32) then (0 : Int32) else (1 : Int32))), .val (.ref b157), .val (.ref b129), .val (.ref b134)] [(.int (nar .boolean (nar .boolean (T12 ((p1 &&& (2147483647 : Int32)) % (6 : Int32))))))])) _
      refine XS.iload X183.here hx rfl (hb hby at_281) rfl ?_
      show Steps p.tables e below (T183.setTop (mkF m 283 #[.val (.int p0), .val (.int p1), .val (.int p2), .val (.int p3), .val (.int p4), .val (.long p5), .second, .val (.int ((p0 &&& (2147483647 : Int32)) % (4 : Int32))), .val (.int ((p1 &&& (2147483647 : Int32)) % (6 : Int32))), .val (.ref (if (p2 &&& (1 : Int32)) = (0 : Int32) then w_RequestKind_JOB else w_RequestKind_EXECUTE)), .val (.ref (V1 (p3 &&& (3 : Int32)) w_Execution_PENDING w_Execution_NOT_EXECUTED w_Execution_EXECUTED w_Execution_UNKNOWN)), .val (.int (if (p4 &&& (1 : Int32)) = (0 : Int32) then (0 : Int32) else (1 : Int32))), .val (.int (if (p4 &&& (2 : Int32)) = (0 : Int32) then (0 : Int32) else (1 : Int32))), .val v117, .val v121, .val (.ref b_125), .val (.int (if ((p1 &&& (2147483647 : Int32)) % (6 : Int32)) < (2 : Int32) then (0 : Int32) else (1 : Int32))), .val (.ref b157), .val (.ref b129), .val (.ref b134)] [(.int (if ((p1 &&& (2147483647 : Int32)) % (6 : Int32)) < (2 : Int32) then (0 : Int32) else (1 : Int32))), (.int (nar .boolean (nar .boolean (T12 ((p1 &&& (2147483647 : Int32)) % (6 : Int32))))))])) _
      refine XS.icmpNo X183.here hx rfl (hb hby at_283) rfl (teq (own_job _ (own_rem p1 6 (by decide)).1 : (nar .boolean (nar .boolean (T12 ((p1 &&& (2147483647 : Int32)) % (6 : Int32))))) = (if ((p1 &&& (2147483647 : Int32)) % (6 : Int32)) < (2 : Int32) then (0 : Int32) else (1 : Int32)))).2 ?_
      show Steps p.tables e below (T183.setTop (mkF m 286 #[.val (.int p0), .val (.int p1), .val (.int p2), .val (.int p3), .val (.int p4), .val (.long p5), .second, .val (.int ((p0 &&& (2147483647 : Int32)) % (4 : Int32))), .val (.int ((p1 &&& (2147483647 : Int32)) % (6 : Int32))), .val (.ref (if (p2 &&& (1 : Int32)) = (0 : Int32) then w_RequestKind_JOB else w_RequestKind_EXECUTE)), .val (.ref (V1 (p3 &&& (3 : Int32)) w_Execution_PENDING w_Execution_NOT_EXECUTED w_Execution_EXECUTED w_Execution_UNKNOWN)), .val (.int (if (p4 &&& (1 : Int32)) = (0 : Int32) then (0 : Int32) else (1 : Int32))), .val (.int (if (p4 &&& (2 : Int32)) = (0 : Int32) then (0 : Int32) else (1 : Int32))), .val v117, .val v121, .val (.ref b_125), .val (.int (if ((p1 &&& (2147483647 : Int32)) % (6 : Int32)) < (2 : Int32) then (0 : Int32) else (1 : Int32))), .val (.ref b157), .val (.ref b129), .val (.ref b134)] [])) _
      refine XS.iconst X183.here hx rfl (hb hby at_286) ?_
      show Steps p.tables e below (T183.setTop (mkF m 287 #[.val (.int p0), .val (.int p1), .val (.int p2), .val (.int p3), .val (.int p4), .val (.long p5), .second, .val (.int ((p0 &&& (2147483647 : Int32)) % (4 : Int32))), .val (.int ((p1 &&& (2147483647 : Int32)) % (6 : Int32))), .val (.ref (if (p2 &&& (1 : Int32)) = (0 : Int32) then w_RequestKind_JOB else w_RequestKind_EXECUTE)), .val (.ref (V1 (p3 &&& (3 : Int32)) w_Execution_PENDING w_Execution_NOT_EXECUTED w_Execution_EXECUTED w_Execution_UNKNOWN)), .val (.int (if (p4 &&& (1 : Int32)) = (0 : Int32) then (0 : Int32) else (1 : Int32))), .val (.int (if (p4 &&& (2 : Int32)) = (0 : Int32) then (0 : Int32) else (1 : Int32))), .val v117, .val v121, .val (.ref b_125), .val (.int (if ((p1 &&& (2147483647 : Int32)) % (6 : Int32)) < (2 : Int32) then (0 : Int32) else (1 : Int32))), .val (.ref b157), .val (.ref b129), .val (.ref b134)] [(.int (1 : Int32))])) _
      refine XS.goto X183.here hx rfl (pc0 := 287) (pc' := 291) rfl (hb hby at_287) (by decide) (by decide) ?_
      show Steps p.tables e below (T183.setTop (mkF m 291 #[.val (.int p0), .val (.int p1), .val (.int p2), .val (.int p3), .val (.int p4), .val (.long p5), .second, .val (.int ((p0 &&& (2147483647 : Int32)) % (4 : Int32))), .val (.int ((p1 &&& (2147483647 : Int32)) % (6 : Int32))), .val (.ref (if (p2 &&& (1 : Int32)) = (0 : Int32) then w_RequestKind_JOB else w_RequestKind_EXECUTE)), .val (.ref (V1 (p3 &&& (3 : Int32)) w_Execution_PENDING w_Execution_NOT_EXECUTED w_Execution_EXECUTED w_Execution_UNKNOWN)), .val (.int (if (p4 &&& (1 : Int32)) = (0 : Int32) then (0 : Int32) else (1 : Int32))), .val (.int (if (p4 &&& (2 : Int32)) = (0 : Int32) then (0 : Int32) else (1 : Int32))), .val v117, .val v121, .val (.ref b_125), .val (.int (if ((p1 &&& (2147483647 : Int32)) % (6 : Int32)) < (2 : Int32) then (0 : Int32) else (1 : Int32))), .val (.ref b157), .val (.ref b129), .val (.ref b134)] [(.int (1 : Int32))])) _
      exact Jvm.RoadKit.retOut X183 hx Bd.returns rfl (Or.inl ⟨rfl, by simp, _, rfl⟩) (hb hby at_291) hr
    · show Q_rm0 Z p0 p1 p2 p3 p4 p5 w_JobState_QUEUED w_JobState_FAILED w_JobState_RUNNING w_JobState_TIMEOUT w_RequestKind_JOB w_Execution_PENDING w_JobState_SUCCEEDED w_Execution_UNKNOWN w_JobState_CANCELLED w_Execution_EXECUTED w_RequestKind_EXECUTE w_Execution_NOT_EXECUTED w_RequestState_FAILED w_RequestState_SUCCEEDED w_RequestState_CANCELLED w_RequestState_WAITING_READY zc h0 n0 _ T183.heap _
      rw [e183]
      unfold Q_rm0
      exact ⟨rfl, N183, K198⟩
  · have S200 : ∀ t, Steps p.tables e below (T125.setTop (mkF m 212 #[.val (.int p0), .val (.int p1), .val (.int p2), .val (.int p3), .val (.int p4), .val (.long p5), .second, .val (.int ((p0 &&& (2147483647 : Int32)) % (4 : Int32))), .val (.int ((p1 &&& (2147483647 : Int32)) % (6 : Int32))), .val (.ref (if (p2 &&& (1 : Int32)) = (0 : Int32) then w_RequestKind_JOB else w_RequestKind_EXECUTE)), .val (.ref (V1 (p3 &&& (3 : Int32)) w_Execution_PENDING w_Execution_NOT_EXECUTED w_Execution_EXECUTED w_Execution_UNKNOWN)), .val (.int (if (p4 &&& (1 : Int32)) = (0 : Int32) then (0 : Int32) else (1 : Int32))), .val (.int (if (p4 &&& (2 : Int32)) = (0 : Int32) then (0 : Int32) else (1 : Int32))), .val v117, .val v121, .val (.ref b_125), .unset, .unset, .unset, .unset] [(.int ((p0 &&& (2147483647 : Int32)) % (4 : Int32)))])) t → Steps p.tables e below (s₁.setTop (entryFrame m #[(.int p0), (.int p1), (.int p2), (.int p3), (.int p4), (.long p5)] maxLocals)) t := fun t k => by
      refine S127 t ?_
      show Steps p.tables e below (T125.setTop (mkF m 119 #[.val (.int p0), .val (.int p1), .val (.int p2), .val (.int p3), .val (.int p4), .val (.long p5), .second, .val (.int ((p0 &&& (2147483647 : Int32)) % (4 : Int32))), .val (.int ((p1 &&& (2147483647 : Int32)) % (6 : Int32))), .val (.ref (if (p2 &&& (1 : Int32)) = (0 : Int32) then w_RequestKind_JOB else w_RequestKind_EXECUTE)), .val (.ref (V1 (p3 &&& (3 : Int32)) w_Execution_PENDING w_Execution_NOT_EXECUTED w_Execution_EXECUTED w_Execution_UNKNOWN)), .val (.int (if (p4 &&& (1 : Int32)) = (0 : Int32) then (0 : Int32) else (1 : Int32))), .val (.int (if (p4 &&& (2 : Int32)) = (0 : Int32) then (0 : Int32) else (1 : Int32))), .val v117, .val v121, .val (.ref b_125), .unset, .unset, .unset, .unset] [(.int (1 : Int32)), (.int ((p0 &&& (2147483647 : Int32)) % (4 : Int32)))])) _
      refine XS.icmpYes X125.here hx rfl (pc0 := 119) (pc' := 210) rfl (hb hby at_119) rfl (feq hc126).2 (by decide) (by decide) ?_
      show Steps p.tables e below (T125.setTop (mkF m 210 #[.val (.int p0), .val (.int p1), .val (.int p2), .val (.int p3), .val (.int p4), .val (.long p5), .second, .val (.int ((p0 &&& (2147483647 : Int32)) % (4 : Int32))), .val (.int ((p1 &&& (2147483647 : Int32)) % (6 : Int32))), .val (.ref (if (p2 &&& (1 : Int32)) = (0 : Int32) then w_RequestKind_JOB else w_RequestKind_EXECUTE)), .val (.ref (V1 (p3 &&& (3 : Int32)) w_Execution_PENDING w_Execution_NOT_EXECUTED w_Execution_EXECUTED w_Execution_UNKNOWN)), .val (.int (if (p4 &&& (1 : Int32)) = (0 : Int32) then (0 : Int32) else (1 : Int32))), .val (.int (if (p4 &&& (2 : Int32)) = (0 : Int32) then (0 : Int32) else (1 : Int32))), .val v117, .val v121, .val (.ref b_125), .unset, .unset, .unset, .unset] [])) _
      refine XS.iload X125.here hx rfl (hb hby at_210) rfl ?_
      exact k
    by_cases hc199 : ((p0 &&& (2147483647 : Int32)) % (4 : Int32)) = (0 : Int32)
    · have O202 : Old Z n0 T125.heap := Old.keep O124 K125 all0
      have c201 : Sta Z T125.heap "com/example/done_once/doneonce/core/RequestState" "WAITING_READY" "Lcom/example/done_once/doneonce/core/RequestState;" (.ref w_RequestState_WAITING_READY) := Sta.ext (O202).2 S_RequestState_WAITING_READY
      obtain ⟨T203, X203, e203, st203⟩ := getS2 X125 hx hZ121 hown121 (host := "") (Or.inl (hwk hw 37 rfl)) Via.refl (rfl : T125.heap = T125.heap) c201 (g := (mkF m 215 #[.val (.int p0), .val (.int p1), .val (.int p2), .val (.int p3), .val (.int p4), .val (.long p5), .second, .val (.int ((p0 &&& (2147483647 : Int32)) % (4 : Int32))), .val (.int ((p1 &&& (2147483647 : Int32)) % (6 : Int32))), .val (.ref (if (p2 &&& (1 : Int32)) = (0 : Int32) then w_RequestKind_JOB else w_RequestKind_EXECUTE)), .val (.ref (V1 (p3 &&& (3 : Int32)) w_Execution_PENDING w_Execution_NOT_EXECUTED w_Execution_EXECUTED w_Execution_UNKNOWN)), .val (.int (if (p4 &&& (1 : Int32)) = (0 : Int32) then (0 : Int32) else (1 : Int32))), .val (.int (if (p4 &&& (2 : Int32)) = (0 : Int32) then (0 : Int32) else (1 : Int32))), .val v117, .val v121, .val (.ref b_125), .unset, .unset, .unset, .unset] [])) rfl (hb hby at_215)
      obtain ⟨T204, h204, X204, e204, E204, A204, D204, -, st204⟩ := newO X203 hx hZ121 hown121 (hwk hw 40 rfl) (hwk hw 41 rfl) (hwk hw 42 rfl) e203 (g := (mkF m 242 #[.val (.int p0), .val (.int p1), .val (.int p2), .val (.int p3), .val (.int p4), .val (.long p5), .second, .val (.int ((p0 &&& (2147483647 : Int32)) % (4 : Int32))), .val (.int ((p1 &&& (2147483647 : Int32)) % (6 : Int32))), .val (.ref (if (p2 &&& (1 : Int32)) = (0 : Int32) then w_RequestKind_JOB else w_RequestKind_EXECUTE)), .val (.ref (V1 (p3 &&& (3 : Int32)) w_Execution_PENDING w_Execution_NOT_EXECUTED w_Execution_EXECUTED w_Execution_UNKNOWN)), .val (.int (if (p4 &&& (1 : Int32)) = (0 : Int32) then (0 : Int32) else (1 : Int32))), .val (.int (if (p4 &&& (2 : Int32)) = (0 : Int32) then (0 : Int32) else (1 : Int32))), .val v117, .val v121, .val (.ref b_125), .unset, .unset, .val (.ref w_RequestState_WAITING_READY), .unset] [])) rfl (hb hby at_242) (by decide) (by decide)
      obtain ⟨b204, g204⟩ : ∃ z, z = T125.heap.size := ⟨_, rfl⟩
      rw [← g204] at A204 D204 st204
      have g_b204 : n0 ≤ b204 := Nat.le_trans (old_le O202) (Nat.le_of_eq g204.symm)
      obtain ⟨a205, T205, h205, k205, X205, e205, E205, hS205, hk205, hZ205, hown205, st205⟩ := ldcS X204 hx hZ121 hown121 (hwk hw 43 rfl) hstr e204 hS121 (Nat.le_trans hk121 (Nat.le_trans (Nat.le_trans (Nat.le_refl _) K125.1) E204.1)) (g := (mkF m 250 #[.val (.int p0), .val (.int p1), .val (.int p2), .val (.int p3), .val (.int p4), .val (.long p5), .second, .val (.int ((p0 &&& (2147483647 : Int32)) % (4 : Int32))), .val (.int ((p1 &&& (2147483647 : Int32)) % (6 : Int32))), .val (.ref (if (p2 &&& (1 : Int32)) = (0 : Int32) then w_RequestKind_JOB else w_RequestKind_EXECUTE)), .val (.ref (V1 (p3 &&& (3 : Int32)) w_Execution_PENDING w_Execution_NOT_EXECUTED w_Execution_EXECUTED w_Execution_UNKNOWN)), .val (.int (if (p4 &&& (1 : Int32)) = (0 : Int32) then (0 : Int32) else (1 : Int32))), .val (.int (if (p4 &&& (2 : Int32)) = (0 : Int32) then (0 : Int32) else (1 : Int32))), .val v117, .val v121, .val (.ref b_125), .unset, .unset, .val (.ref w_RequestState_WAITING_READY), .unset] [(.ref (if (p2 &&& (1 : Int32)) = (0 : Int32) then w_RequestKind_JOB else w_RequestKind_EXECUTE)), (.ref b_125), (.ref b204), (.ref b204)])) rfl (hb hby at_250) (n := 4) (by decide) (by decide) (by decide) (by decide)
      obtain ⟨a206, T206, h206, k206, X206, e206, E206, hS206, hk206, hZ206, hown206, st206⟩ := ldcS X205 hx hZ205 hown205 (hwk hw 46 rfl) hstr e205 hS205 hk205 (g := (mkF m 252 #[.val (.int p0), .val (.int p1), .val (.int p2), .val (.int p3), .val (.int p4), .val (.long p5), .second, .val (.int ((p0 &&& (2147483647 : Int32)) % (4 : Int32))), .val (.int ((p1 &&& (2147483647 : Int32)) % (6 : Int32))), .val (.ref (if (p2 &&& (1 : Int32)) = (0 : Int32) then w_RequestKind_JOB else w_RequestKind_EXECUTE)), .val (.ref (V1 (p3 &&& (3 : Int32)) w_Execution_PENDING w_Execution_NOT_EXECUTED w_Execution_EXECUTED w_Execution_UNKNOWN)), .val (.int (if (p4 &&& (1 : Int32)) = (0 : Int32) then (0 : Int32) else (1 : Int32))), .val (.int (if (p4 &&& (2 : Int32)) = (0 : Int32) then (0 : Int32) else (1 : Int32))), .val v117, .val v121, .val (.ref b_125), .unset, .unset, .val (.ref w_RequestState_WAITING_READY), .unset] [(.ref a205), (.ref (if (p2 &&& (1 : Int32)) = (0 : Int32) then w_RequestKind_JOB else w_RequestKind_EXECUTE)), (.ref b_125), (.ref b204), (.ref b204)])) rfl (hb hby at_252) (n := 4) (by decide) (by decide) (by decide) (by decide)
      have c207 : Exa Z h206 b204 "com/example/done_once/doneonce/store/Request" := (Exa.ext E206 (Exa.ext E205 A204))
      have c208 : Fld Z h206 b204 "com/example/done_once/doneonce/store/Request" "requestId" "Ljava/lang/String;" .null := (Fld.ext E206 (Fld.ext E205 (show Fld Z h204 b204 "com/example/done_once/doneonce/store/Request" "requestId" "Ljava/lang/String;" .null from D204 (Or.inr (hwk hw 66 rfl)) (ty := (.object "java/lang/String")) (by decide))))
      have c209 : Fld Z h206 b204 "com/example/done_once/doneonce/store/Request" "kind" "Lcom/example/done_once/doneonce/core/RequestKind;" .null := (Fld.ext E206 (Fld.ext E205 (show Fld Z h204 b204 "com/example/done_once/doneonce/store/Request" "kind" "Lcom/example/done_once/doneonce/core/RequestKind;" .null from D204 (Or.inr (hwk hw 68 rfl)) (ty := (.object "com/example/done_once/doneonce/core/RequestKind")) (by decide))))
      have c210 : Fld Z h206 b204 "com/example/done_once/doneonce/store/Request" "lane" "Ljava/lang/String;" .null := (Fld.ext E206 (Fld.ext E205 (show Fld Z h204 b204 "com/example/done_once/doneonce/store/Request" "lane" "Ljava/lang/String;" .null from D204 (Or.inr (hwk hw 70 rfl)) (ty := (.object "java/lang/String")) (by decide))))
      have c211 : Fld Z h206 b204 "com/example/done_once/doneonce/store/Request" "tool" "Ljava/lang/String;" .null := (Fld.ext E206 (Fld.ext E205 (show Fld Z h204 b204 "com/example/done_once/doneonce/store/Request" "tool" "Ljava/lang/String;" .null from D204 (Or.inr (hwk hw 72 rfl)) (ty := (.object "java/lang/String")) (by decide))))
      have c212 : Fld Z h206 b204 "com/example/done_once/doneonce/store/Request" "state" "Lcom/example/done_once/doneonce/core/RequestState;" .null := (Fld.ext E206 (Fld.ext E205 (show Fld Z h204 b204 "com/example/done_once/doneonce/store/Request" "state" "Lcom/example/done_once/doneonce/core/RequestState;" .null from D204 (Or.inr (hwk hw 74 rfl)) (ty := (.object "com/example/done_once/doneonce/core/RequestState")) (by decide))))
      have c213 : Fld Z h206 b204 "com/example/done_once/doneonce/store/Request" "error" "Ljava/lang/String;" .null := (Fld.ext E206 (Fld.ext E205 (show Fld Z h204 b204 "com/example/done_once/doneonce/store/Request" "error" "Ljava/lang/String;" .null from D204 (Or.inr (hwk hw 76 rfl)) (ty := (.object "java/lang/String")) (by decide))))
      have c214 : Fld Z h206 b204 "com/example/done_once/doneonce/store/Request" "job" "Lcom/example/done_once/doneonce/store/Job;" .null := (Fld.ext E206 (Fld.ext E205 (show Fld Z h204 b204 "com/example/done_once/doneonce/store/Request" "job" "Lcom/example/done_once/doneonce/store/Job;" .null from D204 (Or.inr (hwk hw 78 rfl)) (ty := (.object "com/example/done_once/doneonce/store/Job")) (by decide))))
      have O215 : Old Z n0 h204 := Old.ext O202 E204
      have O216 : Old Z n0 h205 := Old.ext O215 E205
      have O217 : Old Z n0 h206 := Old.ext O216 E206
      obtain ⟨_, _, ⟨T218, L218, k218, n218⟩, -, X218, hs218', hg218', ⟨Lc218, hQ218, l218, y218, z218⟩, st218⟩ := X206.specialBackS hx (y := (⟨"com/example/done_once/doneonce/store/Request", "<init>", "(Ljava/lang/String;Lcom/example/done_once/doneonce/core/RequestKind;Ljava/lang/String;Ljava/lang/String;Lcom/example/done_once/doneonce/core/RequestState;Ljava/lang/String;Lcom/example/done_once/doneonce/store/Job;)V"⟩ : MethodName)) rfl hown206 (mvT hZ206 (hwk hw 47 rfl)) (mvT hZ206 (hwk hw 48 rfl)) (mvT hZ206 (hwk hw 49 rfl)) (by decide) (backOfS (W := 1) (rm7n l Z a0 hw [] b204 b_125 (if (p2 &&& (1 : Int32)) = (0 : Int32) then w_RequestKind_JOB else w_RequestKind_EXECUTE) a205 a206 w_RequestState_WAITING_READY v117 w_RequestState_SUCCEEDED h206 n0 O217 c207 g_b204 c208 c209 c210 c211 c212 c213 c214 hv117 S_RequestState_SUCCEEDED (Fld.ne F_w_RequestState_WAITING_READY_ordinal F_w_RequestState_SUCCEEDED_ordinal (by simp))) hZ206 (hwk hw 49 rfl) (hwk hw 42 rfl) (by decide) (by decide)) (g := (mkF m 259 #[.val (.int p0), .val (.int p1), .val (.int p2), .val (.int p3), .val (.int p4), .val (.long p5), .second, .val (.int ((p0 &&& (2147483647 : Int32)) % (4 : Int32))), .val (.int ((p1 &&& (2147483647 : Int32)) % (6 : Int32))), .val (.ref (if (p2 &&& (1 : Int32)) = (0 : Int32) then w_RequestKind_JOB else w_RequestKind_EXECUTE)), .val (.ref (V1 (p3 &&& (3 : Int32)) w_Execution_PENDING w_Execution_NOT_EXECUTED w_Execution_EXECUTED w_Execution_UNKNOWN)), .val (.int (if (p4 &&& (1 : Int32)) = (0 : Int32) then (0 : Int32) else (1 : Int32))), .val (.int (if (p4 &&& (2 : Int32)) = (0 : Int32) then (0 : Int32) else (1 : Int32))), .val v117, .val v121, .val (.ref b_125), .unset, .unset, .val (.ref w_RequestState_WAITING_READY), .unset] [.null, v117, (.ref w_RequestState_WAITING_READY), (.ref a206), (.ref a205), (.ref (if (p2 &&& (1 : Int32)) = (0 : Int32) then w_RequestKind_JOB else w_RequestKind_EXECUTE)), (.ref b_125), (.ref b204), (.ref b204)])) rfl (by rw [hml]; rfl) (Steps.refl _) (a := b204) (argsL := [(.ref b_125), (.ref (if (p2 &&& (1 : Int32)) = (0 : Int32) then w_RequestKind_JOB else w_RequestKind_EXECUTE)), (.ref a205), (.ref a206), (.ref w_RequestState_WAITING_READY), v117, .null]) (rest := [(.ref b204)]) (lenOf pd_13 rfl) rfl (by show 2 * 0 + _ ≤ _; exact Nat.le_of_eq rfl) (hb hby at_259) (fun _ _ => ⟨rfl, e206, (by decide : 11 + 6 ≤ _), (by decide : 44 + 292 ≤ _)⟩)
      dsimp only [Pt.U, Pt.locs, Pt.cells, Pt.slots] at X218 l218 y218 z218 st218 hQ218 hs218' hg218'
      subst l218 y218 z218
      obtain ⟨X218b, hS218, hZ218, hown218⟩ := rebS hS206 (show _ ≤ T206.heap.size from by rw [e206]; exact hk206) X218 hs218' hg218' hZ206 hown206
      unfold Q_rm7n at hQ218
      obtain ⟨rfl, N218q, K218, f218_0, f218_1, f218_2⟩ := hQ218
      have N218 := Fr.app N125 N218q
      have O219 : Old Z n0 T218.heap := Old.keep O217 K218 (allS g_b204 all0)
      obtain ⟨cq220, kq220, q220a, q220b, q220c⟩ := isOf hZ218 (rfl : T218.heap = T218.heap) f218_0
      obtain ⟨_, _, ⟨T220, L220, k220, n220⟩, -, X220, ⟨Lc220, hQ220, l220, y220, z220⟩, st220⟩ := X218b.virtualBack hx (y := (⟨"com/example/done_once/doneonce/store/Request", "ended", "()Z"⟩ : MethodName)) (z := (⟨"com/example/done_once/doneonce/store/Request", "ended", "()Z"⟩ : MethodName)) hown218 (mvT hZ218 (hwk hw 79 rfl)) (mvT hZ218 (hwk hw 80 rfl)) (notFace_of_selects (args := #[]) (mvT hZ218 (hwk hw 82 rfl))) (mvT hZ218 (hwk hw 82 rfl)) (mvT hZ218 (hwk hw 81 rfl)) (by decide) (backOf (W := 0) (rm10n l Z a0 hw [] b204 w_RequestState_WAITING_READY (0 : Int32) T218.heap n0 O219 f218_2 f218_1 E_w_RequestState_WAITING_READY F_w_RequestState_WAITING_READY_terminal) hZ218 (hwk hw 83 rfl) (hwk hw 42 rfl) (by decide) (by decide)) q220a q220c (g := (mkF m 278 #[.val (.int p0), .val (.int p1), .val (.int p2), .val (.int p3), .val (.int p4), .val (.long p5), .second, .val (.int ((p0 &&& (2147483647 : Int32)) % (4 : Int32))), .val (.int ((p1 &&& (2147483647 : Int32)) % (6 : Int32))), .val (.ref (if (p2 &&& (1 : Int32)) = (0 : Int32) then w_RequestKind_JOB else w_RequestKind_EXECUTE)), .val (.ref (V1 (p3 &&& (3 : Int32)) w_Execution_PENDING w_Execution_NOT_EXECUTED w_Execution_EXECUTED w_Execution_UNKNOWN)), .val (.int (if (p4 &&& (1 : Int32)) = (0 : Int32) then (0 : Int32) else (1 : Int32))), .val (.int (if (p4 &&& (2 : Int32)) = (0 : Int32) then (0 : Int32) else (1 : Int32))), .val v117, .val v121, .val (.ref b_125), .val (.int (0 : Int32)), .val (.ref b204), .val (.ref w_RequestState_WAITING_READY), .unset] [(.ref b204)])) rfl (by rw [hml]; rfl) (Steps.refl _) (argsL := []) (rest := []) (lenOf pd_5 rfl) rfl (by show 2 * 0 + _ ≤ _; exact Nat.le_of_eq rfl) (hb hby at_278) (fun _ _ => ⟨rfl, (rfl : T218.heap = T218.heap), (by decide : 17 + 0 ≤ _), (by decide : 336 + 0 ≤ _)⟩)
      dsimp only [Pt.U, Pt.locs, Pt.cells, Pt.slots] at X220 l220 y220 z220 st220 hQ220
      subst l220 y220 z220
      unfold Q_rm10n at hQ220
      obtain ⟨rfl, N220q, e220⟩ := hQ220
      have N220 := Fr.app N218 N220q
      have K221 : Keep h0 h117 [] := Keep.ext (Keep.refl h0 []) E117
      have K222 : Keep h0 h121 [] := Keep.ext K221 E121
      have K223 : Keep h0 T125.heap [] := Keep.trans K222 K125 all0
      have K224 : Keep h0 h204 [] := Keep.ext K223 E204
      have K225 : Keep h0 h205 [] := Keep.ext K224 E205
      have K226 : Keep h0 h206 [] := Keep.ext K225 E206
      have K227 : Keep h0 T218.heap [] := Keep.trans K226 K218 (allS (Or.inr (Nat.le_trans (Nat.le_trans (Nat.le_trans (Nat.le_trans (Nat.le_refl _) E117.1) E121.1) K125.1) (Nat.le_of_eq g204.symm))) all0)
      obtain ⟨fs, hr, hrun, hended, hRE⟩ := X220.leaveW hS218 (show _ ≤ T220.heap.size from by rw [e220]; exact (Nat.le_refl _)) (v := some (.int (1 : Int32))) (fun h => by rw [Bd.returns] at h; cases h)
      refine ⟨_, _, S200 _ ?_, hrun, hended, _, _, rfl, ?_, hRE.1, hRE.2.1, hRE.2.2.1, hRE.2.2.2.mono (by decide) (by decide)⟩
      · show Steps p.tables e below (T125.setTop (mkF m 212 #[.val (.int p0), .val (.int p1), .val (.int p2), .val (.int p3), .val (.int p4), .val (.long p5), .second, .val (.int ((p0 &&& (2147483647 : Int32)) % (4 : Int32))), .val (.int ((p1 &&& (2147483647 : Int32)) % (6 : Int32))), .val (.ref (if (p2 &&& (1 : Int32)) = (0 : Int32) then w_RequestKind_JOB else w_RequestKind_EXECUTE)), .val (.ref (V1 (p3 &&& (3 : Int32)) w_Execution_PENDING w_Execution_NOT_EXECUTED w_Execution_EXECUTED w_Execution_UNKNOWN)), .val (.int (if (p4 &&& (1 : Int32)) = (0 : Int32) then (0 : Int32) else (1 : Int32))), .val (.int (if (p4 &&& (2 : Int32)) = (0 : Int32) then (0 : Int32) else (1 : Int32))), .val v117, .val v121, .val (.ref b_125), .unset, .unset, .unset, .unset] [(.int ((p0 &&& (2147483647 : Int32)) % (4 : Int32)))])) _
        refine XS.ifNo X125.here hx rfl (hb hby at_212) rfl ((if0 _ _).trans (teq hc199).2) ?_
        show Steps p.tables e below (T125.setTop (mkF m 215 #[.val (.int p0), .val (.int p1), .val (.int p2), .val (.int p3), .val (.int p4), .val (.long p5), .second, .val (.int ((p0 &&& (2147483647 : Int32)) % (4 : Int32))), .val (.int ((p1 &&& (2147483647 : Int32)) % (6 : Int32))), .val (.ref (if (p2 &&& (1 : Int32)) = (0 : Int32) then w_RequestKind_JOB else w_RequestKind_EXECUTE)), .val (.ref (V1 (p3 &&& (3 : Int32)) w_Execution_PENDING w_Execution_NOT_EXECUTED w_Execution_EXECUTED w_Execution_UNKNOWN)), .val (.int (if (p4 &&& (1 : Int32)) = (0 : Int32) then (0 : Int32) else (1 : Int32))), .val (.int (if (p4 &&& (2 : Int32)) = (0 : Int32) then (0 : Int32) else (1 : Int32))), .val v117, .val v121, .val (.ref b_125), .unset, .unset, .unset, .unset] [])) _
        refine st203 _ ?_
        show Steps p.tables e below (T203.setTop (mkF m 218 #[.val (.int p0), .val (.int p1), .val (.int p2), .val (.int p3), .val (.int p4), .val (.long p5), .second, .val (.int ((p0 &&& (2147483647 : Int32)) % (4 : Int32))), .val (.int ((p1 &&& (2147483647 : Int32)) % (6 : Int32))), .val (.ref (if (p2 &&& (1 : Int32)) = (0 : Int32) then w_RequestKind_JOB else w_RequestKind_EXECUTE)), .val (.ref (V1 (p3 &&& (3 : Int32)) w_Execution_PENDING w_Execution_NOT_EXECUTED w_Execution_EXECUTED w_Execution_UNKNOWN)), .val (.int (if (p4 &&& (1 : Int32)) = (0 : Int32) then (0 : Int32) else (1 : Int32))), .val (.int (if (p4 &&& (2 : Int32)) = (0 : Int32) then (0 : Int32) else (1 : Int32))), .val v117, .val v121, .val (.ref b_125), .unset, .unset, .unset, .unset] [(.ref w_RequestState_WAITING_READY)])) _
        refine XS.astore X203.here hx rfl (hb hby at_218) rfl rfl (l' := #[.val (.int p0), .val (.int p1), .val (.int p2), .val (.int p3), .val (.int p4), .val (.long p5), .second, .val (.int ((p0 &&& (2147483647 : Int32)) % (4 : Int32))), .val (.int ((p1 &&& (2147483647 : Int32)) % (6 : Int32))), .val (.ref (if (p2 &&& (1 : Int32)) = (0 : Int32) then w_RequestKind_JOB else w_RequestKind_EXECUTE)), .val (.ref (V1 (p3 &&& (3 : Int32)) w_Execution_PENDING w_Execution_NOT_EXECUTED w_Execution_EXECUTED w_Execution_UNKNOWN)), .val (.int (if (p4 &&& (1 : Int32)) = (0 : Int32) then (0 : Int32) else (1 : Int32))), .val (.int (if (p4 &&& (2 : Int32)) = (0 : Int32) then (0 : Int32) else (1 : Int32))), .val v117, .val v121, .val (.ref b_125), .unset, .unset, .val (.ref w_RequestState_WAITING_READY), .unset]) rfl ?_
        show Steps p.tables e below (T203.setTop (mkF m 220 #[.val (.int p0), .val (.int p1), .val (.int p2), .val (.int p3), .val (.int p4), .val (.long p5), .second, .val (.int ((p0 &&& (2147483647 : Int32)) % (4 : Int32))), .val (.int ((p1 &&& (2147483647 : Int32)) % (6 : Int32))), .val (.ref (if (p2 &&& (1 : Int32)) = (0 : Int32) then w_RequestKind_JOB else w_RequestKind_EXECUTE)), .val (.ref (V1 (p3 &&& (3 : Int32)) w_Execution_PENDING w_Execution_NOT_EXECUTED w_Execution_EXECUTED w_Execution_UNKNOWN)), .val (.int (if (p4 &&& (1 : Int32)) = (0 : Int32) then (0 : Int32) else (1 : Int32))), .val (.int (if (p4 &&& (2 : Int32)) = (0 : Int32) then (0 : Int32) else (1 : Int32))), .val v117, .val v121, .val (.ref b_125), .unset, .unset, .val (.ref w_RequestState_WAITING_READY), .unset] [])) _
        refine XS.goto X203.here hx rfl (pc0 := 220) (pc' := 242) rfl (hb hby at_220) (by decide) (by decide) ?_
        show Steps p.tables e below (T203.setTop (mkF m 242 #[.val (.int p0), .val (.int p1), .val (.int p2), .val (.int p3), .val (.int p4), .val (.long p5), .second, .val (.int ((p0 &&& (2147483647 : Int32)) % (4 : Int32))), .val (.int ((p1 &&& (2147483647 : Int32)) % (6 : Int32))), .val (.ref (if (p2 &&& (1 : Int32)) = (0 : Int32) then w_RequestKind_JOB else w_RequestKind_EXECUTE)), .val (.ref (V1 (p3 &&& (3 : Int32)) w_Execution_PENDING w_Execution_NOT_EXECUTED w_Execution_EXECUTED w_Execution_UNKNOWN)), .val (.int (if (p4 &&& (1 : Int32)) = (0 : Int32) then (0 : Int32) else (1 : Int32))), .val (.int (if (p4 &&& (2 : Int32)) = (0 : Int32) then (0 : Int32) else (1 : Int32))), .val v117, .val v121, .val (.ref b_125), .unset, .unset, .val (.ref w_RequestState_WAITING_READY), .unset] [])) _
        refine st204 _ ?_
        show Steps p.tables e below (T204.setTop (mkF m 245 #[.val (.int p0), .val (.int p1), .val (.int p2), .val (.int p3), .val (.int p4), .val (.long p5), .second, .val (.int ((p0 &&& (2147483647 : Int32)) % (4 : Int32))), .val (.int ((p1 &&& (2147483647 : Int32)) % (6 : Int32))), .val (.ref (if (p2 &&& (1 : Int32)) = (0 : Int32) then w_RequestKind_JOB else w_RequestKind_EXECUTE)), .val (.ref (V1 (p3 &&& (3 : Int32)) w_Execution_PENDING w_Execution_NOT_EXECUTED w_Execution_EXECUTED w_Execution_UNKNOWN)), .val (.int (if (p4 &&& (1 : Int32)) = (0 : Int32) then (0 : Int32) else (1 : Int32))), .val (.int (if (p4 &&& (2 : Int32)) = (0 : Int32) then (0 : Int32) else (1 : Int32))), .val v117, .val v121, .val (.ref b_125), .unset, .unset, .val (.ref w_RequestState_WAITING_READY), .unset] [(.ref b204)])) _
        refine XS.dup X204.here hx rfl (hb hby at_245) rfl rfl ?_
        show Steps p.tables e below (T204.setTop (mkF m 246 #[.val (.int p0), .val (.int p1), .val (.int p2), .val (.int p3), .val (.int p4), .val (.long p5), .second, .val (.int ((p0 &&& (2147483647 : Int32)) % (4 : Int32))), .val (.int ((p1 &&& (2147483647 : Int32)) % (6 : Int32))), .val (.ref (if (p2 &&& (1 : Int32)) = (0 : Int32) then w_RequestKind_JOB else w_RequestKind_EXECUTE)), .val (.ref (V1 (p3 &&& (3 : Int32)) w_Execution_PENDING w_Execution_NOT_EXECUTED w_Execution_EXECUTED w_Execution_UNKNOWN)), .val (.int (if (p4 &&& (1 : Int32)) = (0 : Int32) then (0 : Int32) else (1 : Int32))), .val (.int (if (p4 &&& (2 : Int32)) = (0 : Int32) then (0 : Int32) else (1 : Int32))), .val v117, .val v121, .val (.ref b_125), .unset, .unset, .val (.ref w_RequestState_WAITING_READY), .unset] [(.ref b204), (.ref b204)])) _
        refine XS.aload X204.here hx rfl (hb hby at_246) rfl rfl ?_
        show Steps p.tables e below (T204.setTop (mkF m 248 #[.val (.int p0), .val (.int p1), .val (.int p2), .val (.int p3), .val (.int p4), .val (.long p5), .second, .val (.int ((p0 &&& (2147483647 : Int32)) % (4 : Int32))), .val (.int ((p1 &&& (2147483647 : Int32)) % (6 : Int32))), .val (.ref (if (p2 &&& (1 : Int32)) = (0 : Int32) then w_RequestKind_JOB else w_RequestKind_EXECUTE)), .val (.ref (V1 (p3 &&& (3 : Int32)) w_Execution_PENDING w_Execution_NOT_EXECUTED w_Execution_EXECUTED w_Execution_UNKNOWN)), .val (.int (if (p4 &&& (1 : Int32)) = (0 : Int32) then (0 : Int32) else (1 : Int32))), .val (.int (if (p4 &&& (2 : Int32)) = (0 : Int32) then (0 : Int32) else (1 : Int32))), .val v117, .val v121, .val (.ref b_125), .unset, .unset, .val (.ref w_RequestState_WAITING_READY), .unset] [(.ref b_125), (.ref b204), (.ref b204)])) _
        refine XS.aload X204.here hx rfl (hb hby at_248) rfl rfl ?_
        show Steps p.tables e below (T204.setTop (mkF m 250 #[.val (.int p0), .val (.int p1), .val (.int p2), .val (.int p3), .val (.int p4), .val (.long p5), .second, .val (.int ((p0 &&& (2147483647 : Int32)) % (4 : Int32))), .val (.int ((p1 &&& (2147483647 : Int32)) % (6 : Int32))), .val (.ref (if (p2 &&& (1 : Int32)) = (0 : Int32) then w_RequestKind_JOB else w_RequestKind_EXECUTE)), .val (.ref (V1 (p3 &&& (3 : Int32)) w_Execution_PENDING w_Execution_NOT_EXECUTED w_Execution_EXECUTED w_Execution_UNKNOWN)), .val (.int (if (p4 &&& (1 : Int32)) = (0 : Int32) then (0 : Int32) else (1 : Int32))), .val (.int (if (p4 &&& (2 : Int32)) = (0 : Int32) then (0 : Int32) else (1 : Int32))), .val v117, .val v121, .val (.ref b_125), .unset, .unset, .val (.ref w_RequestState_WAITING_READY), .unset] [(.ref (if (p2 &&& (1 : Int32)) = (0 : Int32) then w_RequestKind_JOB else w_RequestKind_EXECUTE)), (.ref b_125), (.ref b204), (.ref b204)])) _
        refine st205 _ ?_
        show Steps p.tables e below (T205.setTop (mkF m 252 #[.val (.int p0), .val (.int p1), .val (.int p2), .val (.int p3), .val (.int p4), .val (.long p5), .second, .val (.int ((p0 &&& (2147483647 : Int32)) % (4 : Int32))), .val (.int ((p1 &&& (2147483647 : Int32)) % (6 : Int32))), .val (.ref (if (p2 &&& (1 : Int32)) = (0 : Int32) then w_RequestKind_JOB else w_RequestKind_EXECUTE)), .val (.ref (V1 (p3 &&& (3 : Int32)) w_Execution_PENDING w_Execution_NOT_EXECUTED w_Execution_EXECUTED w_Execution_UNKNOWN)), .val (.int (if (p4 &&& (1 : Int32)) = (0 : Int32) then (0 : Int32) else (1 : Int32))), .val (.int (if (p4 &&& (2 : Int32)) = (0 : Int32) then (0 : Int32) else (1 : Int32))), .val v117, .val v121, .val (.ref b_125), .unset, .unset, .val (.ref w_RequestState_WAITING_READY), .unset] [(.ref a205), (.ref (if (p2 &&& (1 : Int32)) = (0 : Int32) then w_RequestKind_JOB else w_RequestKind_EXECUTE)), (.ref b_125), (.ref b204), (.ref b204)])) _
        refine st206 _ ?_
        show Steps p.tables e below (T206.setTop (mkF m 254 #[.val (.int p0), .val (.int p1), .val (.int p2), .val (.int p3), .val (.int p4), .val (.long p5), .second, .val (.int ((p0 &&& (2147483647 : Int32)) % (4 : Int32))), .val (.int ((p1 &&& (2147483647 : Int32)) % (6 : Int32))), .val (.ref (if (p2 &&& (1 : Int32)) = (0 : Int32) then w_RequestKind_JOB else w_RequestKind_EXECUTE)), .val (.ref (V1 (p3 &&& (3 : Int32)) w_Execution_PENDING w_Execution_NOT_EXECUTED w_Execution_EXECUTED w_Execution_UNKNOWN)), .val (.int (if (p4 &&& (1 : Int32)) = (0 : Int32) then (0 : Int32) else (1 : Int32))), .val (.int (if (p4 &&& (2 : Int32)) = (0 : Int32) then (0 : Int32) else (1 : Int32))), .val v117, .val v121, .val (.ref b_125), .unset, .unset, .val (.ref w_RequestState_WAITING_READY), .unset] [(.ref a206), (.ref a205), (.ref (if (p2 &&& (1 : Int32)) = (0 : Int32) then w_RequestKind_JOB else w_RequestKind_EXECUTE)), (.ref b_125), (.ref b204), (.ref b204)])) _
        refine XS.aload X206.here hx rfl (hb hby at_254) rfl rfl ?_
        show Steps p.tables e below (T206.setTop (mkF m 256 #[.val (.int p0), .val (.int p1), .val (.int p2), .val (.int p3), .val (.int p4), .val (.long p5), .second, .val (.int ((p0 &&& (2147483647 : Int32)) % (4 : Int32))), .val (.int ((p1 &&& (2147483647 : Int32)) % (6 : Int32))), .val (.ref (if (p2 &&& (1 : Int32)) = (0 : Int32) then w_RequestKind_JOB else w_RequestKind_EXECUTE)), .val (.ref (V1 (p3 &&& (3 : Int32)) w_Execution_PENDING w_Execution_NOT_EXECUTED w_Execution_EXECUTED w_Execution_UNKNOWN)), .val (.int (if (p4 &&& (1 : Int32)) = (0 : Int32) then (0 : Int32) else (1 : Int32))), .val (.int (if (p4 &&& (2 : Int32)) = (0 : Int32) then (0 : Int32) else (1 : Int32))), .val v117, .val v121, .val (.ref b_125), .unset, .unset, .val (.ref w_RequestState_WAITING_READY), .unset] [(.ref w_RequestState_WAITING_READY), (.ref a206), (.ref a205), (.ref (if (p2 &&& (1 : Int32)) = (0 : Int32) then w_RequestKind_JOB else w_RequestKind_EXECUTE)), (.ref b_125), (.ref b204), (.ref b204)])) _
        refine XS.aload X206.here hx rfl (hb hby at_256) rfl hv117 ?_
        show Steps p.tables e below (T206.setTop (mkF m 258 #[.val (.int p0), .val (.int p1), .val (.int p2), .val (.int p3), .val (.int p4), .val (.long p5), .second, .val (.int ((p0 &&& (2147483647 : Int32)) % (4 : Int32))), .val (.int ((p1 &&& (2147483647 : Int32)) % (6 : Int32))), .val (.ref (if (p2 &&& (1 : Int32)) = (0 : Int32) then w_RequestKind_JOB else w_RequestKind_EXECUTE)), .val (.ref (V1 (p3 &&& (3 : Int32)) w_Execution_PENDING w_Execution_NOT_EXECUTED w_Execution_EXECUTED w_Execution_UNKNOWN)), .val (.int (if (p4 &&& (1 : Int32)) = (0 : Int32) then (0 : Int32) else (1 : Int32))), .val (.int (if (p4 &&& (2 : Int32)) = (0 : Int32) then (0 : Int32) else (1 : Int32))), .val v117, .val v121, .val (.ref b_125), .unset, .unset, .val (.ref w_RequestState_WAITING_READY), .unset] [v117, (.ref w_RequestState_WAITING_READY), (.ref a206), (.ref a205), (.ref (if (p2 &&& (1 : Int32)) = (0 : Int32) then w_RequestKind_JOB else w_RequestKind_EXECUTE)), (.ref b_125), (.ref b204), (.ref b204)])) _
        refine XS.aconstNull X206.here hx rfl (hb hby at_258) ?_
        show Steps p.tables e below (T206.setTop (mkF m 259 #[.val (.int p0), .val (.int p1), .val (.int p2), .val (.int p3), .val (.int p4), .val (.long p5), .second, .val (.int ((p0 &&& (2147483647 : Int32)) % (4 : Int32))), .val (.int ((p1 &&& (2147483647 : Int32)) % (6 : Int32))), .val (.ref (if (p2 &&& (1 : Int32)) = (0 : Int32) then w_RequestKind_JOB else w_RequestKind_EXECUTE)), .val (.ref (V1 (p3 &&& (3 : Int32)) w_Execution_PENDING w_Execution_NOT_EXECUTED w_Execution_EXECUTED w_Execution_UNKNOWN)), .val (.int (if (p4 &&& (1 : Int32)) = (0 : Int32) then (0 : Int32) else (1 : Int32))), .val (.int (if (p4 &&& (2 : Int32)) = (0 : Int32) then (0 : Int32) else (1 : Int32))), .val v117, .val v121, .val (.ref b_125), .unset, .unset, .val (.ref w_RequestState_WAITING_READY), .unset] [.null, v117, (.ref w_RequestState_WAITING_READY), (.ref a206), (.ref a205), (.ref (if (p2 &&& (1 : Int32)) = (0 : Int32) then w_RequestKind_JOB else w_RequestKind_EXECUTE)), (.ref b_125), (.ref b204), (.ref b204)])) _
        refine st218.trans ?_
        show Steps p.tables e below (T218.setTop (mkF m 262 #[.val (.int p0), .val (.int p1), .val (.int p2), .val (.int p3), .val (.int p4), .val (.long p5), .second, .val (.int ((p0 &&& (2147483647 : Int32)) % (4 : Int32))), .val (.int ((p1 &&& (2147483647 : Int32)) % (6 : Int32))), .val (.ref (if (p2 &&& (1 : Int32)) = (0 : Int32) then w_RequestKind_JOB else w_RequestKind_EXECUTE)), .val (.ref (V1 (p3 &&& (3 : Int32)) w_Execution_PENDING w_Execution_NOT_EXECUTED w_Execution_EXECUTED w_Execution_UNKNOWN)), .val (.int (if (p4 &&& (1 : Int32)) = (0 : Int32) then (0 : Int32) else (1 : Int32))), .val (.int (if (p4 &&& (2 : Int32)) = (0 : Int32) then (0 : Int32) else (1 : Int32))), .val v117, .val v121, .val (.ref b_125), .unset, .unset, .val (.ref w_RequestState_WAITING_READY), .unset] [(.ref b204)])) _
        refine XS.astore X218b.here hx rfl (hb hby at_262) rfl rfl (l' := #[.val (.int p0), .val (.int p1), .val (.int p2), .val (.int p3), .val (.int p4), .val (.long p5), .second, .val (.int ((p0 &&& (2147483647 : Int32)) % (4 : Int32))), .val (.int ((p1 &&& (2147483647 : Int32)) % (6 : Int32))), .val (.ref (if (p2 &&& (1 : Int32)) = (0 : Int32) then w_RequestKind_JOB else w_RequestKind_EXECUTE)), .val (.ref (V1 (p3 &&& (3 : Int32)) w_Execution_PENDING w_Execution_NOT_EXECUTED w_Execution_EXECUTED w_Execution_UNKNOWN)), .val (.int (if (p4 &&& (1 : Int32)) = (0 : Int32) then (0 : Int32) else (1 : Int32))), .val (.int (if (p4 &&& (2 : Int32)) = (0 : Int32) then (0 : Int32) else (1 : Int32))), .val v117, .val v121, .val (.ref b_125), .unset, .val (.ref b204), .val (.ref w_RequestState_WAITING_READY), .unset]) rfl ?_
        show Steps p.tables e below (T218.setTop (mkF m 264 #[.val (.int p0), .val (.int p1), .val (.int p2), .val (.int p3), .val (.int p4), .val (.long p5), .second, .val (.int ((p0 &&& (2147483647 : Int32)) % (4 : Int32))), .val (.int ((p1 &&& (2147483647 : Int32)) % (6 : Int32))), .val (.ref (if (p2 &&& (1 : Int32)) = (0 : Int32) then w_RequestKind_JOB else w_RequestKind_EXECUTE)), .val (.ref (V1 (p3 &&& (3 : Int32)) w_Execution_PENDING w_Execution_NOT_EXECUTED w_Execution_EXECUTED w_Execution_UNKNOWN)), .val (.int (if (p4 &&& (1 : Int32)) = (0 : Int32) then (0 : Int32) else (1 : Int32))), .val (.int (if (p4 &&& (2 : Int32)) = (0 : Int32) then (0 : Int32) else (1 : Int32))), .val v117, .val v121, .val (.ref b_125), .unset, .val (.ref b204), .val (.ref w_RequestState_WAITING_READY), .unset] [])) _
        refine XS.iload X218b.here hx rfl (hb hby at_264) rfl ?_
        show Steps p.tables e below (T218.setTop (mkF m 266 #[.val (.int p0), .val (.int p1), .val (.int p2), .val (.int p3), .val (.int p4), .val (.long p5), .second, .val (.int ((p0 &&& (2147483647 : Int32)) % (4 : Int32))), .val (.int ((p1 &&& (2147483647 : Int32)) % (6 : Int32))), .val (.ref (if (p2 &&& (1 : Int32)) = (0 : Int32) then w_RequestKind_JOB else w_RequestKind_EXECUTE)), .val (.ref (V1 (p3 &&& (3 : Int32)) w_Execution_PENDING w_Execution_NOT_EXECUTED w_Execution_EXECUTED w_Execution_UNKNOWN)), .val (.int (if (p4 &&& (1 : Int32)) = (0 : Int32) then (0 : Int32) else (1 : Int32))), .val (.int (if (p4 &&& (2 : Int32)) = (0 : Int32) then (0 : Int32) else (1 : Int32))), .val v117, .val v121, .val (.ref b_125), .unset, .val (.ref b204), .val (.ref w_RequestState_WAITING_READY), .unset] [(.int ((p0 &&& (2147483647 : Int32)) % (4 : Int32)))])) _
        refine XS.ifYes X218b.here hx rfl (pc0 := 266) (pc' := 273) rfl (hb hby at_266) rfl ((if0 _ _).trans (teq hc199).1) (by decide) (by decide) ?_
        show Steps p.tables e below (T218.setTop (mkF m 273 #[.val (.int p0), .val (.int p1), .val (.int p2), .val (.int p3), .val (.int p4), .val (.long p5), .second, .val (.int ((p0 &&& (2147483647 : Int32)) % (4 : Int32))), .val (.int ((p1 &&& (2147483647 : Int32)) % (6 : Int32))), .val (.ref (if (p2 &&& (1 : Int32)) = (0 : Int32) then w_RequestKind_JOB else w_RequestKind_EXECUTE)), .val (.ref (V1 (p3 &&& (3 : Int32)) w_Execution_PENDING w_Execution_NOT_EXECUTED w_Execution_EXECUTED w_Execution_UNKNOWN)), .val (.int (if (p4 &&& (1 : Int32)) = (0 : Int32) then (0 : Int32) else (1 : Int32))), .val (.int (if (p4 &&& (2 : Int32)) = (0 : Int32) then (0 : Int32) else (1 : Int32))), .val v117, .val v121, .val (.ref b_125), .unset, .val (.ref b204), .val (.ref w_RequestState_WAITING_READY), .unset] [])) _
        refine XS.iconst X218b.here hx rfl (hb hby at_273) ?_
        show Steps p.tables e below (T218.setTop (mkF m 274 #[.val (.int p0), .val (.int p1), .val (.int p2), .val (.int p3), .val (.int p4), .val (.long p5), .second, .val (.int ((p0 &&& (2147483647 : Int32)) % (4 : Int32))), .val (.int ((p1 &&& (2147483647 : Int32)) % (6 : Int32))), .val (.ref (if (p2 &&& (1 : Int32)) = (0 : Int32) then w_RequestKind_JOB else w_RequestKind_EXECUTE)), .val (.ref (V1 (p3 &&& (3 : Int32)) w_Execution_PENDING w_Execution_NOT_EXECUTED w_Execution_EXECUTED w_Execution_UNKNOWN)), .val (.int (if (p4 &&& (1 : Int32)) = (0 : Int32) then (0 : Int32) else (1 : Int32))), .val (.int (if (p4 &&& (2 : Int32)) = (0 : Int32) then (0 : Int32) else (1 : Int32))), .val v117, .val v121, .val (.ref b_125), .unset, .val (.ref b204), .val (.ref w_RequestState_WAITING_READY), .unset] [(.int (0 : Int32))])) _
        refine XS.istore X218b.here hx rfl (hb hby at_274) rfl (l' := #[.val (.int p0), .val (.int p1), .val (.int p2), .val (.int p3), .val (.int p4), .val (.long p5), .second, .val (.int ((p0 &&& (2147483647 : Int32)) % (4 : Int32))), .val (.int ((p1 &&& (2147483647 : Int32)) % (6 : Int32))), .val (.ref (if (p2 &&& (1 : Int32)) = (0 : Int32) then w_RequestKind_JOB else w_RequestKind_EXECUTE)), .val (.ref (V1 (p3 &&& (3 : Int32)) w_Execution_PENDING w_Execution_NOT_EXECUTED w_Execution_EXECUTED w_Execution_UNKNOWN)), .val (.int (if (p4 &&& (1 : Int32)) = (0 : Int32) then (0 : Int32) else (1 : Int32))), .val (.int (if (p4 &&& (2 : Int32)) = (0 : Int32) then (0 : Int32) else (1 : Int32))), .val v117, .val v121, .val (.ref b_125), .val (.int (0 : Int32)), .val (.ref b204), .val (.ref w_RequestState_WAITING_READY), .unset]) rfl ?_
        show Steps p.tables e below (T218.setTop (mkF m 276 #[.val (.int p0), .val (.int p1), .val (.int p2), .val (.int p3), .val (.int p4), .val (.long p5), .second, .val (.int ((p0 &&& (2147483647 : Int32)) % (4 : Int32))), .val (.int ((p1 &&& (2147483647 : Int32)) % (6 : Int32))), .val (.ref (if (p2 &&& (1 : Int32)) = (0 : Int32) then w_RequestKind_JOB else w_RequestKind_EXECUTE)), .val (.ref (V1 (p3 &&& (3 : Int32)) w_Execution_PENDING w_Execution_NOT_EXECUTED w_Execution_EXECUTED w_Execution_UNKNOWN)), .val (.int (if (p4 &&& (1 : Int32)) = (0 : Int32) then (0 : Int32) else (1 : Int32))), .val (.int (if (p4 &&& (2 : Int32)) = (0 : Int32) then (0 : Int32) else (1 : Int32))), .val v117, .val v121, .val (.ref b_125), .val (.int (0 : Int32)), .val (.ref b204), .val (.ref w_RequestState_WAITING_READY), .unset] [])) _
        refine XS.aload X218b.here hx rfl (hb hby at_276) rfl rfl ?_
        show Steps p.tables e below (T218.setTop (mkF m 278 #[.val (.int p0), .val (.int p1), .val (.int p2), .val (.int p3), .val (.int p4), .val (.long p5), .second, .val (.int ((p0 &&& (2147483647 : Int32)) % (4 : Int32))), .val (.int ((p1 &&& (2147483647 : Int32)) % (6 : Int32))), .val (.ref (if (p2 &&& (1 : Int32)) = (0 : Int32) then w_RequestKind_JOB else w_RequestKind_EXECUTE)), .val (.ref (V1 (p3 &&& (3 : Int32)) w_Execution_PENDING w_Execution_NOT_EXECUTED w_Execution_EXECUTED w_Execution_UNKNOWN)), .val (.int (if (p4 &&& (1 : Int32)) = (0 : Int32) then (0 : Int32) else (1 : Int32))), .val (.int (if (p4 &&& (2 : Int32)) = (0 : Int32) then (0 : Int32) else (1 : Int32))), .val v117, .val v121, .val (.ref b_125), .val (.int (0 : Int32)), .val (.ref b204), .val (.ref w_RequestState_WAITING_READY), .unset] [(.ref b204)])) _
        refine st220.trans ?_
        show Steps p.tables e below (T220.setTop (mkF m 281 #[.val (.int p0), .val (.int p1), .val (.int p2), .val (.int p3), .val (.int p4), .val (.long p5), .second, .val (.int ((p0 &&& (2147483647 : Int32)) % (4 : Int32))), .val (.int ((p1 &&& (2147483647 : Int32)) % (6 : Int32))), .val (.ref (if (p2 &&& (1 : Int32)) = (0 : Int32) then w_RequestKind_JOB else w_RequestKind_EXECUTE)), .val (.ref (V1 (p3 &&& (3 : Int32)) w_Execution_PENDING w_Execution_NOT_EXECUTED w_Execution_EXECUTED w_Execution_UNKNOWN)), .val (.int (if (p4 &&& (1 : Int32)) = (0 : Int32) then (0 : Int32) else (1 : Int32))), .val (.int (if (p4 &&& (2 : Int32)) = (0 : Int32) then (0 : Int32) else (1 : Int32))), .val v117, .val v121, .val (.ref b_125), .val (.int (0 : Int32)), .val (.ref b204), .val (.ref w_RequestState_WAITING_READY), .unset] [(.int (nar .boolean (nar .boolean (0 : Int32))))])) _
        refine XS.iload X220.here hx rfl (hb hby at_281) rfl ?_
        show Steps p.tables e below (T220.setTop (mkF m 283 #[.val (.int p0), .val (.int p1), .val (.int p2), .val (.int p3), .val (.int p4), .val (.long p5), .second, .val (.int ((p0 &&& (2147483647 : Int32)) % (4 : Int32))), .val (.int ((p1 &&& (2147483647 : Int32)) % (6 : Int32))), .val (.ref (if (p2 &&& (1 : Int32)) = (0 : Int32) then w_RequestKind_JOB else w_RequestKind_EXECUTE)), .val (.ref (V1 (p3 &&& (3 : Int32)) w_Execution_PENDING w_Execution_NOT_EXECUTED w_Execution_EXECUTED w_Execution_UNKNOWN)), .val (.int (if (p4 &&& (1 : Int32)) = (0 : Int32) then (0 : Int32) else (1 : Int32))), .val (.int (if (p4 &&& (2 : Int32)) = (0 : Int32) then (0 : Int32) else (1 : Int32))), .val v117, .val v121, .val (.ref b_125), .val (.int (0 : Int32)), .val (.ref b204), .val (.ref w_RequestState_WAITING_READY), .unset] [(.int (0 : Int32)), (.int (nar .boolean (nar .boolean (0 : Int32))))])) _
        refine XS.icmpNo X220.here hx rfl (hb hby at_283) rfl (teq (rfl : (nar .boolean (nar .boolean (0 : Int32))) = (0 : Int32))).2 ?_
        show Steps p.tables e below (T220.setTop (mkF m 286 #[.val (.int p0), .val (.int p1), .val (.int p2), .val (.int p3), .val (.int p4), .val (.long p5), .second, .val (.int ((p0 &&& (2147483647 : Int32)) % (4 : Int32))), .val (.int ((p1 &&& (2147483647 : Int32)) % (6 : Int32))), .val (.ref (if (p2 &&& (1 : Int32)) = (0 : Int32) then w_RequestKind_JOB else w_RequestKind_EXECUTE)), .val (.ref (V1 (p3 &&& (3 : Int32)) w_Execution_PENDING w_Execution_NOT_EXECUTED w_Execution_EXECUTED w_Execution_UNKNOWN)), .val (.int (if (p4 &&& (1 : Int32)) = (0 : Int32) then (0 : Int32) else (1 : Int32))), .val (.int (if (p4 &&& (2 : Int32)) = (0 : Int32) then (0 : Int32) else (1 : Int32))), .val v117, .val v121, .val (.ref b_125), .val (.int (0 : Int32)), .val (.ref b204), .val (.ref w_RequestState_WAITING_READY), .unset] [])) _
        refine XS.iconst X220.here hx rfl (hb hby at_286) ?_
        show Steps p.tables e below (T220.setTop (mkF m 287 #[.val (.int p0), .val (.int p1), .val (.int p2), .val (.int p3), .val (.int p4), .val (.long p5), .second, .val (.int ((p0 &&& (2147483647 : Int32)) % (4 : Int32))), .val (.int ((p1 &&& (2147483647 : Int32)) % (6 : Int32))), .val (.ref (if (p2 &&& (1 : Int32)) = (0 : Int32) then w_RequestKind_JOB else w_RequestKind_EXECUTE)), .val (.ref (V1 (p3 &&& (3 : Int32)) w_Execution_PENDING w_Execution_NOT_EXECUTED w_Execution_EXECUTED w_Execution_UNKNOWN)), .val (.int (if (p4 &&& (1 : Int32)) = (0 : Int32) then (0 : Int32) else (1 : Int32))), .val (.int (if (p4 &&& (2 : Int32)) = (0 : Int32) then (0 : Int32) else (1 : Int32))), .val v117, .val v121, .val (.ref b_125), .val (.int (0 : Int32)), .val (.ref b204), .val (.ref w_RequestState_WAITING_READY), .unset] [(.int (1 : Int32))])) _
        refine XS.goto X220.here hx rfl (pc0 := 287) (pc' := 291) rfl (hb hby at_287) (by decide) (by decide) ?_
        show Steps p.tables e below (T220.setTop (mkF m 291 #[.val (.int p0), .val (.int p1), .val (.int p2), .val (.int p3), .val (.int p4), .val (.long p5), .second, .val (.int ((p0 &&& (2147483647 : Int32)) % (4 : Int32))), .val (.int ((p1 &&& (2147483647 : Int32)) % (6 : Int32))), .val (.ref (if (p2 &&& (1 : Int32)) = (0 : Int32) then w_RequestKind_JOB else w_RequestKind_EXECUTE)), .val (.ref (V1 (p3 &&& (3 : Int32)) w_Execution_PENDING w_Execution_NOT_EXECUTED w_Execution_EXECUTED w_Execution_UNKNOWN)), .val (.int (if (p4 &&& (1 : Int32)) = (0 : Int32) then (0 : Int32) else (1 : Int32))), .val (.int (if (p4 &&& (2 : Int32)) = (0 : Int32) then (0 : Int32) else (1 : Int32))), .val v117, .val v121, .val (.ref b_125), .val (.int (0 : Int32)), .val (.ref b204), .val (.ref w_RequestState_WAITING_READY), .unset] [(.int (1 : Int32))])) _
        exact Jvm.RoadKit.retOut X220 hx Bd.returns rfl (Or.inl ⟨rfl, by simp, _, rfl⟩) (hb hby at_291) hr
      · show Q_rm0 Z p0 p1 p2 p3 p4 p5 w_JobState_QUEUED w_JobState_FAILED w_JobState_RUNNING w_JobState_TIMEOUT w_RequestKind_JOB w_Execution_PENDING w_JobState_SUCCEEDED w_Execution_UNKNOWN w_JobState_CANCELLED w_Execution_EXECUTED w_RequestKind_EXECUTE w_Execution_NOT_EXECUTED w_RequestState_FAILED w_RequestState_SUCCEEDED w_RequestState_CANCELLED w_RequestState_WAITING_READY zc h0 n0 _ T220.heap _
        rw [e220]
        unfold Q_rm0
        exact ⟨rfl, N220, K227⟩
    · have S229 : ∀ t, Steps p.tables e below (T125.setTop (mkF m 226 #[.val (.int p0), .val (.int p1), .val (.int p2), .val (.int p3), .val (.int p4), .val (.long p5), .second, .val (.int ((p0 &&& (2147483647 : Int32)) % (4 : Int32))), .val (.int ((p1 &&& (2147483647 : Int32)) % (6 : Int32))), .val (.ref (if (p2 &&& (1 : Int32)) = (0 : Int32) then w_RequestKind_JOB else w_RequestKind_EXECUTE)), .val (.ref (V1 (p3 &&& (3 : Int32)) w_Execution_PENDING w_Execution_NOT_EXECUTED w_Execution_EXECUTED w_Execution_UNKNOWN)), .val (.int (if (p4 &&& (1 : Int32)) = (0 : Int32) then (0 : Int32) else (1 : Int32))), .val (.int (if (p4 &&& (2 : Int32)) = (0 : Int32) then (0 : Int32) else (1 : Int32))), .val v117, .val v121, .val (.ref b_125), .unset, .unset, .unset, .unset] [(.int (2 : Int32)), (.int ((p0 &&& (2147483647 : Int32)) % (4 : Int32)))])) t → Steps p.tables e below (s₁.setTop (entryFrame m #[(.int p0), (.int p1), (.int p2), (.int p3), (.int p4), (.long p5)] maxLocals)) t := fun t k => by
        refine S200 t ?_
        show Steps p.tables e below (T125.setTop (mkF m 212 #[.val (.int p0), .val (.int p1), .val (.int p2), .val (.int p3), .val (.int p4), .val (.long p5), .second, .val (.int ((p0 &&& (2147483647 : Int32)) % (4 : Int32))), .val (.int ((p1 &&& (2147483647 : Int32)) % (6 : Int32))), .val (.ref (if (p2 &&& (1 : Int32)) = (0 : Int32) then w_RequestKind_JOB else w_RequestKind_EXECUTE)), .val (.ref (V1 (p3 &&& (3 : Int32)) w_Execution_PENDING w_Execution_NOT_EXECUTED w_Execution_EXECUTED w_Execution_UNKNOWN)), .val (.int (if (p4 &&& (1 : Int32)) = (0 : Int32) then (0 : Int32) else (1 : Int32))), .val (.int (if (p4 &&& (2 : Int32)) = (0 : Int32) then (0 : Int32) else (1 : Int32))), .val v117, .val v121, .val (.ref b_125), .unset, .unset, .unset, .unset] [(.int ((p0 &&& (2147483647 : Int32)) % (4 : Int32)))])) _
        refine XS.ifYes X125.here hx rfl (pc0 := 212) (pc' := 223) rfl (hb hby at_212) rfl ((if0 _ _).trans (feq hc199).2) (by decide) (by decide) ?_
        show Steps p.tables e below (T125.setTop (mkF m 223 #[.val (.int p0), .val (.int p1), .val (.int p2), .val (.int p3), .val (.int p4), .val (.long p5), .second, .val (.int ((p0 &&& (2147483647 : Int32)) % (4 : Int32))), .val (.int ((p1 &&& (2147483647 : Int32)) % (6 : Int32))), .val (.ref (if (p2 &&& (1 : Int32)) = (0 : Int32) then w_RequestKind_JOB else w_RequestKind_EXECUTE)), .val (.ref (V1 (p3 &&& (3 : Int32)) w_Execution_PENDING w_Execution_NOT_EXECUTED w_Execution_EXECUTED w_Execution_UNKNOWN)), .val (.int (if (p4 &&& (1 : Int32)) = (0 : Int32) then (0 : Int32) else (1 : Int32))), .val (.int (if (p4 &&& (2 : Int32)) = (0 : Int32) then (0 : Int32) else (1 : Int32))), .val v117, .val v121, .val (.ref b_125), .unset, .unset, .unset, .unset] [])) _
        refine XS.iload X125.here hx rfl (hb hby at_223) rfl ?_
        show Steps p.tables e below (T125.setTop (mkF m 225 #[.val (.int p0), .val (.int p1), .val (.int p2), .val (.int p3), .val (.int p4), .val (.long p5), .second, .val (.int ((p0 &&& (2147483647 : Int32)) % (4 : Int32))), .val (.int ((p1 &&& (2147483647 : Int32)) % (6 : Int32))), .val (.ref (if (p2 &&& (1 : Int32)) = (0 : Int32) then w_RequestKind_JOB else w_RequestKind_EXECUTE)), .val (.ref (V1 (p3 &&& (3 : Int32)) w_Execution_PENDING w_Execution_NOT_EXECUTED w_Execution_EXECUTED w_Execution_UNKNOWN)), .val (.int (if (p4 &&& (1 : Int32)) = (0 : Int32) then (0 : Int32) else (1 : Int32))), .val (.int (if (p4 &&& (2 : Int32)) = (0 : Int32) then (0 : Int32) else (1 : Int32))), .val v117, .val v121, .val (.ref b_125), .unset, .unset, .unset, .unset] [(.int ((p0 &&& (2147483647 : Int32)) % (4 : Int32)))])) _
        refine XS.iconst X125.here hx rfl (hb hby at_225) ?_
        exact k
      by_cases hc228 : ((p0 &&& (2147483647 : Int32)) % (4 : Int32)) = (2 : Int32)
      · have O231 : Old Z n0 T125.heap := Old.keep O124 K125 all0
        have c230 : Sta Z T125.heap "com/example/done_once/doneonce/core/RequestState" "FAILED" "Lcom/example/done_once/doneonce/core/RequestState;" (.ref w_RequestState_FAILED) := Sta.ext (O231).2 S_RequestState_FAILED
        obtain ⟨T232, X232, e232, st232⟩ := getS2 X125 hx hZ121 hown121 (host := "") (Or.inl (hwk hw 95 rfl)) Via.refl (rfl : T125.heap = T125.heap) c230 (g := (mkF m 229 #[.val (.int p0), .val (.int p1), .val (.int p2), .val (.int p3), .val (.int p4), .val (.long p5), .second, .val (.int ((p0 &&& (2147483647 : Int32)) % (4 : Int32))), .val (.int ((p1 &&& (2147483647 : Int32)) % (6 : Int32))), .val (.ref (if (p2 &&& (1 : Int32)) = (0 : Int32) then w_RequestKind_JOB else w_RequestKind_EXECUTE)), .val (.ref (V1 (p3 &&& (3 : Int32)) w_Execution_PENDING w_Execution_NOT_EXECUTED w_Execution_EXECUTED w_Execution_UNKNOWN)), .val (.int (if (p4 &&& (1 : Int32)) = (0 : Int32) then (0 : Int32) else (1 : Int32))), .val (.int (if (p4 &&& (2 : Int32)) = (0 : Int32) then (0 : Int32) else (1 : Int32))), .val v117, .val v121, .val (.ref b_125), .unset, .unset, .unset, .unset] [])) rfl (hb hby at_229)
        obtain ⟨T233, h233, X233, e233, E233, A233, D233, -, st233⟩ := newO X232 hx hZ121 hown121 (hwk hw 40 rfl) (hwk hw 41 rfl) (hwk hw 42 rfl) e232 (g := (mkF m 242 #[.val (.int p0), .val (.int p1), .val (.int p2), .val (.int p3), .val (.int p4), .val (.long p5), .second, .val (.int ((p0 &&& (2147483647 : Int32)) % (4 : Int32))), .val (.int ((p1 &&& (2147483647 : Int32)) % (6 : Int32))), .val (.ref (if (p2 &&& (1 : Int32)) = (0 : Int32) then w_RequestKind_JOB else w_RequestKind_EXECUTE)), .val (.ref (V1 (p3 &&& (3 : Int32)) w_Execution_PENDING w_Execution_NOT_EXECUTED w_Execution_EXECUTED w_Execution_UNKNOWN)), .val (.int (if (p4 &&& (1 : Int32)) = (0 : Int32) then (0 : Int32) else (1 : Int32))), .val (.int (if (p4 &&& (2 : Int32)) = (0 : Int32) then (0 : Int32) else (1 : Int32))), .val v117, .val v121, .val (.ref b_125), .unset, .unset, .val (.ref w_RequestState_FAILED), .unset] [])) rfl (hb hby at_242) (by decide) (by decide)
        obtain ⟨b233, g233⟩ : ∃ z, z = T125.heap.size := ⟨_, rfl⟩
        rw [← g233] at A233 D233 st233
        have g_b233 : n0 ≤ b233 := Nat.le_trans (old_le O231) (Nat.le_of_eq g233.symm)
        obtain ⟨a234, T234, h234, k234, X234, e234, E234, hS234, hk234, hZ234, hown234, st234⟩ := ldcS X233 hx hZ121 hown121 (hwk hw 43 rfl) hstr e233 hS121 (Nat.le_trans hk121 (Nat.le_trans (Nat.le_trans (Nat.le_refl _) K125.1) E233.1)) (g := (mkF m 250 #[.val (.int p0), .val (.int p1), .val (.int p2), .val (.int p3), .val (.int p4), .val (.long p5), .second, .val (.int ((p0 &&& (2147483647 : Int32)) % (4 : Int32))), .val (.int ((p1 &&& (2147483647 : Int32)) % (6 : Int32))), .val (.ref (if (p2 &&& (1 : Int32)) = (0 : Int32) then w_RequestKind_JOB else w_RequestKind_EXECUTE)), .val (.ref (V1 (p3 &&& (3 : Int32)) w_Execution_PENDING w_Execution_NOT_EXECUTED w_Execution_EXECUTED w_Execution_UNKNOWN)), .val (.int (if (p4 &&& (1 : Int32)) = (0 : Int32) then (0 : Int32) else (1 : Int32))), .val (.int (if (p4 &&& (2 : Int32)) = (0 : Int32) then (0 : Int32) else (1 : Int32))), .val v117, .val v121, .val (.ref b_125), .unset, .unset, .val (.ref w_RequestState_FAILED), .unset] [(.ref (if (p2 &&& (1 : Int32)) = (0 : Int32) then w_RequestKind_JOB else w_RequestKind_EXECUTE)), (.ref b_125), (.ref b233), (.ref b233)])) rfl (hb hby at_250) (n := 4) (by decide) (by decide) (by decide) (by decide)
        obtain ⟨a235, T235, h235, k235, X235, e235, E235, hS235, hk235, hZ235, hown235, st235⟩ := ldcS X234 hx hZ234 hown234 (hwk hw 46 rfl) hstr e234 hS234 hk234 (g := (mkF m 252 #[.val (.int p0), .val (.int p1), .val (.int p2), .val (.int p3), .val (.int p4), .val (.long p5), .second, .val (.int ((p0 &&& (2147483647 : Int32)) % (4 : Int32))), .val (.int ((p1 &&& (2147483647 : Int32)) % (6 : Int32))), .val (.ref (if (p2 &&& (1 : Int32)) = (0 : Int32) then w_RequestKind_JOB else w_RequestKind_EXECUTE)), .val (.ref (V1 (p3 &&& (3 : Int32)) w_Execution_PENDING w_Execution_NOT_EXECUTED w_Execution_EXECUTED w_Execution_UNKNOWN)), .val (.int (if (p4 &&& (1 : Int32)) = (0 : Int32) then (0 : Int32) else (1 : Int32))), .val (.int (if (p4 &&& (2 : Int32)) = (0 : Int32) then (0 : Int32) else (1 : Int32))), .val v117, .val v121, .val (.ref b_125), .unset, .unset, .val (.ref w_RequestState_FAILED), .unset] [(.ref a234), (.ref (if (p2 &&& (1 : Int32)) = (0 : Int32) then w_RequestKind_JOB else w_RequestKind_EXECUTE)), (.ref b_125), (.ref b233), (.ref b233)])) rfl (hb hby at_252) (n := 4) (by decide) (by decide) (by decide) (by decide)
        have c236 : Exa Z h235 b233 "com/example/done_once/doneonce/store/Request" := (Exa.ext E235 (Exa.ext E234 A233))
        have c237 : Fld Z h235 b233 "com/example/done_once/doneonce/store/Request" "requestId" "Ljava/lang/String;" .null := (Fld.ext E235 (Fld.ext E234 (show Fld Z h233 b233 "com/example/done_once/doneonce/store/Request" "requestId" "Ljava/lang/String;" .null from D233 (Or.inr (hwk hw 66 rfl)) (ty := (.object "java/lang/String")) (by decide))))
        have c238 : Fld Z h235 b233 "com/example/done_once/doneonce/store/Request" "kind" "Lcom/example/done_once/doneonce/core/RequestKind;" .null := (Fld.ext E235 (Fld.ext E234 (show Fld Z h233 b233 "com/example/done_once/doneonce/store/Request" "kind" "Lcom/example/done_once/doneonce/core/RequestKind;" .null from D233 (Or.inr (hwk hw 68 rfl)) (ty := (.object "com/example/done_once/doneonce/core/RequestKind")) (by decide))))
        have c239 : Fld Z h235 b233 "com/example/done_once/doneonce/store/Request" "lane" "Ljava/lang/String;" .null := (Fld.ext E235 (Fld.ext E234 (show Fld Z h233 b233 "com/example/done_once/doneonce/store/Request" "lane" "Ljava/lang/String;" .null from D233 (Or.inr (hwk hw 70 rfl)) (ty := (.object "java/lang/String")) (by decide))))
        have c240 : Fld Z h235 b233 "com/example/done_once/doneonce/store/Request" "tool" "Ljava/lang/String;" .null := (Fld.ext E235 (Fld.ext E234 (show Fld Z h233 b233 "com/example/done_once/doneonce/store/Request" "tool" "Ljava/lang/String;" .null from D233 (Or.inr (hwk hw 72 rfl)) (ty := (.object "java/lang/String")) (by decide))))
        have c241 : Fld Z h235 b233 "com/example/done_once/doneonce/store/Request" "state" "Lcom/example/done_once/doneonce/core/RequestState;" .null := (Fld.ext E235 (Fld.ext E234 (show Fld Z h233 b233 "com/example/done_once/doneonce/store/Request" "state" "Lcom/example/done_once/doneonce/core/RequestState;" .null from D233 (Or.inr (hwk hw 74 rfl)) (ty := (.object "com/example/done_once/doneonce/core/RequestState")) (by decide))))
        have c242 : Fld Z h235 b233 "com/example/done_once/doneonce/store/Request" "error" "Ljava/lang/String;" .null := (Fld.ext E235 (Fld.ext E234 (show Fld Z h233 b233 "com/example/done_once/doneonce/store/Request" "error" "Ljava/lang/String;" .null from D233 (Or.inr (hwk hw 76 rfl)) (ty := (.object "java/lang/String")) (by decide))))
        have c243 : Fld Z h235 b233 "com/example/done_once/doneonce/store/Request" "job" "Lcom/example/done_once/doneonce/store/Job;" .null := (Fld.ext E235 (Fld.ext E234 (show Fld Z h233 b233 "com/example/done_once/doneonce/store/Request" "job" "Lcom/example/done_once/doneonce/store/Job;" .null from D233 (Or.inr (hwk hw 78 rfl)) (ty := (.object "com/example/done_once/doneonce/store/Job")) (by decide))))
        have O244 : Old Z n0 h233 := Old.ext O231 E233
        have O245 : Old Z n0 h234 := Old.ext O244 E234
        have O246 : Old Z n0 h235 := Old.ext O245 E235
        obtain ⟨_, _, ⟨T247, L247, k247, n247⟩, -, X247, hs247', hg247', ⟨Lc247, hQ247, l247, y247, z247⟩, st247⟩ := X235.specialBackS hx (y := (⟨"com/example/done_once/doneonce/store/Request", "<init>", "(Ljava/lang/String;Lcom/example/done_once/doneonce/core/RequestKind;Ljava/lang/String;Ljava/lang/String;Lcom/example/done_once/doneonce/core/RequestState;Ljava/lang/String;Lcom/example/done_once/doneonce/store/Job;)V"⟩ : MethodName)) rfl hown235 (mvT hZ235 (hwk hw 47 rfl)) (mvT hZ235 (hwk hw 48 rfl)) (mvT hZ235 (hwk hw 49 rfl)) (by decide) (backOfS (W := 1) (rm7n l Z a0 hw [] b233 b_125 (if (p2 &&& (1 : Int32)) = (0 : Int32) then w_RequestKind_JOB else w_RequestKind_EXECUTE) a234 a235 w_RequestState_FAILED v117 w_RequestState_SUCCEEDED h235 n0 O246 c236 g_b233 c237 c238 c239 c240 c241 c242 c243 hv117 S_RequestState_SUCCEEDED (Fld.ne F_w_RequestState_FAILED_ordinal F_w_RequestState_SUCCEEDED_ordinal (by simp))) hZ235 (hwk hw 49 rfl) (hwk hw 42 rfl) (by decide) (by decide)) (g := (mkF m 259 #[.val (.int p0), .val (.int p1), .val (.int p2), .val (.int p3), .val (.int p4), .val (.long p5), .second, .val (.int ((p0 &&& (2147483647 : Int32)) % (4 : Int32))), .val (.int ((p1 &&& (2147483647 : Int32)) % (6 : Int32))), .val (.ref (if (p2 &&& (1 : Int32)) = (0 : Int32) then w_RequestKind_JOB else w_RequestKind_EXECUTE)), .val (.ref (V1 (p3 &&& (3 : Int32)) w_Execution_PENDING w_Execution_NOT_EXECUTED w_Execution_EXECUTED w_Execution_UNKNOWN)), .val (.int (if (p4 &&& (1 : Int32)) = (0 : Int32) then (0 : Int32) else (1 : Int32))), .val (.int (if (p4 &&& (2 : Int32)) = (0 : Int32) then (0 : Int32) else (1 : Int32))), .val v117, .val v121, .val (.ref b_125), .unset, .unset, .val (.ref w_RequestState_FAILED), .unset] [.null, v117, (.ref w_RequestState_FAILED), (.ref a235), (.ref a234), (.ref (if (p2 &&& (1 : Int32)) = (0 : Int32) then w_RequestKind_JOB else w_RequestKind_EXECUTE)), (.ref b_125), (.ref b233), (.ref b233)])) rfl (by rw [hml]; rfl) (Steps.refl _) (a := b233) (argsL := [(.ref b_125), (.ref (if (p2 &&& (1 : Int32)) = (0 : Int32) then w_RequestKind_JOB else w_RequestKind_EXECUTE)), (.ref a234), (.ref a235), (.ref w_RequestState_FAILED), v117, .null]) (rest := [(.ref b233)]) (lenOf pd_13 rfl) rfl (by show 2 * 0 + _ ≤ _; exact Nat.le_of_eq rfl) (hb hby at_259) (fun _ _ => ⟨rfl, e235, (by decide : 11 + 6 ≤ _), (by decide : 44 + 292 ≤ _)⟩)
        dsimp only [Pt.U, Pt.locs, Pt.cells, Pt.slots] at X247 l247 y247 z247 st247 hQ247 hs247' hg247'
        subst l247 y247 z247
        obtain ⟨X247b, hS247, hZ247, hown247⟩ := rebS hS235 (show _ ≤ T235.heap.size from by rw [e235]; exact hk235) X247 hs247' hg247' hZ235 hown235
        unfold Q_rm7n at hQ247
        obtain ⟨rfl, N247q, K247, f247_0, f247_1, f247_2⟩ := hQ247
        have N247 := Fr.app N125 N247q
        have O248 : Old Z n0 T247.heap := Old.keep O246 K247 (allS g_b233 all0)
        obtain ⟨cq249, kq249, q249a, q249b, q249c⟩ := isOf hZ247 (rfl : T247.heap = T247.heap) f247_0
        obtain ⟨_, _, ⟨T249, L249, k249, n249⟩, -, X249, ⟨Lc249, hQ249, l249, y249, z249⟩, st249⟩ := X247b.virtualBack hx (y := (⟨"com/example/done_once/doneonce/store/Request", "ended", "()Z"⟩ : MethodName)) (z := (⟨"com/example/done_once/doneonce/store/Request", "ended", "()Z"⟩ : MethodName)) hown247 (mvT hZ247 (hwk hw 79 rfl)) (mvT hZ247 (hwk hw 80 rfl)) (notFace_of_selects (args := #[]) (mvT hZ247 (hwk hw 82 rfl))) (mvT hZ247 (hwk hw 82 rfl)) (mvT hZ247 (hwk hw 81 rfl)) (by decide) (backOf (W := 0) (rm10n l Z a0 hw [] b233 w_RequestState_FAILED (1 : Int32) T247.heap n0 O248 f247_2 f247_1 E_w_RequestState_FAILED F_w_RequestState_FAILED_terminal) hZ247 (hwk hw 83 rfl) (hwk hw 42 rfl) (by decide) (by decide)) q249a q249c (g := (mkF m 278 #[.val (.int p0), .val (.int p1), .val (.int p2), .val (.int p3), .val (.int p4), .val (.long p5), .second, .val (.int ((p0 &&& (2147483647 : Int32)) % (4 : Int32))), .val (.int ((p1 &&& (2147483647 : Int32)) % (6 : Int32))), .val (.ref (if (p2 &&& (1 : Int32)) = (0 : Int32) then w_RequestKind_JOB else w_RequestKind_EXECUTE)), .val (.ref (V1 (p3 &&& (3 : Int32)) w_Execution_PENDING w_Execution_NOT_EXECUTED w_Execution_EXECUTED w_Execution_UNKNOWN)), .val (.int (if (p4 &&& (1 : Int32)) = (0 : Int32) then (0 : Int32) else (1 : Int32))), .val (.int (if (p4 &&& (2 : Int32)) = (0 : Int32) then (0 : Int32) else (1 : Int32))), .val v117, .val v121, .val (.ref b_125), .val (.int (1 : Int32)), .val (.ref b233), .val (.ref w_RequestState_FAILED), .unset] [(.ref b233)])) rfl (by rw [hml]; rfl) (Steps.refl _) (argsL := []) (rest := []) (lenOf pd_5 rfl) rfl (by show 2 * 0 + _ ≤ _; exact Nat.le_of_eq rfl) (hb hby at_278) (fun _ _ => ⟨rfl, (rfl : T247.heap = T247.heap), (by decide : 17 + 0 ≤ _), (by decide : 336 + 0 ≤ _)⟩)
        dsimp only [Pt.U, Pt.locs, Pt.cells, Pt.slots] at X249 l249 y249 z249 st249 hQ249
        subst l249 y249 z249
        unfold Q_rm10n at hQ249
        obtain ⟨rfl, N249q, e249⟩ := hQ249
        have N249 := Fr.app N247 N249q
        have K250 : Keep h0 h117 [] := Keep.ext (Keep.refl h0 []) E117
        have K251 : Keep h0 h121 [] := Keep.ext K250 E121
        have K252 : Keep h0 T125.heap [] := Keep.trans K251 K125 all0
        have K253 : Keep h0 h233 [] := Keep.ext K252 E233
        have K254 : Keep h0 h234 [] := Keep.ext K253 E234
        have K255 : Keep h0 h235 [] := Keep.ext K254 E235
        have K256 : Keep h0 T247.heap [] := Keep.trans K255 K247 (allS (Or.inr (Nat.le_trans (Nat.le_trans (Nat.le_trans (Nat.le_trans (Nat.le_refl _) E117.1) E121.1) K125.1) (Nat.le_of_eq g233.symm))) all0)
        obtain ⟨fs, hr, hrun, hended, hRE⟩ := X249.leaveW hS247 (show _ ≤ T249.heap.size from by rw [e249]; exact (Nat.le_refl _)) (v := some (.int (1 : Int32))) (fun h => by rw [Bd.returns] at h; cases h)
        refine ⟨_, _, S229 _ ?_, hrun, hended, _, _, rfl, ?_, hRE.1, hRE.2.1, hRE.2.2.1, hRE.2.2.2.mono (by decide) (by decide)⟩
        · show Steps p.tables e below (T125.setTop (mkF m 226 #[.val (.int p0), .val (.int p1), .val (.int p2), .val (.int p3), .val (.int p4), .val (.long p5), .second, .val (.int ((p0 &&& (2147483647 : Int32)) % (4 : Int32))), .val (.int ((p1 &&& (2147483647 : Int32)) % (6 : Int32))), .val (.ref (if (p2 &&& (1 : Int32)) = (0 : Int32) then w_RequestKind_JOB else w_RequestKind_EXECUTE)), .val (.ref (V1 (p3 &&& (3 : Int32)) w_Execution_PENDING w_Execution_NOT_EXECUTED w_Execution_EXECUTED w_Execution_UNKNOWN)), .val (.int (if (p4 &&& (1 : Int32)) = (0 : Int32) then (0 : Int32) else (1 : Int32))), .val (.int (if (p4 &&& (2 : Int32)) = (0 : Int32) then (0 : Int32) else (1 : Int32))), .val v117, .val v121, .val (.ref b_125), .unset, .unset, .unset, .unset] [(.int (2 : Int32)), (.int ((p0 &&& (2147483647 : Int32)) % (4 : Int32)))])) _
          refine XS.icmpNo X125.here hx rfl (hb hby at_226) rfl (teq hc228).2 ?_
          show Steps p.tables e below (T125.setTop (mkF m 229 #[.val (.int p0), .val (.int p1), .val (.int p2), .val (.int p3), .val (.int p4), .val (.long p5), .second, .val (.int ((p0 &&& (2147483647 : Int32)) % (4 : Int32))), .val (.int ((p1 &&& (2147483647 : Int32)) % (6 : Int32))), .val (.ref (if (p2 &&& (1 : Int32)) = (0 : Int32) then w_RequestKind_JOB else w_RequestKind_EXECUTE)), .val (.ref (V1 (p3 &&& (3 : Int32)) w_Execution_PENDING w_Execution_NOT_EXECUTED w_Execution_EXECUTED w_Execution_UNKNOWN)), .val (.int (if (p4 &&& (1 : Int32)) = (0 : Int32) then (0 : Int32) else (1 : Int32))), .val (.int (if (p4 &&& (2 : Int32)) = (0 : Int32) then (0 : Int32) else (1 : Int32))), .val v117, .val v121, .val (.ref b_125), .unset, .unset, .unset, .unset] [])) _
          refine st232 _ ?_
          show Steps p.tables e below (T232.setTop (mkF m 232 #[.val (.int p0), .val (.int p1), .val (.int p2), .val (.int p3), .val (.int p4), .val (.long p5), .second, .val (.int ((p0 &&& (2147483647 : Int32)) % (4 : Int32))), .val (.int ((p1 &&& (2147483647 : Int32)) % (6 : Int32))), .val (.ref (if (p2 &&& (1 : Int32)) = (0 : Int32) then w_RequestKind_JOB else w_RequestKind_EXECUTE)), .val (.ref (V1 (p3 &&& (3 : Int32)) w_Execution_PENDING w_Execution_NOT_EXECUTED w_Execution_EXECUTED w_Execution_UNKNOWN)), .val (.int (if (p4 &&& (1 : Int32)) = (0 : Int32) then (0 : Int32) else (1 : Int32))), .val (.int (if (p4 &&& (2 : Int32)) = (0 : Int32) then (0 : Int32) else (1 : Int32))), .val v117, .val v121, .val (.ref b_125), .unset, .unset, .unset, .unset] [(.ref w_RequestState_FAILED)])) _
          refine XS.astore X232.here hx rfl (hb hby at_232) rfl rfl (l' := #[.val (.int p0), .val (.int p1), .val (.int p2), .val (.int p3), .val (.int p4), .val (.long p5), .second, .val (.int ((p0 &&& (2147483647 : Int32)) % (4 : Int32))), .val (.int ((p1 &&& (2147483647 : Int32)) % (6 : Int32))), .val (.ref (if (p2 &&& (1 : Int32)) = (0 : Int32) then w_RequestKind_JOB else w_RequestKind_EXECUTE)), .val (.ref (V1 (p3 &&& (3 : Int32)) w_Execution_PENDING w_Execution_NOT_EXECUTED w_Execution_EXECUTED w_Execution_UNKNOWN)), .val (.int (if (p4 &&& (1 : Int32)) = (0 : Int32) then (0 : Int32) else (1 : Int32))), .val (.int (if (p4 &&& (2 : Int32)) = (0 : Int32) then (0 : Int32) else (1 : Int32))), .val v117, .val v121, .val (.ref b_125), .unset, .unset, .val (.ref w_RequestState_FAILED), .unset]) rfl ?_
          show Steps p.tables e below (T232.setTop (mkF m 234 #[.val (.int p0), .val (.int p1), .val (.int p2), .val (.int p3), .val (.int p4), .val (.long p5), .second, .val (.int ((p0 &&& (2147483647 : Int32)) % (4 : Int32))), .val (.int ((p1 &&& (2147483647 : Int32)) % (6 : Int32))), .val (.ref (if (p2 &&& (1 : Int32)) = (0 : Int32) then w_RequestKind_JOB else w_RequestKind_EXECUTE)), .val (.ref (V1 (p3 &&& (3 : Int32)) w_Execution_PENDING w_Execution_NOT_EXECUTED w_Execution_EXECUTED w_Execution_UNKNOWN)), .val (.int (if (p4 &&& (1 : Int32)) = (0 : Int32) then (0 : Int32) else (1 : Int32))), .val (.int (if (p4 &&& (2 : Int32)) = (0 : Int32) then (0 : Int32) else (1 : Int32))), .val v117, .val v121, .val (.ref b_125), .unset, .unset, .val (.ref w_RequestState_FAILED), .unset] [])) _
          refine XS.goto X232.here hx rfl (pc0 := 234) (pc' := 242) rfl (hb hby at_234) (by decide) (by decide) ?_
          show Steps p.tables e below (T232.setTop (mkF m 242 #[.val (.int p0), .val (.int p1), .val (.int p2), .val (.int p3), .val (.int p4), .val (.long p5), .second, .val (.int ((p0 &&& (2147483647 : Int32)) % (4 : Int32))), .val (.int ((p1 &&& (2147483647 : Int32)) % (6 : Int32))), .val (.ref (if (p2 &&& (1 : Int32)) = (0 : Int32) then w_RequestKind_JOB else w_RequestKind_EXECUTE)), .val (.ref (V1 (p3 &&& (3 : Int32)) w_Execution_PENDING w_Execution_NOT_EXECUTED w_Execution_EXECUTED w_Execution_UNKNOWN)), .val (.int (if (p4 &&& (1 : Int32)) = (0 : Int32) then (0 : Int32) else (1 : Int32))), .val (.int (if (p4 &&& (2 : Int32)) = (0 : Int32) then (0 : Int32) else (1 : Int32))), .val v117, .val v121, .val (.ref b_125), .unset, .unset, .val (.ref w_RequestState_FAILED), .unset] [])) _
          refine st233 _ ?_
          show Steps p.tables e below (T233.setTop (mkF m 245 #[.val (.int p0), .val (.int p1), .val (.int p2), .val (.int p3), .val (.int p4), .val (.long p5), .second, .val (.int ((p0 &&& (2147483647 : Int32)) % (4 : Int32))), .val (.int ((p1 &&& (2147483647 : Int32)) % (6 : Int32))), .val (.ref (if (p2 &&& (1 : Int32)) = (0 : Int32) then w_RequestKind_JOB else w_RequestKind_EXECUTE)), .val (.ref (V1 (p3 &&& (3 : Int32)) w_Execution_PENDING w_Execution_NOT_EXECUTED w_Execution_EXECUTED w_Execution_UNKNOWN)), .val (.int (if (p4 &&& (1 : Int32)) = (0 : Int32) then (0 : Int32) else (1 : Int32))), .val (.int (if (p4 &&& (2 : Int32)) = (0 : Int32) then (0 : Int32) else (1 : Int32))), .val v117, .val v121, .val (.ref b_125), .unset, .unset, .val (.ref w_RequestState_FAILED), .unset] [(.ref b233)])) _
          refine XS.dup X233.here hx rfl (hb hby at_245) rfl rfl ?_
          show Steps p.tables e below (T233.setTop (mkF m 246 #[.val (.int p0), .val (.int p1), .val (.int p2), .val (.int p3), .val (.int p4), .val (.long p5), .second, .val (.int ((p0 &&& (2147483647 : Int32)) % (4 : Int32))), .val (.int ((p1 &&& (2147483647 : Int32)) % (6 : Int32))), .val (.ref (if (p2 &&& (1 : Int32)) = (0 : Int32) then w_RequestKind_JOB else w_RequestKind_EXECUTE)), .val (.ref (V1 (p3 &&& (3 : Int32)) w_Execution_PENDING w_Execution_NOT_EXECUTED w_Execution_EXECUTED w_Execution_UNKNOWN)), .val (.int (if (p4 &&& (1 : Int32)) = (0 : Int32) then (0 : Int32) else (1 : Int32))), .val (.int (if (p4 &&& (2 : Int32)) = (0 : Int32) then (0 : Int32) else (1 : Int32))), .val v117, .val v121, .val (.ref b_125), .unset, .unset, .val (.ref w_RequestState_FAILED), .unset] [(.ref b233), (.ref b233)])) _
          refine XS.aload X233.here hx rfl (hb hby at_246) rfl rfl ?_
          show Steps p.tables e below (T233.setTop (mkF m 248 #[.val (.int p0), .val (.int p1), .val (.int p2), .val (.int p3), .val (.int p4), .val (.long p5), .second, .val (.int ((p0 &&& (2147483647 : Int32)) % (4 : Int32))), .val (.int ((p1 &&& (2147483647 : Int32)) % (6 : Int32))), .val (.ref (if (p2 &&& (1 : Int32)) = (0 : Int32) then w_RequestKind_JOB else w_RequestKind_EXECUTE)), .val (.ref (V1 (p3 &&& (3 : Int32)) w_Execution_PENDING w_Execution_NOT_EXECUTED w_Execution_EXECUTED w_Execution_UNKNOWN)), .val (.int (if (p4 &&& (1 : Int32)) = (0 : Int32) then (0 : Int32) else (1 : Int32))), .val (.int (if (p4 &&& (2 : Int32)) = (0 : Int32) then (0 : Int32) else (1 : Int32))), .val v117, .val v121, .val (.ref b_125), .unset, .unset, .val (.ref w_RequestState_FAILED), .unset] [(.ref b_125), (.ref b233), (.ref b233)])) _
          refine XS.aload X233.here hx rfl (hb hby at_248) rfl rfl ?_
          show Steps p.tables e below (T233.setTop (mkF m 250 #[.val (.int p0), .val (.int p1), .val (.int p2), .val (.int p3), .val (.int p4), .val (.long p5), .second, .val (.int ((p0 &&& (2147483647 : Int32)) % (4 : Int32))), .val (.int ((p1 &&& (2147483647 : Int32)) % (6 : Int32))), .val (.ref (if (p2 &&& (1 : Int32)) = (0 : Int32) then w_RequestKind_JOB else w_RequestKind_EXECUTE)), .val (.ref (V1 (p3 &&& (3 : Int32)) w_Execution_PENDING w_Execution_NOT_EXECUTED w_Execution_EXECUTED w_Execution_UNKNOWN)), .val (.int (if (p4 &&& (1 : Int32)) = (0 : Int32) then (0 : Int32) else (1 : Int32))), .val (.int (if (p4 &&& (2 : Int32)) = (0 : Int32) then (0 : Int32) else (1 : Int32))), .val v117, .val v121, .val (.ref b_125), .unset, .unset, .val (.ref w_RequestState_FAILED), .unset] [(.ref (if (p2 &&& (1 : Int32)) = (0 : Int32) then w_RequestKind_JOB else w_RequestKind_EXECUTE)), (.ref b_125), (.ref b233), (.ref b233)])) _
          refine st234 _ ?_
          show Steps p.tables e below (T234.setTop (mkF m 252 #[.val (.int p0), .val (.int p1), .val (.int p2), .val (.int p3), .val (.int p4), .val (.long p5), .second, .val (.int ((p0 &&& (2147483647 : Int32)) % (4 : Int32))), .val (.int ((p1 &&& (2147483647 : Int32)) % (6 : Int32))), .val (.ref (if (p2 &&& (1 : Int32)) = (0 : Int32) then w_RequestKind_JOB else w_RequestKind_EXECUTE)), .val (.ref (V1 (p3 &&& (3 : Int32)) w_Execution_PENDING w_Execution_NOT_EXECUTED w_Execution_EXECUTED w_Execution_UNKNOWN)), .val (.int (if (p4 &&& (1 : Int32)) = (0 : Int32) then (0 : Int32) else (1 : Int32))), .val (.int (if (p4 &&& (2 : Int32)) = (0 : Int32) then (0 : Int32) else (1 : Int32))), .val v117, .val v121, .val (.ref b_125), .unset, .unset, .val (.ref w_RequestState_FAILED), .unset] [(.ref a234), (.ref (if (p2 &&& (1 : Int32)) = (0 : Int32) then w_RequestKind_JOB else w_RequestKind_EXECUTE)), (.ref b_125), (.ref b233), (.ref b233)])) _
          refine st235 _ ?_
          show Steps p.tables e below (T235.setTop (mkF m 254 #[.val (.int p0), .val (.int p1), .val (.int p2), .val (.int p3), .val (.int p4), .val (.long p5), .second, .val (.int ((p0 &&& (2147483647 : Int32)) % (4 : Int32))), .val (.int ((p1 &&& (2147483647 : Int32)) % (6 : Int32))), .val (.ref (if (p2 &&& (1 : Int32)) = (0 : Int32) then w_RequestKind_JOB else w_RequestKind_EXECUTE)), .val (.ref (V1 (p3 &&& (3 : Int32)) w_Execution_PENDING w_Execution_NOT_EXECUTED w_Execution_EXECUTED w_Execution_UNKNOWN)), .val (.int (if (p4 &&& (1 : Int32)) = (0 : Int32) then (0 : Int32) else (1 : Int32))), .val (.int (if (p4 &&& (2 : Int32)) = (0 : Int32) then (0 : Int32) else (1 : Int32))), .val v117, .val v121, .val (.ref b_125), .unset, .unset, .val (.ref w_RequestState_FAILED), .unset] [(.ref a235), (.ref a234), (.ref (if (p2 &&& (1 : Int32)) = (0 : Int32) then w_RequestKind_JOB else w_RequestKind_EXECUTE)), (.ref b_125), (.ref b233), (.ref b233)])) _
          refine XS.aload X235.here hx rfl (hb hby at_254) rfl rfl ?_
          show Steps p.tables e below (T235.setTop (mkF m 256 #[.val (.int p0), .val (.int p1), .val (.int p2), .val (.int p3), .val (.int p4), .val (.long p5), .second, .val (.int ((p0 &&& (2147483647 : Int32)) % (4 : Int32))), .val (.int ((p1 &&& (2147483647 : Int32)) % (6 : Int32))), .val (.ref (if (p2 &&& (1 : Int32)) = (0 : Int32) then w_RequestKind_JOB else w_RequestKind_EXECUTE)), .val (.ref (V1 (p3 &&& (3 : Int32)) w_Execution_PENDING w_Execution_NOT_EXECUTED w_Execution_EXECUTED w_Execution_UNKNOWN)), .val (.int (if (p4 &&& (1 : Int32)) = (0 : Int32) then (0 : Int32) else (1 : Int32))), .val (.int (if (p4 &&& (2 : Int32)) = (0 : Int32) then (0 : Int32) else (1 : Int32))), .val v117, .val v121, .val (.ref b_125), .unset, .unset, .val (.ref w_RequestState_FAILED), .unset] [(.ref w_RequestState_FAILED), (.ref a235), (.ref a234), (.ref (if (p2 &&& (1 : Int32)) = (0 : Int32) then w_RequestKind_JOB else w_RequestKind_EXECUTE)), (.ref b_125), (.ref b233), (.ref b233)])) _
          refine XS.aload X235.here hx rfl (hb hby at_256) rfl hv117 ?_
          show Steps p.tables e below (T235.setTop (mkF m 258 #[.val (.int p0), .val (.int p1), .val (.int p2), .val (.int p3), .val (.int p4), .val (.long p5), .second, .val (.int ((p0 &&& (2147483647 : Int32)) % (4 : Int32))), .val (.int ((p1 &&& (2147483647 : Int32)) % (6 : Int32))), .val (.ref (if (p2 &&& (1 : Int32)) = (0 : Int32) then w_RequestKind_JOB else w_RequestKind_EXECUTE)), .val (.ref (V1 (p3 &&& (3 : Int32)) w_Execution_PENDING w_Execution_NOT_EXECUTED w_Execution_EXECUTED w_Execution_UNKNOWN)), .val (.int (if (p4 &&& (1 : Int32)) = (0 : Int32) then (0 : Int32) else (1 : Int32))), .val (.int (if (p4 &&& (2 : Int32)) = (0 : Int32) then (0 : Int32) else (1 : Int32))), .val v117, .val v121, .val (.ref b_125), .unset, .unset, .val (.ref w_RequestState_FAILED), .unset] [v117, (.ref w_RequestState_FAILED), (.ref a235), (.ref a234), (.ref (if (p2 &&& (1 : Int32)) = (0 : Int32) then w_RequestKind_JOB else w_RequestKind_EXECUTE)), (.ref b_125), (.ref b233), (.ref b233)])) _
          refine XS.aconstNull X235.here hx rfl (hb hby at_258) ?_
          show Steps p.tables e below (T235.setTop (mkF m 259 #[.val (.int p0), .val (.int p1), .val (.int p2), .val (.int p3), .val (.int p4), .val (.long p5), .second, .val (.int ((p0 &&& (2147483647 : Int32)) % (4 : Int32))), .val (.int ((p1 &&& (2147483647 : Int32)) % (6 : Int32))), .val (.ref (if (p2 &&& (1 : Int32)) = (0 : Int32) then w_RequestKind_JOB else w_RequestKind_EXECUTE)), .val (.ref (V1 (p3 &&& (3 : Int32)) w_Execution_PENDING w_Execution_NOT_EXECUTED w_Execution_EXECUTED w_Execution_UNKNOWN)), .val (.int (if (p4 &&& (1 : Int32)) = (0 : Int32) then (0 : Int32) else (1 : Int32))), .val (.int (if (p4 &&& (2 : Int32)) = (0 : Int32) then (0 : Int32) else (1 : Int32))), .val v117, .val v121, .val (.ref b_125), .unset, .unset, .val (.ref w_RequestState_FAILED), .unset] [.null, v117, (.ref w_RequestState_FAILED), (.ref a235), (.ref a234), (.ref (if (p2 &&& (1 : Int32)) = (0 : Int32) then w_RequestKind_JOB else w_RequestKind_EXECUTE)), (.ref b_125), (.ref b233), (.ref b233)])) _
          refine st247.trans ?_
          show Steps p.tables e below (T247.setTop (mkF m 262 #[.val (.int p0), .val (.int p1), .val (.int p2), .val (.int p3), .val (.int p4), .val (.long p5), .second, .val (.int ((p0 &&& (2147483647 : Int32)) % (4 : Int32))), .val (.int ((p1 &&& (2147483647 : Int32)) % (6 : Int32))), .val (.ref (if (p2 &&& (1 : Int32)) = (0 : Int32) then w_RequestKind_JOB else w_RequestKind_EXECUTE)), .val (.ref (V1 (p3 &&& (3 : Int32)) w_Execution_PENDING w_Execution_NOT_EXECUTED w_Execution_EXECUTED w_Execution_UNKNOWN)), .val (.int (if (p4 &&& (1 : Int32)) = (0 : Int32) then (0 : Int32) else (1 : Int32))), .val (.int (if (p4 &&& (2 : Int32)) = (0 : Int32) then (0 : Int32) else (1 : Int32))), .val v117, .val v121, .val (.ref b_125), .unset, .unset, .val (.ref w_RequestState_FAILED), .unset] [(.ref b233)])) _
          refine XS.astore X247b.here hx rfl (hb hby at_262) rfl rfl (l' := #[.val (.int p0), .val (.int p1), .val (.int p2), .val (.int p3), .val (.int p4), .val (.long p5), .second, .val (.int ((p0 &&& (2147483647 : Int32)) % (4 : Int32))), .val (.int ((p1 &&& (2147483647 : Int32)) % (6 : Int32))), .val (.ref (if (p2 &&& (1 : Int32)) = (0 : Int32) then w_RequestKind_JOB else w_RequestKind_EXECUTE)), .val (.ref (V1 (p3 &&& (3 : Int32)) w_Execution_PENDING w_Execution_NOT_EXECUTED w_Execution_EXECUTED w_Execution_UNKNOWN)), .val (.int (if (p4 &&& (1 : Int32)) = (0 : Int32) then (0 : Int32) else (1 : Int32))), .val (.int (if (p4 &&& (2 : Int32)) = (0 : Int32) then (0 : Int32) else (1 : Int32))), .val v117, .val v121, .val (.ref b_125), .unset, .val (.ref b233), .val (.ref w_RequestState_FAILED), .unset]) rfl ?_
          show Steps p.tables e below (T247.setTop (mkF m 264 #[.val (.int p0), .val (.int p1), .val (.int p2), .val (.int p3), .val (.int p4), .val (.long p5), .second, .val (.int ((p0 &&& (2147483647 : Int32)) % (4 : Int32))), .val (.int ((p1 &&& (2147483647 : Int32)) % (6 : Int32))), .val (.ref (if (p2 &&& (1 : Int32)) = (0 : Int32) then w_RequestKind_JOB else w_RequestKind_EXECUTE)), .val (.ref (V1 (p3 &&& (3 : Int32)) w_Execution_PENDING w_Execution_NOT_EXECUTED w_Execution_EXECUTED w_Execution_UNKNOWN)), .val (.int (if (p4 &&& (1 : Int32)) = (0 : Int32) then (0 : Int32) else (1 : Int32))), .val (.int (if (p4 &&& (2 : Int32)) = (0 : Int32) then (0 : Int32) else (1 : Int32))), .val v117, .val v121, .val (.ref b_125), .unset, .val (.ref b233), .val (.ref w_RequestState_FAILED), .unset] [])) _
          refine XS.iload X247b.here hx rfl (hb hby at_264) rfl ?_
          show Steps p.tables e below (T247.setTop (mkF m 266 #[.val (.int p0), .val (.int p1), .val (.int p2), .val (.int p3), .val (.int p4), .val (.long p5), .second, .val (.int ((p0 &&& (2147483647 : Int32)) % (4 : Int32))), .val (.int ((p1 &&& (2147483647 : Int32)) % (6 : Int32))), .val (.ref (if (p2 &&& (1 : Int32)) = (0 : Int32) then w_RequestKind_JOB else w_RequestKind_EXECUTE)), .val (.ref (V1 (p3 &&& (3 : Int32)) w_Execution_PENDING w_Execution_NOT_EXECUTED w_Execution_EXECUTED w_Execution_UNKNOWN)), .val (.int (if (p4 &&& (1 : Int32)) = (0 : Int32) then (0 : Int32) else (1 : Int32))), .val (.int (if (p4 &&& (2 : Int32)) = (0 : Int32) then (0 : Int32) else (1 : Int32))), .val v117, .val v121, .val (.ref b_125), .unset, .val (.ref b233), .val (.ref w_RequestState_FAILED), .unset] [(.int ((p0 &&& (2147483647 : Int32)) % (4 : Int32)))])) _
          refine XS.ifNo X247b.here hx rfl (hb hby at_266) rfl ((if0 _ _).trans (feq hc199).1) ?_
          show Steps p.tables e below (T247.setTop (mkF m 269 #[.val (.int p0), .val (.int p1), .val (.int p2), .val (.int p3), .val (.int p4), .val (.long p5), .second, .val (.int ((p0 &&& (2147483647 : Int32)) % (4 : Int32))), .val (.int ((p1 &&& (2147483647 : Int32)) % (6 : Int32))), .val (.ref (if (p2 &&& (1 : Int32)) = (0 : Int32) then w_RequestKind_JOB else w_RequestKind_EXECUTE)), .val (.ref (V1 (p3 &&& (3 : Int32)) w_Execution_PENDING w_Execution_NOT_EXECUTED w_Execution_EXECUTED w_Execution_UNKNOWN)), .val (.int (if (p4 &&& (1 : Int32)) = (0 : Int32) then (0 : Int32) else (1 : Int32))), .val (.int (if (p4 &&& (2 : Int32)) = (0 : Int32) then (0 : Int32) else (1 : Int32))), .val v117, .val v121, .val (.ref b_125), .unset, .val (.ref b233), .val (.ref w_RequestState_FAILED), .unset] [])) _
          refine XS.iconst X247b.here hx rfl (hb hby at_269) ?_
          show Steps p.tables e below (T247.setTop (mkF m 270 #[.val (.int p0), .val (.int p1), .val (.int p2), .val (.int p3), .val (.int p4), .val (.long p5), .second, .val (.int ((p0 &&& (2147483647 : Int32)) % (4 : Int32))), .val (.int ((p1 &&& (2147483647 : Int32)) % (6 : Int32))), .val (.ref (if (p2 &&& (1 : Int32)) = (0 : Int32) then w_RequestKind_JOB else w_RequestKind_EXECUTE)), .val (.ref (V1 (p3 &&& (3 : Int32)) w_Execution_PENDING w_Execution_NOT_EXECUTED w_Execution_EXECUTED w_Execution_UNKNOWN)), .val (.int (if (p4 &&& (1 : Int32)) = (0 : Int32) then (0 : Int32) else (1 : Int32))), .val (.int (if (p4 &&& (2 : Int32)) = (0 : Int32) then (0 : Int32) else (1 : Int32))), .val v117, .val v121, .val (.ref b_125), .unset, .val (.ref b233), .val (.ref w_RequestState_FAILED), .unset] [(.int (1 : Int32))])) _
          refine XS.goto X247b.here hx rfl (pc0 := 270) (pc' := 274) rfl (hb hby at_270) (by decide) (by decide) ?_
          show Steps p.tables e below (T247.setTop (mkF m 274 #[.val (.int p0), .val (.int p1), .val (.int p2), .val (.int p3), .val (.int p4), .val (.long p5), .second, .val (.int ((p0 &&& (2147483647 : Int32)) % (4 : Int32))), .val (.int ((p1 &&& (2147483647 : Int32)) % (6 : Int32))), .val (.ref (if (p2 &&& (1 : Int32)) = (0 : Int32) then w_RequestKind_JOB else w_RequestKind_EXECUTE)), .val (.ref (V1 (p3 &&& (3 : Int32)) w_Execution_PENDING w_Execution_NOT_EXECUTED w_Execution_EXECUTED w_Execution_UNKNOWN)), .val (.int (if (p4 &&& (1 : Int32)) = (0 : Int32) then (0 : Int32) else (1 : Int32))), .val (.int (if (p4 &&& (2 : Int32)) = (0 : Int32) then (0 : Int32) else (1 : Int32))), .val v117, .val v121, .val (.ref b_125), .unset, .val (.ref b233), .val (.ref w_RequestState_FAILED), .unset] [(.int (1 : Int32))])) _
          refine XS.istore X247b.here hx rfl (hb hby at_274) rfl (l' := #[.val (.int p0), .val (.int p1), .val (.int p2), .val (.int p3), .val (.int p4), .val (.long p5), .second, .val (.int ((p0 &&& (2147483647 : Int32)) % (4 : Int32))), .val (.int ((p1 &&& (2147483647 : Int32)) % (6 : Int32))), .val (.ref (if (p2 &&& (1 : Int32)) = (0 : Int32) then w_RequestKind_JOB else w_RequestKind_EXECUTE)), .val (.ref (V1 (p3 &&& (3 : Int32)) w_Execution_PENDING w_Execution_NOT_EXECUTED w_Execution_EXECUTED w_Execution_UNKNOWN)), .val (.int (if (p4 &&& (1 : Int32)) = (0 : Int32) then (0 : Int32) else (1 : Int32))), .val (.int (if (p4 &&& (2 : Int32)) = (0 : Int32) then (0 : Int32) else (1 : Int32))), .val v117, .val v121, .val (.ref b_125), .val (.int (1 : Int32)), .val (.ref b233), .val (.ref w_RequestState_FAILED), .unset]) rfl ?_
          show Steps p.tables e below (T247.setTop (mkF m 276 #[.val (.int p0), .val (.int p1), .val (.int p2), .val (.int p3), .val (.int p4), .val (.long p5), .second, .val (.int ((p0 &&& (2147483647 : Int32)) % (4 : Int32))), .val (.int ((p1 &&& (2147483647 : Int32)) % (6 : Int32))), .val (.ref (if (p2 &&& (1 : Int32)) = (0 : Int32) then w_RequestKind_JOB else w_RequestKind_EXECUTE)), .val (.ref (V1 (p3 &&& (3 : Int32)) w_Execution_PENDING w_Execution_NOT_EXECUTED w_Execution_EXECUTED w_Execution_UNKNOWN)), .val (.int (if (p4 &&& (1 : Int32)) = (0 : Int32) then (0 : Int32) else (1 : Int32))), .val (.int (if (p4 &&& (2 : Int32)) = (0 : Int32) then (0 : Int32) else (1 : Int32))), .val v117, .val v121, .val (.ref b_125), .val (.int (1 : Int32)), .val (.ref b233), .val (.ref w_RequestState_FAILED), .unset] [])) _
          refine XS.aload X247b.here hx rfl (hb hby at_276) rfl rfl ?_
          show Steps p.tables e below (T247.setTop (mkF m 278 #[.val (.int p0), .val (.int p1), .val (.int p2), .val (.int p3), .val (.int p4), .val (.long p5), .second, .val (.int ((p0 &&& (2147483647 : Int32)) % (4 : Int32))), .val (.int ((p1 &&& (2147483647 : Int32)) % (6 : Int32))), .val (.ref (if (p2 &&& (1 : Int32)) = (0 : Int32) then w_RequestKind_JOB else w_RequestKind_EXECUTE)), .val (.ref (V1 (p3 &&& (3 : Int32)) w_Execution_PENDING w_Execution_NOT_EXECUTED w_Execution_EXECUTED w_Execution_UNKNOWN)), .val (.int (if (p4 &&& (1 : Int32)) = (0 : Int32) then (0 : Int32) else (1 : Int32))), .val (.int (if (p4 &&& (2 : Int32)) = (0 : Int32) then (0 : Int32) else (1 : Int32))), .val v117, .val v121, .val (.ref b_125), .val (.int (1 : Int32)), .val (.ref b233), .val (.ref w_RequestState_FAILED), .unset] [(.ref b233)])) _
          refine st249.trans ?_
          show Steps p.tables e below (T249.setTop (mkF m 281 #[.val (.int p0), .val (.int p1), .val (.int p2), .val (.int p3), .val (.int p4), .val (.long p5), .second, .val (.int ((p0 &&& (2147483647 : Int32)) % (4 : Int32))), .val (.int ((p1 &&& (2147483647 : Int32)) % (6 : Int32))), .val (.ref (if (p2 &&& (1 : Int32)) = (0 : Int32) then w_RequestKind_JOB else w_RequestKind_EXECUTE)), .val (.ref (V1 (p3 &&& (3 : Int32)) w_Execution_PENDING w_Execution_NOT_EXECUTED w_Execution_EXECUTED w_Execution_UNKNOWN)), .val (.int (if (p4 &&& (1 : Int32)) = (0 : Int32) then (0 : Int32) else (1 : Int32))), .val (.int (if (p4 &&& (2 : Int32)) = (0 : Int32) then (0 : Int32) else (1 : Int32))), .val v117, .val v121, .val (.ref b_125), .val (.int (1 : Int32)), .val (.ref b233), .val (.ref w_RequestState_FAILED), .unset] [(.int (nar .boolean (nar .boolean (1 : Int32))))])) _
          refine XS.iload X249.here hx rfl (hb hby at_281) rfl ?_
          show Steps p.tables e below (T249.setTop (mkF m 283 #[.val (.int p0), .val (.int p1), .val (.int p2), .val (.int p3), .val (.int p4), .val (.long p5), .second, .val (.int ((p0 &&& (2147483647 : Int32)) % (4 : Int32))), .val (.int ((p1 &&& (2147483647 : Int32)) % (6 : Int32))), .val (.ref (if (p2 &&& (1 : Int32)) = (0 : Int32) then w_RequestKind_JOB else w_RequestKind_EXECUTE)), .val (.ref (V1 (p3 &&& (3 : Int32)) w_Execution_PENDING w_Execution_NOT_EXECUTED w_Execution_EXECUTED w_Execution_UNKNOWN)), .val (.int (if (p4 &&& (1 : Int32)) = (0 : Int32) then (0 : Int32) else (1 : Int32))), .val (.int (if (p4 &&& (2 : Int32)) = (0 : Int32) then (0 : Int32) else (1 : Int32))), .val v117, .val v121, .val (.ref b_125), .val (.int (1 : Int32)), .val (.ref b233), .val (.ref w_RequestState_FAILED), .unset] [(.int (1 : Int32)), (.int (nar .boolean (nar .boolean (1 : Int32))))])) _
          refine XS.icmpNo X249.here hx rfl (hb hby at_283) rfl (teq (rfl : (nar .boolean (nar .boolean (1 : Int32))) = (1 : Int32))).2 ?_
          show Steps p.tables e below (T249.setTop (mkF m 286 #[.val (.int p0), .val (.int p1), .val (.int p2), .val (.int p3), .val (.int p4), .val (.long p5), .second, .val (.int ((p0 &&& (2147483647 : Int32)) % (4 : Int32))), .val (.int ((p1 &&& (2147483647 : Int32)) % (6 : Int32))), .val (.ref (if (p2 &&& (1 : Int32)) = (0 : Int32) then w_RequestKind_JOB else w_RequestKind_EXECUTE)), .val (.ref (V1 (p3 &&& (3 : Int32)) w_Execution_PENDING w_Execution_NOT_EXECUTED w_Execution_EXECUTED w_Execution_UNKNOWN)), .val (.int (if (p4 &&& (1 : Int32)) = (0 : Int32) then (0 : Int32) else (1 : Int32))), .val (.int (if (p4 &&& (2 : Int32)) = (0 : Int32) then (0 : Int32) else (1 : Int32))), .val v117, .val v121, .val (.ref b_125), .val (.int (1 : Int32)), .val (.ref b233), .val (.ref w_RequestState_FAILED), .unset] [])) _
          refine XS.iconst X249.here hx rfl (hb hby at_286) ?_
          show Steps p.tables e below (T249.setTop (mkF m 287 #[.val (.int p0), .val (.int p1), .val (.int p2), .val (.int p3), .val (.int p4), .val (.long p5), .second, .val (.int ((p0 &&& (2147483647 : Int32)) % (4 : Int32))), .val (.int ((p1 &&& (2147483647 : Int32)) % (6 : Int32))), .val (.ref (if (p2 &&& (1 : Int32)) = (0 : Int32) then w_RequestKind_JOB else w_RequestKind_EXECUTE)), .val (.ref (V1 (p3 &&& (3 : Int32)) w_Execution_PENDING w_Execution_NOT_EXECUTED w_Execution_EXECUTED w_Execution_UNKNOWN)), .val (.int (if (p4 &&& (1 : Int32)) = (0 : Int32) then (0 : Int32) else (1 : Int32))), .val (.int (if (p4 &&& (2 : Int32)) = (0 : Int32) then (0 : Int32) else (1 : Int32))), .val v117, .val v121, .val (.ref b_125), .val (.int (1 : Int32)), .val (.ref b233), .val (.ref w_RequestState_FAILED), .unset] [(.int (1 : Int32))])) _
          refine XS.goto X249.here hx rfl (pc0 := 287) (pc' := 291) rfl (hb hby at_287) (by decide) (by decide) ?_
          show Steps p.tables e below (T249.setTop (mkF m 291 #[.val (.int p0), .val (.int p1), .val (.int p2), .val (.int p3), .val (.int p4), .val (.long p5), .second, .val (.int ((p0 &&& (2147483647 : Int32)) % (4 : Int32))), .val (.int ((p1 &&& (2147483647 : Int32)) % (6 : Int32))), .val (.ref (if (p2 &&& (1 : Int32)) = (0 : Int32) then w_RequestKind_JOB else w_RequestKind_EXECUTE)), .val (.ref (V1 (p3 &&& (3 : Int32)) w_Execution_PENDING w_Execution_NOT_EXECUTED w_Execution_EXECUTED w_Execution_UNKNOWN)), .val (.int (if (p4 &&& (1 : Int32)) = (0 : Int32) then (0 : Int32) else (1 : Int32))), .val (.int (if (p4 &&& (2 : Int32)) = (0 : Int32) then (0 : Int32) else (1 : Int32))), .val v117, .val v121, .val (.ref b_125), .val (.int (1 : Int32)), .val (.ref b233), .val (.ref w_RequestState_FAILED), .unset] [(.int (1 : Int32))])) _
          exact Jvm.RoadKit.retOut X249 hx Bd.returns rfl (Or.inl ⟨rfl, by simp, _, rfl⟩) (hb hby at_291) hr
        · show Q_rm0 Z p0 p1 p2 p3 p4 p5 w_JobState_QUEUED w_JobState_FAILED w_JobState_RUNNING w_JobState_TIMEOUT w_RequestKind_JOB w_Execution_PENDING w_JobState_SUCCEEDED w_Execution_UNKNOWN w_JobState_CANCELLED w_Execution_EXECUTED w_RequestKind_EXECUTE w_Execution_NOT_EXECUTED w_RequestState_FAILED w_RequestState_SUCCEEDED w_RequestState_CANCELLED w_RequestState_WAITING_READY zc h0 n0 _ T249.heap _
          rw [e249]
          unfold Q_rm0
          exact ⟨rfl, N249, K256⟩
      · have O258 : Old Z n0 T125.heap := Old.keep O124 K125 all0
        have c257 : Sta Z T125.heap "com/example/done_once/doneonce/core/RequestState" "CANCELLED" "Lcom/example/done_once/doneonce/core/RequestState;" (.ref w_RequestState_CANCELLED) := Sta.ext (O258).2 S_RequestState_CANCELLED
        obtain ⟨T259, X259, e259, st259⟩ := getS2 X125 hx hZ121 hown121 (host := "") (Or.inl (hwk hw 176 rfl)) Via.refl (rfl : T125.heap = T125.heap) c257 (g := (mkF m 237 #[.val (.int p0), .val (.int p1), .val (.int p2), .val (.int p3), .val (.int p4), .val (.long p5), .second, .val (.int ((p0 &&& (2147483647 : Int32)) % (4 : Int32))), .val (.int ((p1 &&& (2147483647 : Int32)) % (6 : Int32))), .val (.ref (if (p2 &&& (1 : Int32)) = (0 : Int32) then w_RequestKind_JOB else w_RequestKind_EXECUTE)), .val (.ref (V1 (p3 &&& (3 : Int32)) w_Execution_PENDING w_Execution_NOT_EXECUTED w_Execution_EXECUTED w_Execution_UNKNOWN)), .val (.int (if (p4 &&& (1 : Int32)) = (0 : Int32) then (0 : Int32) else (1 : Int32))), .val (.int (if (p4 &&& (2 : Int32)) = (0 : Int32) then (0 : Int32) else (1 : Int32))), .val v117, .val v121, .val (.ref b_125), .unset, .unset, .unset, .unset] [])) rfl (hb hby at_237)
        obtain ⟨T260, h260, X260, e260, E260, A260, D260, -, st260⟩ := newO X259 hx hZ121 hown121 (hwk hw 40 rfl) (hwk hw 41 rfl) (hwk hw 42 rfl) e259 (g := (mkF m 242 #[.val (.int p0), .val (.int p1), .val (.int p2), .val (.int p3), .val (.int p4), .val (.long p5), .second, .val (.int ((p0 &&& (2147483647 : Int32)) % (4 : Int32))), .val (.int ((p1 &&& (2147483647 : Int32)) % (6 : Int32))), .val (.ref (if (p2 &&& (1 : Int32)) = (0 : Int32) then w_RequestKind_JOB else w_RequestKind_EXECUTE)), .val (.ref (V1 (p3 &&& (3 : Int32)) w_Execution_PENDING w_Execution_NOT_EXECUTED w_Execution_EXECUTED w_Execution_UNKNOWN)), .val (.int (if (p4 &&& (1 : Int32)) = (0 : Int32) then (0 : Int32) else (1 : Int32))), .val (.int (if (p4 &&& (2 : Int32)) = (0 : Int32) then (0 : Int32) else (1 : Int32))), .val v117, .val v121, .val (.ref b_125), .unset, .unset, .val (.ref w_RequestState_CANCELLED), .unset] [])) rfl (hb hby at_242) (by decide) (by decide)
        obtain ⟨b260, g260⟩ : ∃ z, z = T125.heap.size := ⟨_, rfl⟩
        rw [← g260] at A260 D260 st260
        have g_b260 : n0 ≤ b260 := Nat.le_trans (old_le O258) (Nat.le_of_eq g260.symm)
        obtain ⟨a261, T261, h261, k261, X261, e261, E261, hS261, hk261, hZ261, hown261, st261⟩ := ldcS X260 hx hZ121 hown121 (hwk hw 43 rfl) hstr e260 hS121 (Nat.le_trans hk121 (Nat.le_trans (Nat.le_trans (Nat.le_refl _) K125.1) E260.1)) (g := (mkF m 250 #[.val (.int p0), .val (.int p1), .val (.int p2), .val (.int p3), .val (.int p4), .val (.long p5), .second, .val (.int ((p0 &&& (2147483647 : Int32)) % (4 : Int32))), .val (.int ((p1 &&& (2147483647 : Int32)) % (6 : Int32))), .val (.ref (if (p2 &&& (1 : Int32)) = (0 : Int32) then w_RequestKind_JOB else w_RequestKind_EXECUTE)), .val (.ref (V1 (p3 &&& (3 : Int32)) w_Execution_PENDING w_Execution_NOT_EXECUTED w_Execution_EXECUTED w_Execution_UNKNOWN)), .val (.int (if (p4 &&& (1 : Int32)) = (0 : Int32) then (0 : Int32) else (1 : Int32))), .val (.int (if (p4 &&& (2 : Int32)) = (0 : Int32) then (0 : Int32) else (1 : Int32))), .val v117, .val v121, .val (.ref b_125), .unset, .unset, .val (.ref w_RequestState_CANCELLED), .unset] [(.ref (if (p2 &&& (1 : Int32)) = (0 : Int32) then w_RequestKind_JOB else w_RequestKind_EXECUTE)), (.ref b_125), (.ref b260), (.ref b260)])) rfl (hb hby at_250) (n := 4) (by decide) (by decide) (by decide) (by decide)
        obtain ⟨a262, T262, h262, k262, X262, e262, E262, hS262, hk262, hZ262, hown262, st262⟩ := ldcS X261 hx hZ261 hown261 (hwk hw 46 rfl) hstr e261 hS261 hk261 (g := (mkF m 252 #[.val (.int p0), .val (.int p1), .val (.int p2), .val (.int p3), .val (.int p4), .val (.long p5), .second, .val (.int ((p0 &&& (2147483647 : Int32)) % (4 : Int32))), .val (.int ((p1 &&& (2147483647 : Int32)) % (6 : Int32))), .val (.ref (if (p2 &&& (1 : Int32)) = (0 : Int32) then w_RequestKind_JOB else w_RequestKind_EXECUTE)), .val (.ref (V1 (p3 &&& (3 : Int32)) w_Execution_PENDING w_Execution_NOT_EXECUTED w_Execution_EXECUTED w_Execution_UNKNOWN)), .val (.int (if (p4 &&& (1 : Int32)) = (0 : Int32) then (0 : Int32) else (1 : Int32))), .val (.int (if (p4 &&& (2 : Int32)) = (0 : Int32) then (0 : Int32) else (1 : Int32))), .val v117, .val v121, .val (.ref b_125), .unset, .unset, .val (.ref w_RequestState_CANCELLED), .unset] [(.ref a261), (.ref (if (p2 &&& (1 : Int32)) = (0 : Int32) then w_RequestKind_JOB else w_RequestKind_EXECUTE)), (.ref b_125), (.ref b260), (.ref b260)])) rfl (hb hby at_252) (n := 4) (by decide) (by decide) (by decide) (by decide)
        have c263 : Exa Z h262 b260 "com/example/done_once/doneonce/store/Request" := (Exa.ext E262 (Exa.ext E261 A260))
        have c264 : Fld Z h262 b260 "com/example/done_once/doneonce/store/Request" "requestId" "Ljava/lang/String;" .null := (Fld.ext E262 (Fld.ext E261 (show Fld Z h260 b260 "com/example/done_once/doneonce/store/Request" "requestId" "Ljava/lang/String;" .null from D260 (Or.inr (hwk hw 66 rfl)) (ty := (.object "java/lang/String")) (by decide))))
        have c265 : Fld Z h262 b260 "com/example/done_once/doneonce/store/Request" "kind" "Lcom/example/done_once/doneonce/core/RequestKind;" .null := (Fld.ext E262 (Fld.ext E261 (show Fld Z h260 b260 "com/example/done_once/doneonce/store/Request" "kind" "Lcom/example/done_once/doneonce/core/RequestKind;" .null from D260 (Or.inr (hwk hw 68 rfl)) (ty := (.object "com/example/done_once/doneonce/core/RequestKind")) (by decide))))
        have c266 : Fld Z h262 b260 "com/example/done_once/doneonce/store/Request" "lane" "Ljava/lang/String;" .null := (Fld.ext E262 (Fld.ext E261 (show Fld Z h260 b260 "com/example/done_once/doneonce/store/Request" "lane" "Ljava/lang/String;" .null from D260 (Or.inr (hwk hw 70 rfl)) (ty := (.object "java/lang/String")) (by decide))))
        have c267 : Fld Z h262 b260 "com/example/done_once/doneonce/store/Request" "tool" "Ljava/lang/String;" .null := (Fld.ext E262 (Fld.ext E261 (show Fld Z h260 b260 "com/example/done_once/doneonce/store/Request" "tool" "Ljava/lang/String;" .null from D260 (Or.inr (hwk hw 72 rfl)) (ty := (.object "java/lang/String")) (by decide))))
        have c268 : Fld Z h262 b260 "com/example/done_once/doneonce/store/Request" "state" "Lcom/example/done_once/doneonce/core/RequestState;" .null := (Fld.ext E262 (Fld.ext E261 (show Fld Z h260 b260 "com/example/done_once/doneonce/store/Request" "state" "Lcom/example/done_once/doneonce/core/RequestState;" .null from D260 (Or.inr (hwk hw 74 rfl)) (ty := (.object "com/example/done_once/doneonce/core/RequestState")) (by decide))))
        have c269 : Fld Z h262 b260 "com/example/done_once/doneonce/store/Request" "error" "Ljava/lang/String;" .null := (Fld.ext E262 (Fld.ext E261 (show Fld Z h260 b260 "com/example/done_once/doneonce/store/Request" "error" "Ljava/lang/String;" .null from D260 (Or.inr (hwk hw 76 rfl)) (ty := (.object "java/lang/String")) (by decide))))
        have c270 : Fld Z h262 b260 "com/example/done_once/doneonce/store/Request" "job" "Lcom/example/done_once/doneonce/store/Job;" .null := (Fld.ext E262 (Fld.ext E261 (show Fld Z h260 b260 "com/example/done_once/doneonce/store/Request" "job" "Lcom/example/done_once/doneonce/store/Job;" .null from D260 (Or.inr (hwk hw 78 rfl)) (ty := (.object "com/example/done_once/doneonce/store/Job")) (by decide))))
        have O271 : Old Z n0 h260 := Old.ext O258 E260
        have O272 : Old Z n0 h261 := Old.ext O271 E261
        have O273 : Old Z n0 h262 := Old.ext O272 E262
        obtain ⟨_, _, ⟨T274, L274, k274, n274⟩, -, X274, hs274', hg274', ⟨Lc274, hQ274, l274, y274, z274⟩, st274⟩ := X262.specialBackS hx (y := (⟨"com/example/done_once/doneonce/store/Request", "<init>", "(Ljava/lang/String;Lcom/example/done_once/doneonce/core/RequestKind;Ljava/lang/String;Ljava/lang/String;Lcom/example/done_once/doneonce/core/RequestState;Ljava/lang/String;Lcom/example/done_once/doneonce/store/Job;)V"⟩ : MethodName)) rfl hown262 (mvT hZ262 (hwk hw 47 rfl)) (mvT hZ262 (hwk hw 48 rfl)) (mvT hZ262 (hwk hw 49 rfl)) (by decide) (backOfS (W := 1) (rm7n l Z a0 hw [] b260 b_125 (if (p2 &&& (1 : Int32)) = (0 : Int32) then w_RequestKind_JOB else w_RequestKind_EXECUTE) a261 a262 w_RequestState_CANCELLED v117 w_RequestState_SUCCEEDED h262 n0 O273 c263 g_b260 c264 c265 c266 c267 c268 c269 c270 hv117 S_RequestState_SUCCEEDED (Fld.ne F_w_RequestState_CANCELLED_ordinal F_w_RequestState_SUCCEEDED_ordinal (by simp))) hZ262 (hwk hw 49 rfl) (hwk hw 42 rfl) (by decide) (by decide)) (g := (mkF m 259 #[.val (.int p0), .val (.int p1), .val (.int p2), .val (.int p3), .val (.int p4), .val (.long p5), .second, .val (.int ((p0 &&& (2147483647 : Int32)) % (4 : Int32))), .val (.int ((p1 &&& (2147483647 : Int32)) % (6 : Int32))), .val (.ref (if (p2 &&& (1 : Int32)) = (0 : Int32) then w_RequestKind_JOB else w_RequestKind_EXECUTE)), .val (.ref (V1 (p3 &&& (3 : Int32)) w_Execution_PENDING w_Execution_NOT_EXECUTED w_Execution_EXECUTED w_Execution_UNKNOWN)), .val (.int (if (p4 &&& (1 : Int32)) = (0 : Int32) then (0 : Int32) else (1 : Int32))), .val (.int (if (p4 &&& (2 : Int32)) = (0 : Int32) then (0 : Int32) else (1 : Int32))), .val v117, .val v121, .val (.ref b_125), .unset, .unset, .val (.ref w_RequestState_CANCELLED), .unset] [.null, v117, (.ref w_RequestState_CANCELLED), (.ref a262), (.ref a261), (.ref (if (p2 &&& (1 : Int32)) = (0 : Int32) then w_RequestKind_JOB else w_RequestKind_EXECUTE)), (.ref b_125), (.ref b260), (.ref b260)])) rfl (by rw [hml]; rfl) (Steps.refl _) (a := b260) (argsL := [(.ref b_125), (.ref (if (p2 &&& (1 : Int32)) = (0 : Int32) then w_RequestKind_JOB else w_RequestKind_EXECUTE)), (.ref a261), (.ref a262), (.ref w_RequestState_CANCELLED), v117, .null]) (rest := [(.ref b260)]) (lenOf pd_13 rfl) rfl (by show 2 * 0 + _ ≤ _; exact Nat.le_of_eq rfl) (hb hby at_259) (fun _ _ => ⟨rfl, e262, (by decide : 11 + 6 ≤ _), (by decide : 44 + 292 ≤ _)⟩)
        dsimp only [Pt.U, Pt.locs, Pt.cells, Pt.slots] at X274 l274 y274 z274 st274 hQ274 hs274' hg274'
        subst l274 y274 z274
        obtain ⟨X274b, hS274, hZ274, hown274⟩ := rebS hS262 (show _ ≤ T262.heap.size from by rw [e262]; exact hk262) X274 hs274' hg274' hZ262 hown262
        unfold Q_rm7n at hQ274
        obtain ⟨rfl, N274q, K274, f274_0, f274_1, f274_2⟩ := hQ274
        have N274 := Fr.app N125 N274q
        have O275 : Old Z n0 T274.heap := Old.keep O273 K274 (allS g_b260 all0)
        obtain ⟨cq276, kq276, q276a, q276b, q276c⟩ := isOf hZ274 (rfl : T274.heap = T274.heap) f274_0
        obtain ⟨_, _, ⟨T276, L276, k276, n276⟩, -, X276, ⟨Lc276, hQ276, l276, y276, z276⟩, st276⟩ := X274b.virtualBack hx (y := (⟨"com/example/done_once/doneonce/store/Request", "ended", "()Z"⟩ : MethodName)) (z := (⟨"com/example/done_once/doneonce/store/Request", "ended", "()Z"⟩ : MethodName)) hown274 (mvT hZ274 (hwk hw 79 rfl)) (mvT hZ274 (hwk hw 80 rfl)) (notFace_of_selects (args := #[]) (mvT hZ274 (hwk hw 82 rfl))) (mvT hZ274 (hwk hw 82 rfl)) (mvT hZ274 (hwk hw 81 rfl)) (by decide) (backOf (W := 0) (rm10n l Z a0 hw [] b260 w_RequestState_CANCELLED (1 : Int32) T274.heap n0 O275 f274_2 f274_1 E_w_RequestState_CANCELLED F_w_RequestState_CANCELLED_terminal) hZ274 (hwk hw 83 rfl) (hwk hw 42 rfl) (by decide) (by decide)) q276a q276c (g := (mkF m 278 #[.val (.int p0), .val (.int p1), .val (.int p2), .val (.int p3), .val (.int p4), .val (.long p5), .second, .val (.int ((p0 &&& (2147483647 : Int32)) % (4 : Int32))), .val (.int ((p1 &&& (2147483647 : Int32)) % (6 : Int32))), .val (.ref (if (p2 &&& (1 : Int32)) = (0 : Int32) then w_RequestKind_JOB else w_RequestKind_EXECUTE)), .val (.ref (V1 (p3 &&& (3 : Int32)) w_Execution_PENDING w_Execution_NOT_EXECUTED w_Execution_EXECUTED w_Execution_UNKNOWN)), .val (.int (if (p4 &&& (1 : Int32)) = (0 : Int32) then (0 : Int32) else (1 : Int32))), .val (.int (if (p4 &&& (2 : Int32)) = (0 : Int32) then (0 : Int32) else (1 : Int32))), .val v117, .val v121, .val (.ref b_125), .val (.int (1 : Int32)), .val (.ref b260), .val (.ref w_RequestState_CANCELLED), .unset] [(.ref b260)])) rfl (by rw [hml]; rfl) (Steps.refl _) (argsL := []) (rest := []) (lenOf pd_5 rfl) rfl (by show 2 * 0 + _ ≤ _; exact Nat.le_of_eq rfl) (hb hby at_278) (fun _ _ => ⟨rfl, (rfl : T274.heap = T274.heap), (by decide : 17 + 0 ≤ _), (by decide : 336 + 0 ≤ _)⟩)
        dsimp only [Pt.U, Pt.locs, Pt.cells, Pt.slots] at X276 l276 y276 z276 st276 hQ276
        subst l276 y276 z276
        unfold Q_rm10n at hQ276
        obtain ⟨rfl, N276q, e276⟩ := hQ276
        have N276 := Fr.app N274 N276q
        have K277 : Keep h0 h117 [] := Keep.ext (Keep.refl h0 []) E117
        have K278 : Keep h0 h121 [] := Keep.ext K277 E121
        have K279 : Keep h0 T125.heap [] := Keep.trans K278 K125 all0
        have K280 : Keep h0 h260 [] := Keep.ext K279 E260
        have K281 : Keep h0 h261 [] := Keep.ext K280 E261
        have K282 : Keep h0 h262 [] := Keep.ext K281 E262
        have K283 : Keep h0 T274.heap [] := Keep.trans K282 K274 (allS (Or.inr (Nat.le_trans (Nat.le_trans (Nat.le_trans (Nat.le_trans (Nat.le_refl _) E117.1) E121.1) K125.1) (Nat.le_of_eq g260.symm))) all0)
        obtain ⟨fs, hr, hrun, hended, hRE⟩ := X276.leaveW hS274 (show _ ≤ T276.heap.size from by rw [e276]; exact (Nat.le_refl _)) (v := some (.int (1 : Int32))) (fun h => by rw [Bd.returns] at h; cases h)
        refine ⟨_, _, S229 _ ?_, hrun, hended, _, _, rfl, ?_, hRE.1, hRE.2.1, hRE.2.2.1, hRE.2.2.2.mono (by decide) (by decide)⟩
        · show Steps p.tables e below (T125.setTop (mkF m 226 #[.val (.int p0), .val (.int p1), .val (.int p2), .val (.int p3), .val (.int p4), .val (.long p5), .second, .val (.int ((p0 &&& (2147483647 : Int32)) % (4 : Int32))), .val (.int ((p1 &&& (2147483647 : Int32)) % (6 : Int32))), .val (.ref (if (p2 &&& (1 : Int32)) = (0 : Int32) then w_RequestKind_JOB else w_RequestKind_EXECUTE)), .val (.ref (V1 (p3 &&& (3 : Int32)) w_Execution_PENDING w_Execution_NOT_EXECUTED w_Execution_EXECUTED w_Execution_UNKNOWN)), .val (.int (if (p4 &&& (1 : Int32)) = (0 : Int32) then (0 : Int32) else (1 : Int32))), .val (.int (if (p4 &&& (2 : Int32)) = (0 : Int32) then (0 : Int32) else (1 : Int32))), .val v117, .val v121, .val (.ref b_125), .unset, .unset, .unset, .unset] [(.int (2 : Int32)), (.int ((p0 &&& (2147483647 : Int32)) % (4 : Int32)))])) _
          refine XS.icmpYes X125.here hx rfl (pc0 := 226) (pc' := 237) rfl (hb hby at_226) rfl (feq hc228).2 (by decide) (by decide) ?_
          show Steps p.tables e below (T125.setTop (mkF m 237 #[.val (.int p0), .val (.int p1), .val (.int p2), .val (.int p3), .val (.int p4), .val (.long p5), .second, .val (.int ((p0 &&& (2147483647 : Int32)) % (4 : Int32))), .val (.int ((p1 &&& (2147483647 : Int32)) % (6 : Int32))), .val (.ref (if (p2 &&& (1 : Int32)) = (0 : Int32) then w_RequestKind_JOB else w_RequestKind_EXECUTE)), .val (.ref (V1 (p3 &&& (3 : Int32)) w_Execution_PENDING w_Execution_NOT_EXECUTED w_Execution_EXECUTED w_Execution_UNKNOWN)), .val (.int (if (p4 &&& (1 : Int32)) = (0 : Int32) then (0 : Int32) else (1 : Int32))), .val (.int (if (p4 &&& (2 : Int32)) = (0 : Int32) then (0 : Int32) else (1 : Int32))), .val v117, .val v121, .val (.ref b_125), .unset, .unset, .unset, .unset] [])) _
          refine st259 _ ?_
          show Steps p.tables e below (T259.setTop (mkF m 240 #[.val (.int p0), .val (.int p1), .val (.int p2), .val (.int p3), .val (.int p4), .val (.long p5), .second, .val (.int ((p0 &&& (2147483647 : Int32)) % (4 : Int32))), .val (.int ((p1 &&& (2147483647 : Int32)) % (6 : Int32))), .val (.ref (if (p2 &&& (1 : Int32)) = (0 : Int32) then w_RequestKind_JOB else w_RequestKind_EXECUTE)), .val (.ref (V1 (p3 &&& (3 : Int32)) w_Execution_PENDING w_Execution_NOT_EXECUTED w_Execution_EXECUTED w_Execution_UNKNOWN)), .val (.int (if (p4 &&& (1 : Int32)) = (0 : Int32) then (0 : Int32) else (1 : Int32))), .val (.int (if (p4 &&& (2 : Int32)) = (0 : Int32) then (0 : Int32) else (1 : Int32))), .val v117, .val v121, .val (.ref b_125), .unset, .unset, .unset, .unset] [(.ref w_RequestState_CANCELLED)])) _
          refine XS.astore X259.here hx rfl (hb hby at_240) rfl rfl (l' := #[.val (.int p0), .val (.int p1), .val (.int p2), .val (.int p3), .val (.int p4), .val (.long p5), .second, .val (.int ((p0 &&& (2147483647 : Int32)) % (4 : Int32))), .val (.int ((p1 &&& (2147483647 : Int32)) % (6 : Int32))), .val (.ref (if (p2 &&& (1 : Int32)) = (0 : Int32) then w_RequestKind_JOB else w_RequestKind_EXECUTE)), .val (.ref (V1 (p3 &&& (3 : Int32)) w_Execution_PENDING w_Execution_NOT_EXECUTED w_Execution_EXECUTED w_Execution_UNKNOWN)), .val (.int (if (p4 &&& (1 : Int32)) = (0 : Int32) then (0 : Int32) else (1 : Int32))), .val (.int (if (p4 &&& (2 : Int32)) = (0 : Int32) then (0 : Int32) else (1 : Int32))), .val v117, .val v121, .val (.ref b_125), .unset, .unset, .val (.ref w_RequestState_CANCELLED), .unset]) rfl ?_
          show Steps p.tables e below (T259.setTop (mkF m 242 #[.val (.int p0), .val (.int p1), .val (.int p2), .val (.int p3), .val (.int p4), .val (.long p5), .second, .val (.int ((p0 &&& (2147483647 : Int32)) % (4 : Int32))), .val (.int ((p1 &&& (2147483647 : Int32)) % (6 : Int32))), .val (.ref (if (p2 &&& (1 : Int32)) = (0 : Int32) then w_RequestKind_JOB else w_RequestKind_EXECUTE)), .val (.ref (V1 (p3 &&& (3 : Int32)) w_Execution_PENDING w_Execution_NOT_EXECUTED w_Execution_EXECUTED w_Execution_UNKNOWN)), .val (.int (if (p4 &&& (1 : Int32)) = (0 : Int32) then (0 : Int32) else (1 : Int32))), .val (.int (if (p4 &&& (2 : Int32)) = (0 : Int32) then (0 : Int32) else (1 : Int32))), .val v117, .val v121, .val (.ref b_125), .unset, .unset, .val (.ref w_RequestState_CANCELLED), .unset] [])) _
          refine st260 _ ?_
          show Steps p.tables e below (T260.setTop (mkF m 245 #[.val (.int p0), .val (.int p1), .val (.int p2), .val (.int p3), .val (.int p4), .val (.long p5), .second, .val (.int ((p0 &&& (2147483647 : Int32)) % (4 : Int32))), .val (.int ((p1 &&& (2147483647 : Int32)) % (6 : Int32))), .val (.ref (if (p2 &&& (1 : Int32)) = (0 : Int32) then w_RequestKind_JOB else w_RequestKind_EXECUTE)), .val (.ref (V1 (p3 &&& (3 : Int32)) w_Execution_PENDING w_Execution_NOT_EXECUTED w_Execution_EXECUTED w_Execution_UNKNOWN)), .val (.int (if (p4 &&& (1 : Int32)) = (0 : Int32) then (0 : Int32) else (1 : Int32))), .val (.int (if (p4 &&& (2 : Int32)) = (0 : Int32) then (0 : Int32) else (1 : Int32))), .val v117, .val v121, .val (.ref b_125), .unset, .unset, .val (.ref w_RequestState_CANCELLED), .unset] [(.ref b260)])) _
          refine XS.dup X260.here hx rfl (hb hby at_245) rfl rfl ?_
          show Steps p.tables e below (T260.setTop (mkF m 246 #[.val (.int p0), .val (.int p1), .val (.int p2), .val (.int p3), .val (.int p4), .val (.long p5), .second, .val (.int ((p0 &&& (2147483647 : Int32)) % (4 : Int32))), .val (.int ((p1 &&& (2147483647 : Int32)) % (6 : Int32))), .val (.ref (if (p2 &&& (1 : Int32)) = (0 : Int32) then w_RequestKind_JOB else w_RequestKind_EXECUTE)), .val (.ref (V1 (p3 &&& (3 : Int32)) w_Execution_PENDING w_Execution_NOT_EXECUTED w_Execution_EXECUTED w_Execution_UNKNOWN)), .val (.int (if (p4 &&& (1 : Int32)) = (0 : Int32) then (0 : Int32) else (1 : Int32))), .val (.int (if (p4 &&& (2 : Int32)) = (0 : Int32) then (0 : Int32) else (1 : Int32))), .val v117, .val v121, .val (.ref b_125), .unset, .unset, .val (.ref w_RequestState_CANCELLED), .unset] [(.ref b260), (.ref b260)])) _
          refine XS.aload X260.here hx rfl (hb hby at_246) rfl rfl ?_
          show Steps p.tables e below (T260.setTop (mkF m 248 #[.val (.int p0), .val (.int p1), .val (.int p2), .val (.int p3), .val (.int p4), .val (.long p5), .second, .val (.int ((p0 &&& (2147483647 : Int32)) % (4 : Int32))), .val (.int ((p1 &&& (2147483647 : Int32)) % (6 : Int32))), .val (.ref (if (p2 &&& (1 : Int32)) = (0 : Int32) then w_RequestKind_JOB else w_RequestKind_EXECUTE)), .val (.ref (V1 (p3 &&& (3 : Int32)) w_Execution_PENDING w_Execution_NOT_EXECUTED w_Execution_EXECUTED w_Execution_UNKNOWN)), .val (.int (if (p4 &&& (1 : Int32)) = (0 : Int32) then (0 : Int32) else (1 : Int32))), .val (.int (if (p4 &&& (2 : Int32)) = (0 : Int32) then (0 : Int32) else (1 : Int32))), .val v117, .val v121, .val (.ref b_125), .unset, .unset, .val (.ref w_RequestState_CANCELLED), .unset] [(.ref b_125), (.ref b260), (.ref b260)])) _
          refine XS.aload X260.here hx rfl (hb hby at_248) rfl rfl ?_
          show Steps p.tables e below (T260.setTop (mkF m 250 #[.val (.int p0), .val (.int p1), .val (.int p2), .val (.int p3), .val (.int p4), .val (.long p5), .second, .val (.int ((p0 &&& (2147483647 : Int32)) % (4 : Int32))), .val (.int ((p1 &&& (2147483647 : Int32)) % (6 : Int32))), .val (.ref (if (p2 &&& (1 : Int32)) = (0 : Int32) then w_RequestKind_JOB else w_RequestKind_EXECUTE)), .val (.ref (V1 (p3 &&& (3 : Int32)) w_Execution_PENDING w_Execution_NOT_EXECUTED w_Execution_EXECUTED w_Execution_UNKNOWN)), .val (.int (if (p4 &&& (1 : Int32)) = (0 : Int32) then (0 : Int32) else (1 : Int32))), .val (.int (if (p4 &&& (2 : Int32)) = (0 : Int32) then (0 : Int32) else (1 : Int32))), .val v117, .val v121, .val (.ref b_125), .unset, .unset, .val (.ref w_RequestState_CANCELLED), .unset] [(.ref (if (p2 &&& (1 : Int32)) = (0 : Int32) then w_RequestKind_JOB else w_RequestKind_EXECUTE)), (.ref b_125), (.ref b260), (.ref b260)])) _
          refine st261 _ ?_
          show Steps p.tables e below (T261.setTop (mkF m 252 #[.val (.int p0), .val (.int p1), .val (.int p2), .val (.int p3), .val (.int p4), .val (.long p5), .second, .val (.int ((p0 &&& (2147483647 : Int32)) % (4 : Int32))), .val (.int ((p1 &&& (2147483647 : Int32)) % (6 : Int32))), .val (.ref (if (p2 &&& (1 : Int32)) = (0 : Int32) then w_RequestKind_JOB else w_RequestKind_EXECUTE)), .val (.ref (V1 (p3 &&& (3 : Int32)) w_Execution_PENDING w_Execution_NOT_EXECUTED w_Execution_EXECUTED w_Execution_UNKNOWN)), .val (.int (if (p4 &&& (1 : Int32)) = (0 : Int32) then (0 : Int32) else (1 : Int32))), .val (.int (if (p4 &&& (2 : Int32)) = (0 : Int32) then (0 : Int32) else (1 : Int32))), .val v117, .val v121, .val (.ref b_125), .unset, .unset, .val (.ref w_RequestState_CANCELLED), .unset] [(.ref a261), (.ref (if (p2 &&& (1 : Int32)) = (0 : Int32) then w_RequestKind_JOB else w_RequestKind_EXECUTE)), (.ref b_125), (.ref b260), (.ref b260)])) _
          refine st262 _ ?_
          show Steps p.tables e below (T262.setTop (mkF m 254 #[.val (.int p0), .val (.int p1), .val (.int p2), .val (.int p3), .val (.int p4), .val (.long p5), .second, .val (.int ((p0 &&& (2147483647 : Int32)) % (4 : Int32))), .val (.int ((p1 &&& (2147483647 : Int32)) % (6 : Int32))), .val (.ref (if (p2 &&& (1 : Int32)) = (0 : Int32) then w_RequestKind_JOB else w_RequestKind_EXECUTE)), .val (.ref (V1 (p3 &&& (3 : Int32)) w_Execution_PENDING w_Execution_NOT_EXECUTED w_Execution_EXECUTED w_Execution_UNKNOWN)), .val (.int (if (p4 &&& (1 : Int32)) = (0 : Int32) then (0 : Int32) else (1 : Int32))), .val (.int (if (p4 &&& (2 : Int32)) = (0 : Int32) then (0 : Int32) else (1 : Int32))), .val v117, .val v121, .val (.ref b_125), .unset, .unset, .val (.ref w_RequestState_CANCELLED), .unset] [(.ref a262), (.ref a261), (.ref (if (p2 &&& (1 : Int32)) = (0 : Int32) then w_RequestKind_JOB else w_RequestKind_EXECUTE)), (.ref b_125), (.ref b260), (.ref b260)])) _
          refine XS.aload X262.here hx rfl (hb hby at_254) rfl rfl ?_
          show Steps p.tables e below (T262.setTop (mkF m 256 #[.val (.int p0), .val (.int p1), .val (.int p2), .val (.int p3), .val (.int p4), .val (.long p5), .second, .val (.int ((p0 &&& (2147483647 : Int32)) % (4 : Int32))), .val (.int ((p1 &&& (2147483647 : Int32)) % (6 : Int32))), .val (.ref (if (p2 &&& (1 : Int32)) = (0 : Int32) then w_RequestKind_JOB else w_RequestKind_EXECUTE)), .val (.ref (V1 (p3 &&& (3 : Int32)) w_Execution_PENDING w_Execution_NOT_EXECUTED w_Execution_EXECUTED w_Execution_UNKNOWN)), .val (.int (if (p4 &&& (1 : Int32)) = (0 : Int32) then (0 : Int32) else (1 : Int32))), .val (.int (if (p4 &&& (2 : Int32)) = (0 : Int32) then (0 : Int32) else (1 : Int32))), .val v117, .val v121, .val (.ref b_125), .unset, .unset, .val (.ref w_RequestState_CANCELLED), .unset] [(.ref w_RequestState_CANCELLED), (.ref a262), (.ref a261), (.ref (if (p2 &&& (1 : Int32)) = (0 : Int32) then w_RequestKind_JOB else w_RequestKind_EXECUTE)), (.ref b_125), (.ref b260), (.ref b260)])) _
          refine XS.aload X262.here hx rfl (hb hby at_256) rfl hv117 ?_
          show Steps p.tables e below (T262.setTop (mkF m 258 #[.val (.int p0), .val (.int p1), .val (.int p2), .val (.int p3), .val (.int p4), .val (.long p5), .second, .val (.int ((p0 &&& (2147483647 : Int32)) % (4 : Int32))), .val (.int ((p1 &&& (2147483647 : Int32)) % (6 : Int32))), .val (.ref (if (p2 &&& (1 : Int32)) = (0 : Int32) then w_RequestKind_JOB else w_RequestKind_EXECUTE)), .val (.ref (V1 (p3 &&& (3 : Int32)) w_Execution_PENDING w_Execution_NOT_EXECUTED w_Execution_EXECUTED w_Execution_UNKNOWN)), .val (.int (if (p4 &&& (1 : Int32)) = (0 : Int32) then (0 : Int32) else (1 : Int32))), .val (.int (if (p4 &&& (2 : Int32)) = (0 : Int32) then (0 : Int32) else (1 : Int32))), .val v117, .val v121, .val (.ref b_125), .unset, .unset, .val (.ref w_RequestState_CANCELLED), .unset] [v117, (.ref w_RequestState_CANCELLED), (.ref a262), (.ref a261), (.ref (if (p2 &&& (1 : Int32)) = (0 : Int32) then w_RequestKind_JOB else w_RequestKind_EXECUTE)), (.ref b_125), (.ref b260), (.ref b260)])) _
          refine XS.aconstNull X262.here hx rfl (hb hby at_258) ?_
          show Steps p.tables e below (T262.setTop (mkF m 259 #[.val (.int p0), .val (.int p1), .val (.int p2), .val (.int p3), .val (.int p4), .val (.long p5), .second, .val (.int ((p0 &&& (2147483647 : Int32)) % (4 : Int32))), .val (.int ((p1 &&& (2147483647 : Int32)) % (6 : Int32))), .val (.ref (if (p2 &&& (1 : Int32)) = (0 : Int32) then w_RequestKind_JOB else w_RequestKind_EXECUTE)), .val (.ref (V1 (p3 &&& (3 : Int32)) w_Execution_PENDING w_Execution_NOT_EXECUTED w_Execution_EXECUTED w_Execution_UNKNOWN)), .val (.int (if (p4 &&& (1 : Int32)) = (0 : Int32) then (0 : Int32) else (1 : Int32))), .val (.int (if (p4 &&& (2 : Int32)) = (0 : Int32) then (0 : Int32) else (1 : Int32))), .val v117, .val v121, .val (.ref b_125), .unset, .unset, .val (.ref w_RequestState_CANCELLED), .unset] [.null, v117, (.ref w_RequestState_CANCELLED), (.ref a262), (.ref a261), (.ref (if (p2 &&& (1 : Int32)) = (0 : Int32) then w_RequestKind_JOB else w_RequestKind_EXECUTE)), (.ref b_125), (.ref b260), (.ref b260)])) _
          refine st274.trans ?_
          show Steps p.tables e below (T274.setTop (mkF m 262 #[.val (.int p0), .val (.int p1), .val (.int p2), .val (.int p3), .val (.int p4), .val (.long p5), .second, .val (.int ((p0 &&& (2147483647 : Int32)) % (4 : Int32))), .val (.int ((p1 &&& (2147483647 : Int32)) % (6 : Int32))), .val (.ref (if (p2 &&& (1 : Int32)) = (0 : Int32) then w_RequestKind_JOB else w_RequestKind_EXECUTE)), .val (.ref (V1 (p3 &&& (3 : Int32)) w_Execution_PENDING w_Execution_NOT_EXECUTED w_Execution_EXECUTED w_Execution_UNKNOWN)), .val (.int (if (p4 &&& (1 : Int32)) = (0 : Int32) then (0 : Int32) else (1 : Int32))), .val (.int (if (p4 &&& (2 : Int32)) = (0 : Int32) then (0 : Int32) else (1 : Int32))), .val v117, .val v121, .val (.ref b_125), .unset, .unset, .val (.ref w_RequestState_CANCELLED), .unset] [(.ref b260)])) _
          refine XS.astore X274b.here hx rfl (hb hby at_262) rfl rfl (l' := #[.val (.int p0), .val (.int p1), .val (.int p2), .val (.int p3), .val (.int p4), .val (.long p5), .second, .val (.int ((p0 &&& (2147483647 : Int32)) % (4 : Int32))), .val (.int ((p1 &&& (2147483647 : Int32)) % (6 : Int32))), .val (.ref (if (p2 &&& (1 : Int32)) = (0 : Int32) then w_RequestKind_JOB else w_RequestKind_EXECUTE)), .val (.ref (V1 (p3 &&& (3 : Int32)) w_Execution_PENDING w_Execution_NOT_EXECUTED w_Execution_EXECUTED w_Execution_UNKNOWN)), .val (.int (if (p4 &&& (1 : Int32)) = (0 : Int32) then (0 : Int32) else (1 : Int32))), .val (.int (if (p4 &&& (2 : Int32)) = (0 : Int32) then (0 : Int32) else (1 : Int32))), .val v117, .val v121, .val (.ref b_125), .unset, .val (.ref b260), .val (.ref w_RequestState_CANCELLED), .unset]) rfl ?_
          show Steps p.tables e below (T274.setTop (mkF m 264 #[.val (.int p0), .val (.int p1), .val (.int p2), .val (.int p3), .val (.int p4), .val (.long p5), .second, .val (.int ((p0 &&& (2147483647 : Int32)) % (4 : Int32))), .val (.int ((p1 &&& (2147483647 : Int32)) % (6 : Int32))), .val (.ref (if (p2 &&& (1 : Int32)) = (0 : Int32) then w_RequestKind_JOB else w_RequestKind_EXECUTE)), .val (.ref (V1 (p3 &&& (3 : Int32)) w_Execution_PENDING w_Execution_NOT_EXECUTED w_Execution_EXECUTED w_Execution_UNKNOWN)), .val (.int (if (p4 &&& (1 : Int32)) = (0 : Int32) then (0 : Int32) else (1 : Int32))), .val (.int (if (p4 &&& (2 : Int32)) = (0 : Int32) then (0 : Int32) else (1 : Int32))), .val v117, .val v121, .val (.ref b_125), .unset, .val (.ref b260), .val (.ref w_RequestState_CANCELLED), .unset] [])) _
          refine XS.iload X274b.here hx rfl (hb hby at_264) rfl ?_
          show Steps p.tables e below (T274.setTop (mkF m 266 #[.val (.int p0), .val (.int p1), .val (.int p2), .val (.int p3), .val (.int p4), .val (.long p5), .second, .val (.int ((p0 &&& (2147483647 : Int32)) % (4 : Int32))), .val (.int ((p1 &&& (2147483647 : Int32)) % (6 : Int32))), .val (.ref (if (p2 &&& (1 : Int32)) = (0 : Int32) then w_RequestKind_JOB else w_RequestKind_EXECUTE)), .val (.ref (V1 (p3 &&& (3 : Int32)) w_Execution_PENDING w_Execution_NOT_EXECUTED w_Execution_EXECUTED w_Execution_UNKNOWN)), .val (.int (if (p4 &&& (1 : Int32)) = (0 : Int32) then (0 : Int32) else (1 : Int32))), .val (.int (if (p4 &&& (2 : Int32)) = (0 : Int32) then (0 : Int32) else (1 : Int32))), .val v117, .val v121, .val (.ref b_125), .unset, .val (.ref b260), .val (.ref w_RequestState_CANCELLED), .unset] [(.int ((p0 &&& (2147483647 : Int32)) % (4 : Int32)))])) _
          refine XS.ifNo X274b.here hx rfl (hb hby at_266) rfl ((if0 _ _).trans (feq hc199).1) ?_
          show Steps p.tables e below (T274.setTop (mkF m 269 #[.val (.int p0), .val (.int p1), .val (.int p2), .val (.int p3), .val (.int p4), .val (.long p5), .second, .val (.int ((p0 &&& (2147483647 : Int32)) % (4 : Int32))), .val (.int ((p1 &&& (2147483647 : Int32)) % (6 : Int32))), .val (.ref (if (p2 &&& (1 : Int32)) = (0 : Int32) then w_RequestKind_JOB else w_RequestKind_EXECUTE)), .val (.ref (V1 (p3 &&& (3 : Int32)) w_Execution_PENDING w_Execution_NOT_EXECUTED w_Execution_EXECUTED w_Execution_UNKNOWN)), .val (.int (if (p4 &&& (1 : Int32)) = (0 : Int32) then (0 : Int32) else (1 : Int32))), .val (.int (if (p4 &&& (2 : Int32)) = (0 : Int32) then (0 : Int32) else (1 : Int32))), .val v117, .val v121, .val (.ref b_125), .unset, .val (.ref b260), .val (.ref w_RequestState_CANCELLED), .unset] [])) _
          refine XS.iconst X274b.here hx rfl (hb hby at_269) ?_
          show Steps p.tables e below (T274.setTop (mkF m 270 #[.val (.int p0), .val (.int p1), .val (.int p2), .val (.int p3), .val (.int p4), .val (.long p5), .second, .val (.int ((p0 &&& (2147483647 : Int32)) % (4 : Int32))), .val (.int ((p1 &&& (2147483647 : Int32)) % (6 : Int32))), .val (.ref (if (p2 &&& (1 : Int32)) = (0 : Int32) then w_RequestKind_JOB else w_RequestKind_EXECUTE)), .val (.ref (V1 (p3 &&& (3 : Int32)) w_Execution_PENDING w_Execution_NOT_EXECUTED w_Execution_EXECUTED w_Execution_UNKNOWN)), .val (.int (if (p4 &&& (1 : Int32)) = (0 : Int32) then (0 : Int32) else (1 : Int32))), .val (.int (if (p4 &&& (2 : Int32)) = (0 : Int32) then (0 : Int32) else (1 : Int32))), .val v117, .val v121, .val (.ref b_125), .unset, .val (.ref b260), .val (.ref w_RequestState_CANCELLED), .unset] [(.int (1 : Int32))])) _
          refine XS.goto X274b.here hx rfl (pc0 := 270) (pc' := 274) rfl (hb hby at_270) (by decide) (by decide) ?_
          show Steps p.tables e below (T274.setTop (mkF m 274 #[.val (.int p0), .val (.int p1), .val (.int p2), .val (.int p3), .val (.int p4), .val (.long p5), .second, .val (.int ((p0 &&& (2147483647 : Int32)) % (4 : Int32))), .val (.int ((p1 &&& (2147483647 : Int32)) % (6 : Int32))), .val (.ref (if (p2 &&& (1 : Int32)) = (0 : Int32) then w_RequestKind_JOB else w_RequestKind_EXECUTE)), .val (.ref (V1 (p3 &&& (3 : Int32)) w_Execution_PENDING w_Execution_NOT_EXECUTED w_Execution_EXECUTED w_Execution_UNKNOWN)), .val (.int (if (p4 &&& (1 : Int32)) = (0 : Int32) then (0 : Int32) else (1 : Int32))), .val (.int (if (p4 &&& (2 : Int32)) = (0 : Int32) then (0 : Int32) else (1 : Int32))), .val v117, .val v121, .val (.ref b_125), .unset, .val (.ref b260), .val (.ref w_RequestState_CANCELLED), .unset] [(.int (1 : Int32))])) _
          refine XS.istore X274b.here hx rfl (hb hby at_274) rfl (l' := #[.val (.int p0), .val (.int p1), .val (.int p2), .val (.int p3), .val (.int p4), .val (.long p5), .second, .val (.int ((p0 &&& (2147483647 : Int32)) % (4 : Int32))), .val (.int ((p1 &&& (2147483647 : Int32)) % (6 : Int32))), .val (.ref (if (p2 &&& (1 : Int32)) = (0 : Int32) then w_RequestKind_JOB else w_RequestKind_EXECUTE)), .val (.ref (V1 (p3 &&& (3 : Int32)) w_Execution_PENDING w_Execution_NOT_EXECUTED w_Execution_EXECUTED w_Execution_UNKNOWN)), .val (.int (if (p4 &&& (1 : Int32)) = (0 : Int32) then (0 : Int32) else (1 : Int32))), .val (.int (if (p4 &&& (2 : Int32)) = (0 : Int32) then (0 : Int32) else (1 : Int32))), .val v117, .val v121, .val (.ref b_125), .val (.int (1 : Int32)), .val (.ref b260), .val (.ref w_RequestState_CANCELLED), .unset]) rfl ?_
          show Steps p.tables e below (T274.setTop (mkF m 276 #[.val (.int p0), .val (.int p1), .val (.int p2), .val (.int p3), .val (.int p4), .val (.long p5), .second, .val (.int ((p0 &&& (2147483647 : Int32)) % (4 : Int32))), .val (.int ((p1 &&& (2147483647 : Int32)) % (6 : Int32))), .val (.ref (if (p2 &&& (1 : Int32)) = (0 : Int32) then w_RequestKind_JOB else w_RequestKind_EXECUTE)), .val (.ref (V1 (p3 &&& (3 : Int32)) w_Execution_PENDING w_Execution_NOT_EXECUTED w_Execution_EXECUTED w_Execution_UNKNOWN)), .val (.int (if (p4 &&& (1 : Int32)) = (0 : Int32) then (0 : Int32) else (1 : Int32))), .val (.int (if (p4 &&& (2 : Int32)) = (0 : Int32) then (0 : Int32) else (1 : Int32))), .val v117, .val v121, .val (.ref b_125), .val (.int (1 : Int32)), .val (.ref b260), .val (.ref w_RequestState_CANCELLED), .unset] [])) _
          refine XS.aload X274b.here hx rfl (hb hby at_276) rfl rfl ?_
          show Steps p.tables e below (T274.setTop (mkF m 278 #[.val (.int p0), .val (.int p1), .val (.int p2), .val (.int p3), .val (.int p4), .val (.long p5), .second, .val (.int ((p0 &&& (2147483647 : Int32)) % (4 : Int32))), .val (.int ((p1 &&& (2147483647 : Int32)) % (6 : Int32))), .val (.ref (if (p2 &&& (1 : Int32)) = (0 : Int32) then w_RequestKind_JOB else w_RequestKind_EXECUTE)), .val (.ref (V1 (p3 &&& (3 : Int32)) w_Execution_PENDING w_Execution_NOT_EXECUTED w_Execution_EXECUTED w_Execution_UNKNOWN)), .val (.int (if (p4 &&& (1 : Int32)) = (0 : Int32) then (0 : Int32) else (1 : Int32))), .val (.int (if (p4 &&& (2 : Int32)) = (0 : Int32) then (0 : Int32) else (1 : Int32))), .val v117, .val v121, .val (.ref b_125), .val (.int (1 : Int32)), .val (.ref b260), .val (.ref w_RequestState_CANCELLED), .unset] [(.ref b260)])) _
          refine st276.trans ?_
          show Steps p.tables e below (T276.setTop (mkF m 281 #[.val (.int p0), .val (.int p1), .val (.int p2), .val (.int p3), .val (.int p4), .val (.long p5), .second, .val (.int ((p0 &&& (2147483647 : Int32)) % (4 : Int32))), .val (.int ((p1 &&& (2147483647 : Int32)) % (6 : Int32))), .val (.ref (if (p2 &&& (1 : Int32)) = (0 : Int32) then w_RequestKind_JOB else w_RequestKind_EXECUTE)), .val (.ref (V1 (p3 &&& (3 : Int32)) w_Execution_PENDING w_Execution_NOT_EXECUTED w_Execution_EXECUTED w_Execution_UNKNOWN)), .val (.int (if (p4 &&& (1 : Int32)) = (0 : Int32) then (0 : Int32) else (1 : Int32))), .val (.int (if (p4 &&& (2 : Int32)) = (0 : Int32) then (0 : Int32) else (1 : Int32))), .val v117, .val v121, .val (.ref b_125), .val (.int (1 : Int32)), .val (.ref b260), .val (.ref w_RequestState_CANCELLED), .unset] [(.int (nar .boolean (nar .boolean (1 : Int32))))])) _
          refine XS.iload X276.here hx rfl (hb hby at_281) rfl ?_
          show Steps p.tables e below (T276.setTop (mkF m 283 #[.val (.int p0), .val (.int p1), .val (.int p2), .val (.int p3), .val (.int p4), .val (.long p5), .second, .val (.int ((p0 &&& (2147483647 : Int32)) % (4 : Int32))), .val (.int ((p1 &&& (2147483647 : Int32)) % (6 : Int32))), .val (.ref (if (p2 &&& (1 : Int32)) = (0 : Int32) then w_RequestKind_JOB else w_RequestKind_EXECUTE)), .val (.ref (V1 (p3 &&& (3 : Int32)) w_Execution_PENDING w_Execution_NOT_EXECUTED w_Execution_EXECUTED w_Execution_UNKNOWN)), .val (.int (if (p4 &&& (1 : Int32)) = (0 : Int32) then (0 : Int32) else (1 : Int32))), .val (.int (if (p4 &&& (2 : Int32)) = (0 : Int32) then (0 : Int32) else (1 : Int32))), .val v117, .val v121, .val (.ref b_125), .val (.int (1 : Int32)), .val (.ref b260), .val (.ref w_RequestState_CANCELLED), .unset] [(.int (1 : Int32)), (.int (nar .boolean (nar .boolean (1 : Int32))))])) _
          refine XS.icmpNo X276.here hx rfl (hb hby at_283) rfl (teq (rfl : (nar .boolean (nar .boolean (1 : Int32))) = (1 : Int32))).2 ?_
          show Steps p.tables e below (T276.setTop (mkF m 286 #[.val (.int p0), .val (.int p1), .val (.int p2), .val (.int p3), .val (.int p4), .val (.long p5), .second, .val (.int ((p0 &&& (2147483647 : Int32)) % (4 : Int32))), .val (.int ((p1 &&& (2147483647 : Int32)) % (6 : Int32))), .val (.ref (if (p2 &&& (1 : Int32)) = (0 : Int32) then w_RequestKind_JOB else w_RequestKind_EXECUTE)), .val (.ref (V1 (p3 &&& (3 : Int32)) w_Execution_PENDING w_Execution_NOT_EXECUTED w_Execution_EXECUTED w_Execution_UNKNOWN)), .val (.int (if (p4 &&& (1 : Int32)) = (0 : Int32) then (0 : Int32) else (1 : Int32))), .val (.int (if (p4 &&& (2 : Int32)) = (0 : Int32) then (0 : Int32) else (1 : Int32))), .val v117, .val v121, .val (.ref b_125), .val (.int (1 : Int32)), .val (.ref b260), .val (.ref w_RequestState_CANCELLED), .unset] [])) _
          refine XS.iconst X276.here hx rfl (hb hby at_286) ?_
          show Steps p.tables e below (T276.setTop (mkF m 287 #[.val (.int p0), .val (.int p1), .val (.int p2), .val (.int p3), .val (.int p4), .val (.long p5), .second, .val (.int ((p0 &&& (2147483647 : Int32)) % (4 : Int32))), .val (.int ((p1 &&& (2147483647 : Int32)) % (6 : Int32))), .val (.ref (if (p2 &&& (1 : Int32)) = (0 : Int32) then w_RequestKind_JOB else w_RequestKind_EXECUTE)), .val (.ref (V1 (p3 &&& (3 : Int32)) w_Execution_PENDING w_Execution_NOT_EXECUTED w_Execution_EXECUTED w_Execution_UNKNOWN)), .val (.int (if (p4 &&& (1 : Int32)) = (0 : Int32) then (0 : Int32) else (1 : Int32))), .val (.int (if (p4 &&& (2 : Int32)) = (0 : Int32) then (0 : Int32) else (1 : Int32))), .val v117, .val v121, .val (.ref b_125), .val (.int (1 : Int32)), .val (.ref b260), .val (.ref w_RequestState_CANCELLED), .unset] [(.int (1 : Int32))])) _
          refine XS.goto X276.here hx rfl (pc0 := 287) (pc' := 291) rfl (hb hby at_287) (by decide) (by decide) ?_
          show Steps p.tables e below (T276.setTop (mkF m 291 #[.val (.int p0), .val (.int p1), .val (.int p2), .val (.int p3), .val (.int p4), .val (.long p5), .second, .val (.int ((p0 &&& (2147483647 : Int32)) % (4 : Int32))), .val (.int ((p1 &&& (2147483647 : Int32)) % (6 : Int32))), .val (.ref (if (p2 &&& (1 : Int32)) = (0 : Int32) then w_RequestKind_JOB else w_RequestKind_EXECUTE)), .val (.ref (V1 (p3 &&& (3 : Int32)) w_Execution_PENDING w_Execution_NOT_EXECUTED w_Execution_EXECUTED w_Execution_UNKNOWN)), .val (.int (if (p4 &&& (1 : Int32)) = (0 : Int32) then (0 : Int32) else (1 : Int32))), .val (.int (if (p4 &&& (2 : Int32)) = (0 : Int32) then (0 : Int32) else (1 : Int32))), .val v117, .val v121, .val (.ref b_125), .val (.int (1 : Int32)), .val (.ref b260), .val (.ref w_RequestState_CANCELLED), .unset] [(.int (1 : Int32))])) _
          exact Jvm.RoadKit.retOut X276 hx Bd.returns rfl (Or.inl ⟨rfl, by simp, _, rfl⟩) (hb hby at_291) hr
        · show Q_rm0 Z p0 p1 p2 p3 p4 p5 w_JobState_QUEUED w_JobState_FAILED w_JobState_RUNNING w_JobState_TIMEOUT w_RequestKind_JOB w_Execution_PENDING w_JobState_SUCCEEDED w_Execution_UNKNOWN w_JobState_CANCELLED w_Execution_EXECUTED w_RequestKind_EXECUTE w_Execution_NOT_EXECUTED w_RequestState_FAILED w_RequestState_SUCCEEDED w_RequestState_CANCELLED w_RequestState_WAITING_READY zc h0 n0 _ T276.heap _
          rw [e276]
          unfold Q_rm0
          exact ⟨rfl, N276, K283⟩
theorem own_evR {args : Array Value} {s : State} {a b : Term} {y : Addr} (h : (Jvm.Cond.eq a b).value args s none s [] = some true) (hb : b.eval args s none [] s = some (.ref y)) : a.eval args s none [] s = some (.ref y) := by
  obtain ⟨x, z, h1, h2, h3, h4⟩ := cmp_v (Or.inl h)
  cases h2.symm.trans hb
  have hx : x.isRef = true := h4.2
  have q := gotT (eq_R h1 hb hx rfl) h
  rw [h1, q]
theorem own_len {args : Array Value} {s : State} {t : Term} {a : Addr} {cl : Cell} {ty : FieldType} {n : Int32} (A : Arr s s.heap a cl ty) (ev : t.eval args s none [] s = some (.ref a)) (h : (Term.length t).eval args s none [] s = some (.int n)) : cl.slots.size < 2 ^ 31 ∧ cl.slots.size.toInt32 = n := by
  have ha : s.arrayAt? a = some cl := A.fin (Vm.Alike.refl _)
  have hl := SBG.length_lt ev ha h
  have q := len_f ev ha hl
  exact ⟨hl, by simpa using Option.some.inj (q.symm.trans h)⟩
theorem own_arvU {s : State} {a : Addr} {cl : Cell} {ty : FieldType} {n : Int32} {dv : Value} (hf : Fit s) (A : Arr s s.heap a cl ty) (q : cl.slots.size < 2 ^ 31) (e : cl.slots.size.toInt32 = n) (hn : ¬ n < 0) : Arv s s.heap a cl.cls ty n cl.slots.toList dv := by
  have S : cl.slots.size = n.toNatClampNeg := by rw [← e]; simp only [Int32.toNatClampNeg, len_toInt q]; rfl
  have H : Has cl cl.slots.toList dv := fun j hj => by simp [hj]
  refine ⟨cl, A, rfl, S, hn, H, fun j hj => ?_⟩
  have e1 : (Nat.toInt32 j).toNatClampNeg = j := by simp only [Int32.toNatClampNeg, len_toInt (Nat.lt_trans hj q)]; rfl
  exact elem_fits (j := Nat.toInt32 j) hf A (idx_in hj q) (by rw [e1]; exact H j hj)
set_option maxRecDepth 65536 in
set_option maxHeartbeats 40000000 in
theorem comes_1 {Post : Tables → Env → Array Value → State → Outcome → State → Prop} (hpost : ∀ tb e args s v u, (limb_1_1.after args s (.returned v) u = true ∧ limb_1_2.after args s (.returned v) u = true ∧ True) → ReturnedEndW s (.returned v) u (Jvm.fieldLocs frame_1_writes args s ++ Jvm.arrayLocs frame_1_arrays args s ++ Jvm.staticLocs frame_1_statics s) 48 14528 → Post tb e args s (.returned v) u) :
    ArmFor flags0 classFile x code maxLocals ret World_1 tables_1 room_1 Calls_1 rest_1 Pre_1 Post := by
  intro l hfl _ _ p e ha hc hk s m args below hf hA hF happ hP
  obtain ⟨hcalls, hrest, hpre⟩ := hP
  obtain ⟨-, -, -, hnamed, -, -, -, hat⟩ := (Spec.applies_iff hf).mp happ
  obtain ⟨hg, hn⟩ := and_e (Cond.before_iff.mp (show (Jvm.Cond.and given_1 narrow_1).before args s = true from hpre))
  obtain ⟨gg1, gg2⟩ := and_e hg
  obtain ⟨gg3, gg4⟩ := and_e gg2
  obtain ⟨gg5, gg6⟩ := and_e gg4
  obtain ⟨gg7, gg8⟩ := and_e gg6
  obtain ⟨gg9, gg10⟩ := and_e gg8
  obtain ⟨gg11, gg12⟩ := and_e gg10
  obtain ⟨w0, w1, w2, w3, w4, w5, rfl⟩ : ∃ w0 w1 w2 w3 w4 w5 : Value, args = #[w0, w1, w2, w3, w4, w5] := by
    have hs : args.size = 6 := by simpa [Cond.value, given_1] using gg1
    obtain ⟨L⟩ := args
    match L, hs with
    | [w0, w1, w2, w3, w4, w5], _ => exact ⟨w0, w1, w2, w3, w4, w5, rfl⟩
  have hw := fun d (hd : d ∈ tables_1) => atoms_spec (ws := Jvm.Cond.code x code maxLocals ret :: tables_1) hat d (List.mem_cons_of_mem _ hd)
  have hfit : Fit s := fun {y c} hc i hi => by
    obtain ⟨ha, rfl⟩ := Array.getElem?_eq_some_iff.mp hc
    have q := List.all_eq_true.mp ((Array.all_eq_true_iff_forall_mem.mp hF) _ (Array.getElem_mem ha)) i (List.mem_range.mpr hi)
    simpa [Array.getElem?_eq_getElem hi] using q
  obtain ⟨hsets, hown0⟩ := atoms_of _ (rest_1_c_eq ▸ (show rest_1_c.before _ s = true from hrest))
  have hr0 := Cond.before_iff.mp hown0
  obtain ⟨i0, ei0⟩ := is_v gg3
  obtain rfl : w0 = (.int i0) := Option.some.inj ei0
  obtain ⟨i1, ei1⟩ := is_v gg5
  obtain rfl : w1 = (.int i1) := Option.some.inj ei1
  obtain ⟨i2, ei2⟩ := is_v gg7
  obtain rfl : w2 = (.int i2) := Option.some.inj ei2
  obtain ⟨i3, ei3⟩ := is_v gg9
  obtain rfl : w3 = (.int i3) := Option.some.inj ei3
  obtain ⟨i4, ei4⟩ := is_v gg11
  obtain rfl : w4 = (.int i4) := Option.some.inj ei4
  obtain ⟨i5, ei5⟩ := isL_v gg12
  obtain rfl : w5 = (.long i5) := Option.some.inj ei5
  obtain ⟨na1, na2⟩ := and_e hn
  obtain ⟨na3, na4⟩ := and_e na2
  obtain ⟨na5, na6⟩ := and_e na4
  obtain ⟨na7, na8⟩ := and_e na6
  obtain ⟨na9, na10⟩ := and_e na8
  obtain ⟨na11, na12⟩ := and_e na10
  obtain ⟨na13, na14⟩ := and_e na12
  obtain ⟨na15, na16⟩ := and_e na14
  obtain ⟨na17, na18⟩ := and_e na16
  obtain ⟨na19, na20⟩ := and_e na18
  obtain ⟨na21, na22⟩ := and_e na20
  obtain ⟨na23, na24⟩ := and_e na22
  obtain ⟨na25, na26⟩ := and_e na24
  obtain ⟨na27, na28⟩ := and_e na26
  obtain ⟨na29, na30⟩ := and_e na28
  obtain ⟨na31, na32⟩ := and_e na30
  obtain ⟨na33, na34⟩ := and_e na32
  obtain ⟨na35, na36⟩ := and_e na34
  obtain ⟨na37, na38⟩ := and_e na36
  obtain ⟨na39, na40⟩ := and_e na38
  obtain ⟨na41, na42⟩ := and_e na40
  obtain ⟨na43, na44⟩ := and_e na42
  obtain ⟨na45, na46⟩ := and_e na44
  obtain ⟨na47, na48⟩ := and_e na46
  obtain ⟨na49, na50⟩ := and_e na48
  obtain ⟨na51, na52⟩ := and_e na50
  obtain ⟨na53, na54⟩ := and_e na52
  obtain ⟨na55, na56⟩ := and_e na54
  obtain ⟨na57, na58⟩ := and_e na56
  obtain ⟨w_JobState_QUEUED, ev59⟩ := exa_v na43
  have S_JobState_QUEUED : Sta s s.heap "com/example/done_once/doneonce/core/JobState" "QUEUED" "Lcom/example/done_once/doneonce/core/JobState;" (.ref w_JobState_QUEUED) := Sta.start ev59 (Or.inr ⟨(hwk hw 106 rfl), (hwk hw 185 rfl)⟩)
  have E_w_JobState_QUEUED : Exa s s.heap w_JobState_QUEUED "com/example/done_once/doneonce/core/JobState" := Exa.start ev59 na43
  obtain ⟨w_JobState_FAILED, ev60⟩ := exa_v na47
  have S_JobState_FAILED : Sta s s.heap "com/example/done_once/doneonce/core/JobState" "FAILED" "Lcom/example/done_once/doneonce/core/JobState;" (.ref w_JobState_FAILED) := Sta.start ev60 (Or.inr ⟨(hwk hw 106 rfl), (hwk hw 187 rfl)⟩)
  have E_w_JobState_FAILED : Exa s s.heap w_JobState_FAILED "com/example/done_once/doneonce/core/JobState" := Exa.start ev60 na47
  obtain ⟨w_JobState_RUNNING, ev61⟩ := exa_v na37
  have S_JobState_RUNNING : Sta s s.heap "com/example/done_once/doneonce/core/JobState" "RUNNING" "Lcom/example/done_once/doneonce/core/JobState;" (.ref w_JobState_RUNNING) := Sta.start ev61 (Or.inr ⟨(hwk hw 106 rfl), (hwk hw 181 rfl)⟩)
  have E_w_JobState_RUNNING : Exa s s.heap w_JobState_RUNNING "com/example/done_once/doneonce/core/JobState" := Exa.start ev61 na37
  obtain ⟨w_JobState_TIMEOUT, ev62⟩ := exa_v na51
  have S_JobState_TIMEOUT : Sta s s.heap "com/example/done_once/doneonce/core/JobState" "TIMEOUT" "Lcom/example/done_once/doneonce/core/JobState;" (.ref w_JobState_TIMEOUT) := Sta.start ev62 (Or.inr ⟨(hwk hw 106 rfl), (hwk hw 189 rfl)⟩)
  have E_w_JobState_TIMEOUT : Exa s s.heap w_JobState_TIMEOUT "com/example/done_once/doneonce/core/JobState" := Exa.start ev62 na51
  obtain ⟨w_RequestKind_JOB, ev63⟩ := exa_v na1
  have S_RequestKind_JOB : Sta s s.heap "com/example/done_once/doneonce/core/RequestKind" "JOB" "Lcom/example/done_once/doneonce/core/RequestKind;" (.ref w_RequestKind_JOB) := Sta.start ev63 (Or.inr ⟨(hwk hw 2 rfl), (hwk hw 3 rfl)⟩)
  have E_w_RequestKind_JOB : Exa s s.heap w_RequestKind_JOB "com/example/done_once/doneonce/core/RequestKind" := Exa.start ev63 na1
  obtain ⟨w_Execution_PENDING, ev64⟩ := exa_v na17
  have S_Execution_PENDING : Sta s s.heap "com/example/done_once/doneonce/core/Execution" "PENDING" "Lcom/example/done_once/doneonce/core/Execution;" (.ref w_Execution_PENDING) := Sta.start ev64 (Or.inr ⟨(hwk hw 9 rfl), (hwk hw 94 rfl)⟩)
  have E_w_Execution_PENDING : Exa s s.heap w_Execution_PENDING "com/example/done_once/doneonce/core/Execution" := Exa.start ev64 na17
  obtain ⟨w_JobState_SUCCEEDED, ev65⟩ := exa_v na25
  have S_JobState_SUCCEEDED : Sta s s.heap "com/example/done_once/doneonce/core/JobState" "SUCCEEDED" "Lcom/example/done_once/doneonce/core/JobState;" (.ref w_JobState_SUCCEEDED) := Sta.start ev65 (Or.inr ⟨(hwk hw 106 rfl), (hwk hw 107 rfl)⟩)
  have E_w_JobState_SUCCEEDED : Exa s s.heap w_JobState_SUCCEEDED "com/example/done_once/doneonce/core/JobState" := Exa.start ev65 na25
  obtain ⟨w_Execution_UNKNOWN, ev66⟩ := exa_v na35
  have S_Execution_UNKNOWN : Sta s s.heap "com/example/done_once/doneonce/core/Execution" "UNKNOWN" "Lcom/example/done_once/doneonce/core/Execution;" (.ref w_Execution_UNKNOWN) := Sta.start ev66 (Or.inr ⟨(hwk hw 9 rfl), (hwk hw 179 rfl)⟩)
  have E_w_Execution_UNKNOWN : Exa s s.heap w_Execution_UNKNOWN "com/example/done_once/doneonce/core/Execution" := Exa.start ev66 na35
  obtain ⟨w_JobState_CANCELLED, ev67⟩ := exa_v na55
  have S_JobState_CANCELLED : Sta s s.heap "com/example/done_once/doneonce/core/JobState" "CANCELLED" "Lcom/example/done_once/doneonce/core/JobState;" (.ref w_JobState_CANCELLED) := Sta.start ev67 (Or.inr ⟨(hwk hw 106 rfl), (hwk hw 191 rfl)⟩)
  have E_w_JobState_CANCELLED : Exa s s.heap w_JobState_CANCELLED "com/example/done_once/doneonce/core/JobState" := Exa.start ev67 na55
  obtain ⟨w_Execution_EXECUTED, ev68⟩ := exa_v na41
  have S_Execution_EXECUTED : Sta s s.heap "com/example/done_once/doneonce/core/Execution" "EXECUTED" "Lcom/example/done_once/doneonce/core/Execution;" (.ref w_Execution_EXECUTED) := Sta.start ev68 (Or.inr ⟨(hwk hw 9 rfl), (hwk hw 183 rfl)⟩)
  have E_w_Execution_EXECUTED : Exa s s.heap w_Execution_EXECUTED "com/example/done_once/doneonce/core/Execution" := Exa.start ev68 na41
  obtain ⟨w_RequestKind_EXECUTE, ev69⟩ := exa_v na15
  have S_RequestKind_EXECUTE : Sta s s.heap "com/example/done_once/doneonce/core/RequestKind" "EXECUTE" "Lcom/example/done_once/doneonce/core/RequestKind;" (.ref w_RequestKind_EXECUTE) := Sta.start ev69 (Or.inr ⟨(hwk hw 2 rfl), (hwk hw 92 rfl)⟩)
  have E_w_RequestKind_EXECUTE : Exa s s.heap w_RequestKind_EXECUTE "com/example/done_once/doneonce/core/RequestKind" := Exa.start ev69 na15
  obtain ⟨w_Execution_NOT_EXECUTED, ev70⟩ := exa_v na3
  have S_Execution_NOT_EXECUTED : Sta s s.heap "com/example/done_once/doneonce/core/Execution" "NOT_EXECUTED" "Lcom/example/done_once/doneonce/core/Execution;" (.ref w_Execution_NOT_EXECUTED) := Sta.start ev70 (Or.inr ⟨(hwk hw 9 rfl), (hwk hw 10 rfl)⟩)
  have E_w_Execution_NOT_EXECUTED : Exa s s.heap w_Execution_NOT_EXECUTED "com/example/done_once/doneonce/core/Execution" := Exa.start ev70 na3
  obtain ⟨w_RequestState_FAILED, ev71⟩ := exa_v na19
  have S_RequestState_FAILED : Sta s s.heap "com/example/done_once/doneonce/core/RequestState" "FAILED" "Lcom/example/done_once/doneonce/core/RequestState;" (.ref w_RequestState_FAILED) := Sta.start ev71 (Or.inr ⟨(hwk hw 38 rfl), (hwk hw 96 rfl)⟩)
  have E_w_RequestState_FAILED : Exa s s.heap w_RequestState_FAILED "com/example/done_once/doneonce/core/RequestState" := Exa.start ev71 na19
  obtain ⟨w_RequestState_SUCCEEDED, ev72⟩ := exa_v na7
  have S_RequestState_SUCCEEDED : Sta s s.heap "com/example/done_once/doneonce/core/RequestState" "SUCCEEDED" "Lcom/example/done_once/doneonce/core/RequestState;" (.ref w_RequestState_SUCCEEDED) := Sta.start ev72 (Or.inr ⟨(hwk hw 38 rfl), (hwk hw 64 rfl)⟩)
  have E_w_RequestState_SUCCEEDED : Exa s s.heap w_RequestState_SUCCEEDED "com/example/done_once/doneonce/core/RequestState" := Exa.start ev72 na7
  obtain ⟨w_RequestState_CANCELLED, ev73⟩ := exa_v na29
  have S_RequestState_CANCELLED : Sta s s.heap "com/example/done_once/doneonce/core/RequestState" "CANCELLED" "Lcom/example/done_once/doneonce/core/RequestState;" (.ref w_RequestState_CANCELLED) := Sta.start ev73 (Or.inr ⟨(hwk hw 38 rfl), (hwk hw 177 rfl)⟩)
  have E_w_RequestState_CANCELLED : Exa s s.heap w_RequestState_CANCELLED "com/example/done_once/doneonce/core/RequestState" := Exa.start ev73 na29
  obtain ⟨w_RequestState_WAITING_READY, ev74⟩ := exa_v na5
  have S_RequestState_WAITING_READY : Sta s s.heap "com/example/done_once/doneonce/core/RequestState" "WAITING_READY" "Lcom/example/done_once/doneonce/core/RequestState;" (.ref w_RequestState_WAITING_READY) := Sta.start ev74 (Or.inr ⟨(hwk hw 38 rfl), (hwk hw 39 rfl)⟩)
  have E_w_RequestState_WAITING_READY : Exa s s.heap w_RequestState_WAITING_READY "com/example/done_once/doneonce/core/RequestState" := Exa.start ev74 na5
  have ev75 := own_eqI na9 rfl
  have F_w_RequestState_WAITING_READY_ordinal : Fld s s.heap w_RequestState_WAITING_READY "java/lang/Enum" "ordinal" "I" (.int (0 : Int32)) := Fld.start ((fld_at ev74).symm.trans ev75)
  have ev76 := own_eqI na11 rfl
  have F_w_RequestState_SUCCEEDED_ordinal : Fld s s.heap w_RequestState_SUCCEEDED "java/lang/Enum" "ordinal" "I" (.int (1 : Int32)) := Fld.start ((fld_at ev72).symm.trans ev76)
  have ev77 := own_eqI na13 rfl
  have F_w_RequestState_WAITING_READY_terminal : Fld s s.heap w_RequestState_WAITING_READY "com/example/done_once/doneonce/core/RequestState" "terminal" "Z" (.int (0 : Int32)) := Fld.start ((fld_at ev74).symm.trans ev77)
  have ev78 := own_eqI na21 rfl
  have F_w_RequestState_FAILED_ordinal : Fld s s.heap w_RequestState_FAILED "java/lang/Enum" "ordinal" "I" (.int (2 : Int32)) := Fld.start ((fld_at ev71).symm.trans ev78)
  have ev79 := own_eqI na23 rfl
  have F_w_RequestState_FAILED_terminal : Fld s s.heap w_RequestState_FAILED "com/example/done_once/doneonce/core/RequestState" "terminal" "Z" (.int (1 : Int32)) := Fld.start ((fld_at ev71).symm.trans ev79)
  have ev80 := own_eqI na27 rfl
  have F_w_JobState_SUCCEEDED_terminal : Fld s s.heap w_JobState_SUCCEEDED "com/example/done_once/doneonce/core/JobState" "terminal" "Z" (.int (1 : Int32)) := Fld.start ((fld_at ev65).symm.trans ev80)
  have ev81 := own_eqI na31 rfl
  have F_w_RequestState_CANCELLED_ordinal : Fld s s.heap w_RequestState_CANCELLED "java/lang/Enum" "ordinal" "I" (.int (3 : Int32)) := Fld.start ((fld_at ev73).symm.trans ev81)
  have ev82 := own_eqI na33 rfl
  have F_w_RequestState_CANCELLED_terminal : Fld s s.heap w_RequestState_CANCELLED "com/example/done_once/doneonce/core/RequestState" "terminal" "Z" (.int (1 : Int32)) := Fld.start ((fld_at ev73).symm.trans ev82)
  have ev83 := own_eqI na39 rfl
  have F_w_JobState_RUNNING_terminal : Fld s s.heap w_JobState_RUNNING "com/example/done_once/doneonce/core/JobState" "terminal" "Z" (.int (0 : Int32)) := Fld.start ((fld_at ev61).symm.trans ev83)
  have ev84 := own_eqI na45 rfl
  have F_w_JobState_QUEUED_terminal : Fld s s.heap w_JobState_QUEUED "com/example/done_once/doneonce/core/JobState" "terminal" "Z" (.int (0 : Int32)) := Fld.start ((fld_at ev59).symm.trans ev84)
  have ev85 := own_eqI na49 rfl
  have F_w_JobState_FAILED_terminal : Fld s s.heap w_JobState_FAILED "com/example/done_once/doneonce/core/JobState" "terminal" "Z" (.int (1 : Int32)) := Fld.start ((fld_at ev60).symm.trans ev85)
  have ev86 := own_eqI na53 rfl
  have F_w_JobState_TIMEOUT_terminal : Fld s s.heap w_JobState_TIMEOUT "com/example/done_once/doneonce/core/JobState" "terminal" "Z" (.int (1 : Int32)) := Fld.start ((fld_at ev62).symm.trans ev86)
  have ev87 := own_eqI na57 rfl
  have F_w_JobState_CANCELLED_terminal : Fld s s.heap w_JobState_CANCELLED "com/example/done_once/doneonce/core/JobState" "terminal" "Z" (.int (1 : Int32)) := Fld.start ((fld_at ev67).symm.trans ev87)
  have ev88 := own_eqI na58 rfl
  have F_w_RequestState_SUCCEEDED_terminal : Fld s s.heap w_RequestState_SUCCEEDED "com/example/done_once/doneonce/core/RequestState" "terminal" "Z" (.int (1 : Int32)) := Fld.start ((fld_at ev72).symm.trans ev88)
  obtain ⟨zc, evz⟩ := is_v (Cond.before_iff.mp (hsets _ (List.mem_of_getElem? (i := 1) rfl)))
  have SZ : Sta s s.heap "java/lang/String" "COMPACT_STRINGS" "Z" (.int zc) := Sta.start evz (Or.inl (hsets _ (List.mem_of_getElem? (i := 0) rfl)))
  have PZ : ¬ (zc = (0 : Int32)) := gotF (Jvm.Cond.eq_ints evz rfl) (not_v (Cond.before_iff.mp (hsets _ (List.mem_of_getElem? (i := 2) rfl))))
  obtain ⟨n, o, h1, h2, h3, _, L, rfl, hQ, hq⟩ := rm0 l s _ hw tables_1 i0 i1 i2 i3 i4 i5 w_JobState_QUEUED w_JobState_FAILED w_JobState_RUNNING w_JobState_TIMEOUT w_RequestKind_JOB w_Execution_PENDING w_JobState_SUCCEEDED w_Execution_UNKNOWN w_JobState_CANCELLED w_Execution_EXECUTED w_RequestKind_EXECUTE w_Execution_NOT_EXECUTED w_RequestState_FAILED w_RequestState_SUCCEEDED w_RequestState_CANCELLED w_RequestState_WAITING_READY zc s.heap s.heap.size (Old.start s) S_JobState_QUEUED E_w_JobState_QUEUED S_JobState_FAILED E_w_JobState_FAILED S_JobState_RUNNING E_w_JobState_RUNNING S_JobState_TIMEOUT E_w_JobState_TIMEOUT S_RequestKind_JOB E_w_RequestKind_JOB S_Execution_PENDING E_w_Execution_PENDING S_JobState_SUCCEEDED E_w_JobState_SUCCEEDED S_Execution_UNKNOWN E_w_Execution_UNKNOWN S_JobState_CANCELLED E_w_JobState_CANCELLED S_Execution_EXECUTED E_w_Execution_EXECUTED S_RequestKind_EXECUTE E_w_RequestKind_EXECUTE S_Execution_NOT_EXECUTED E_w_Execution_NOT_EXECUTED S_RequestState_FAILED E_w_RequestState_FAILED S_RequestState_SUCCEEDED E_w_RequestState_SUCCEEDED S_RequestState_CANCELLED E_w_RequestState_CANCELLED S_RequestState_WAITING_READY E_w_RequestState_WAITING_READY F_w_RequestState_WAITING_READY_ordinal F_w_RequestState_SUCCEEDED_ordinal F_w_RequestState_WAITING_READY_terminal F_w_RequestState_FAILED_ordinal F_w_RequestState_FAILED_terminal F_w_JobState_SUCCEEDED_terminal F_w_RequestState_CANCELLED_ordinal F_w_RequestState_CANCELLED_terminal F_w_JobState_RUNNING_terminal F_w_JobState_QUEUED_terminal F_w_JobState_FAILED_terminal F_w_JobState_TIMEOUT_terminal F_w_JobState_CANCELLED_terminal F_w_RequestState_SUCCEEDED_terminal SZ PZ p e ha hc hk s m _ below hf ((Spec.applies_iff_loose hf).mp happ).1 ⟨rfl, State.Warmed39.refl s, rfl⟩ trivial
  unfold Q_rm0 at hQ
  obtain ⟨rfl, N, -⟩ := hQ
  refine ⟨n, _, h1, h2, h3, hpost _ _ _ _ _ _ ⟨Cond.after_iff.mpr rfl, Cond.after_iff.mpr (eq_i res_at (Term.int_eval (1)) rfl), trivial⟩ ⟨hq.1, hq.2.1, hq.2.2.1, (hq.2.2.2.sift fun y hy => Or.inr (N y hy)).mono (by decide) (by decide)⟩⟩
theorem main_1_1 : Claimed_1_1 := comes_1 fun _ _ _ _ _ _ h hF => ⟨h.1, hF⟩
theorem main_1_2 : Claimed_1_2 := comes_1 fun _ _ _ _ _ _ h hF => ⟨h.2.1, hF⟩
end Jvm.Pilot.@@N@@
namespace Jvm.Pilot.@@N@@
open Jvm Jvm.ClassFile Sem Op Lib Jvm.Free Jvm.Stand Jvm.Pilot.@@N@@.Jvm.D
/-! MADE BY PROGRAM (witnessworld.py) out of the Statement's table words and the real class files: 27 classes; the members and pool entries that the words name. The judged class is class 1, her method 3. -/
namespace start1
open Jvm.ClassFile
def u (s : String) : CpInfo := .utf8 (stringToUtf16 s)
/-- a pool by its gaps: so many unusable entries, then the entry; so many at the end -/
def gap : Nat → List CpInfo → List CpInfo
  | 0, r => r
  | n + 1, r => .unusable :: gap n r
def poolList (es : List (Nat × CpInfo)) (last : Nat) : List CpInfo := es.foldr (fun e r => gap e.1 (e.2 :: r)) (gap last [])
def pool (es : List (Nat × CpInfo)) (last : Nat) : Array CpInfo := ⟨poolList es last⟩
def fileOf (pool : Array CpInfo) (this : Nat) (attrs : Array Attribute := #[]) (ms : Array MethodInfo := #[]) (fl : Nat := 33) (sup : Nat := 0) (ifs : Array Nat := #[]) (fds : Array FieldInfo := #[]) : ClassFile where
  minorVersion := 0
  majorVersion := 65
  constantPool := pool
  accessFlags := fl
  thisClass := this
  superClass := sup
  interfaces := ifs
  fields := fds
  methods := ms
  attributes := attrs
def plain (name : String) (sup : Option ClassId) : Class where
  name := name
  kind := .ordinary
  loader := none
  accessFlags := 33
  super := sup
  interfaces := #[]
  cf := none
  fields := #[]
  methods := #[]
  instanceTypes := #[]
  staticTypes := #[]
  resolved := #[]
  callSites := []
  init := .initialized
  statics := none
  mirror := none

def pool0 : Array CpInfo := pool [(5, u "<init>"), (0, u "()V"), (1, .class_ 10), (1, u "java/lang/Object")] 113

def k0c0 : Code := { maxStack := 0, maxLocals := 1, code := object_method_1_code, exceptionTable := #[], attributes := #[] }
def k0m0 : Method := { name := "<init>", desc := "()V", sig := { parameters := [], returnType := none }, accessFlags := 1, code := some k0c0 }
/-- java/lang/Object -/
def k0 : Class := { plain "java/lang/Object" none with
  accessFlags := 33
  interfaces := #[]
  cf := some (fileOf pool0 8 #[] #[{ accessFlags := 1, nameIndex := 5, descriptorIndex := 6, attributes := #[] }] 33 0 #[] #[])
  fields := #[]
  methods := #[k0m0]
  instanceTypes := #[]
  staticTypes := #[]
  resolved := Array.replicate 124 none
  statics := none }

def pool1 : Array CpInfo := pool [(2, .class_ 4), (1, u "java/lang/Object"), (0, u "<init>"), (0, u "()V"), (0, .fieldref 8 9), (0, .class_ 10), (0, .nameAndType 11 12), (0, u "com/example/done_once/doneonce/core/JobState"), (0, u "QUEUED"), (0, u "Lcom/example/done_once/doneonce/core/JobState;"), (0, .fieldref 8 14), (0, .nameAndType 15 12), (0, u "RUNNING"), (0, .fieldref 8 17), (0, .nameAndType 18 12), (0, u "SUCCEEDED"), (0, .fieldref 8 20), (0, .nameAndType 21 12), (0, u "FAILED"), (0, .fieldref 8 23), (0, .nameAndType 24 12), (0, u "TIMEOUT"), (0, .fieldref 8 26), (0, .nameAndType 27 12), (0, u "CANCELLED"), (0, .fieldref 29 30), (0, .class_ 31), (0, .nameAndType 32 33), (0, u "com/example/done_once/doneonce/core/Execution"), (0, u "PENDING"), (0, u "Lcom/example/done_once/doneonce/core/Execution;"), (0, .fieldref 29 35), (0, .nameAndType 36 33), (0, u "NOT_EXECUTED"), (0, .fieldref 29 38), (0, .nameAndType 39 33), (0, u "EXECUTED"), (0, .fieldref 29 41), (0, .nameAndType 42 33), (0, u "UNKNOWN"), (0, .integer 2147483647), (0, .fieldref 45 46), (0, .class_ 47), (0, .nameAndType 48 49), (0, u "com/example/done_once/doneonce/core/RequestKind"), (0, u "JOB"), (0, u "Lcom/example/done_once/doneonce/core/RequestKind;"), (0, .fieldref 45 51), (0, .nameAndType 52 49), (0, u "EXECUTE"), (0, .methodref 54 55), (0, .class_ 56), (0, .nameAndType 57 58), (0, u "com/example/done_once/doneonce/store/RequestEndedPinLaw"), (0, u "execution"), (0, u "(I)Lcom/example/done_once/doneonce/core/Execution;"), (0, .string 60), (0, u "e"), (0, .string 62), (0, u "x"), (0, .methodref 64 65), (0, .class_ 66), (0, .nameAndType 67 68), (0, u "java/lang/String"), (0, u "valueOf"), (0, u "(C)Ljava/lang/String;"), (0, .class_ 70), (0, u "com/example/done_once/doneonce/core/JobStatus"), (0, .methodref 54 72), (0, .nameAndType 73 74), (0, u "jobState"), (0, u "(I)Lcom/example/done_once/doneonce/core/JobState;"), (0, .methodref 69 76), (0, .nameAndType 5 77), (0, u "(Lcom/example/done_once/doneonce/core/JobState;Lcom/example/done_once/doneonce/core/Execution;Ljava/lang/String;ZZ)V"), (0, .class_ 79), (0, u "com/example/done_once/doneonce/store/Job"), (0, .string 81), (0, u "j"), (0, .string 83), (0, u "l"), (0, .string 85), (0, u "t"), (0, .string 87), (0, u "{}"), (0, .methodref 78 89), (0, .nameAndType 5 90), (0, u "(Ljava/lang/String;Ljava/lang/String;Ljava/lang/String;Ljava/lang/String;Ljava/lang/String;Ljava/lang/String;JLcom/example/done_once/doneonce/core/JobStatus;Ljava/lang/String;Ljava/lang/String;)V"), (0, .class_ 92), (0, u "com/example/done_once/doneonce/store/Request"), (0, .fieldref 94 95), (0, .class_ 96), (0, .nameAndType 18 97), (0, u "com/example/done_once/doneonce/core/RequestState"), (0, u "Lcom/example/done_once/doneonce/core/RequestState;"), (0, .methodref 91 99), (0, .nameAndType 5 100), (0, u "(Ljava/lang/String;Lcom/example/done_once/doneonce/core/RequestKind;Ljava/lang/String;Ljava/lang/String;Lcom/example/done_once/doneonce/core/RequestState;Ljava/lang/String;Lcom/example/done_once/doneonce/store/Job;)V"), (0, .fieldref 94 102), (0, .nameAndType 103 97), (0, u "WAITING_READY"), (0, .fieldref 94 105), (0, .nameAndType 21 97), (0, .fieldref 94 107), (0, .nameAndType 27 97), (0, .methodref 91 109), (0, .nameAndType 110 111), (0, u "ended"), (0, u "()Z"), (3, u "law"), (0, u "(IIIIIJ)Z")] 2

def k1m0 : Method := { name := "<init>", desc := "()V", sig := { parameters := [], returnType := none }, accessFlags := 1, code := none }
def k1c1 : Code := { maxStack := 2, maxLocals := 1, code := method_2_code, exceptionTable := #[], attributes := #[] }
def k1m1 : Method := { name := "jobState", desc := "(I)Lcom/example/done_once/doneonce/core/JobState;", sig := { parameters := [.int], returnType := some (.object "com/example/done_once/doneonce/core/JobState") }, accessFlags := 10, code := some k1c1 }
def k1c2 : Code := { maxStack := 2, maxLocals := 1, code := method_3_code, exceptionTable := #[], attributes := #[] }
def k1m2 : Method := { name := "execution", desc := "(I)Lcom/example/done_once/doneonce/core/Execution;", sig := { parameters := [.int], returnType := some (.object "com/example/done_once/doneonce/core/Execution") }, accessFlags := 10, code := some k1c2 }
def k1c3 : Code := { maxStack := 13, maxLocals := 20, code := code, exceptionTable := #[], attributes := #[] }
def k1m3 : Method := { name := "law", desc := "(IIIIIJ)Z", sig := { parameters := [.int, .int, .int, .int, .int, .long], returnType := some .boolean }, accessFlags := 9, code := some k1c3 }
/-- com/example/done_once/doneonce/store/RequestEndedPinLaw -/
def k1 : Class := { plain "com/example/done_once/doneonce/store/RequestEndedPinLaw" (some 0) with
  accessFlags := 49
  interfaces := #[]
  cf := some (fileOf pool1 54 #[] #[{ accessFlags := 1, nameIndex := 5, descriptorIndex := 6, attributes := #[] }, { accessFlags := 10, nameIndex := 73, descriptorIndex := 74, attributes := #[] }, { accessFlags := 10, nameIndex := 57, descriptorIndex := 58, attributes := #[] }, { accessFlags := 9, nameIndex := 115, descriptorIndex := 116, attributes := #[] }] 49 2 #[] #[])
  fields := #[]
  methods := #[k1m0, k1m1, k1m2, k1m3]
  instanceTypes := #[]
  staticTypes := #[]
  resolved := Array.replicate 119 none
  statics := none }

def pool2 : Array CpInfo := pool [(1, .class_ 2), (0, u "java/lang/constant/Constable"), (0, .class_ 4), (0, u "java/lang/Object")] 6

/-- java/lang/constant/Constable -/
def k2 : Class := { plain "java/lang/constant/Constable" (some 0) with
  accessFlags := 1537
  interfaces := #[]
  cf := some (fileOf pool2 1 #[] #[] 1537 3 #[] #[])
  fields := #[]
  methods := #[]
  instanceTypes := #[]
  staticTypes := #[]
  resolved := Array.replicate 11 none
  statics := none }

def pool3 : Array CpInfo := pool [(1, .class_ 2), (0, u "java/lang/Comparable"), (0, .class_ 4), (0, u "java/lang/Object")] 7

/-- java/lang/Comparable -/
def k3 : Class := { plain "java/lang/Comparable" (some 0) with
  accessFlags := 1537
  interfaces := #[]
  cf := some (fileOf pool3 1 #[] #[] 1537 3 #[] #[])
  fields := #[]
  methods := #[]
  instanceTypes := #[]
  staticTypes := #[]
  resolved := Array.replicate 12 none
  statics := none }

def pool4 : Array CpInfo := pool [(1, .class_ 2), (0, u "java/io/Serializable"), (0, .class_ 4), (0, u "java/lang/Object")] 2

/-- java/io/Serializable -/
def k4 : Class := { plain "java/io/Serializable" (some 0) with
  accessFlags := 1537
  interfaces := #[]
  cf := some (fileOf pool4 1 #[] #[] 1537 3 #[] #[])
  fields := #[]
  methods := #[]
  instanceTypes := #[]
  staticTypes := #[]
  resolved := Array.replicate 7 none
  statics := none }

def pool5 : Array CpInfo := pool [(2, .class_ 4), (1, u "java/lang/Enum"), (0, u "name"), (0, u "Ljava/lang/String;"), (2, u "ordinal"), (0, u "I"), (1, .class_ 14), (1, u "java/lang/Object"), (4, u "hash"), (86, .class_ 108), (1, u "java/lang/Enum$EnumDesc"), (2, .class_ 112), (0, u "java/lang/constant/Constable"), (0, .class_ 114), (0, u "java/lang/Comparable"), (0, .class_ 116), (0, u "java/io/Serializable")] 87

/-- java/lang/Enum -/
def k5 : Class := { plain "java/lang/Enum" (some 0) with
  accessFlags := 1057
  interfaces := #[2, 3, 4]
  cf := some (fileOf pool5 2 #[.nestMembers #[106]] #[] 1057 12 #[111, 113, 115] #[{ accessFlags := 18, nameIndex := 5, descriptorIndex := 6, attributes := #[] }, { accessFlags := 18, nameIndex := 9, descriptorIndex := 10, attributes := #[] }, { accessFlags := 2, nameIndex := 19, descriptorIndex := 10, attributes := #[] }])
  fields := #[{ name := "name", type := (.object "java/lang/String"), accessFlags := 18, slot := 0, constantValue := 0 }, { name := "ordinal", type := .int, accessFlags := 18, slot := 1, constantValue := 0 }, { name := "hash", type := .int, accessFlags := 2, slot := 2, constantValue := 0 }]
  methods := #[]
  instanceTypes := #[(.object "java/lang/String"), .int, .int]
  staticTypes := #[]
  resolved := Array.replicate 204 none
  statics := none }

def pool6 : Array CpInfo := pool [(19, .class_ 20), (0, u "com/example/done_once/doneonce/core/WireNamed"), (14, .class_ 36), (0, u "java/lang/Object")] 20

/-- com/example/done_once/doneonce/core/WireNamed -/
def k6 : Class := { plain "com/example/done_once/doneonce/core/WireNamed" (some 0) with
  accessFlags := 1537
  interfaces := #[]
  cf := some (fileOf pool6 19 #[] #[] 1537 35 #[] #[])
  fields := #[]
  methods := #[]
  instanceTypes := #[]
  staticTypes := #[]
  resolved := Array.replicate 57 none
  statics := none }

def pool7 : Array CpInfo := pool [(1, .class_ 2), (0, u "com/example/done_once/doneonce/core/RequestKind"), (2, u "JOB"), (0, u "Lcom/example/done_once/doneonce/core/RequestKind;"), (2, u "EXECUTE"), (2, u "$VALUES"), (0, u "[Lcom/example/done_once/doneonce/core/RequestKind;"), (6, .class_ 22), (1, u "java/lang/Enum"), (8, u "wireName"), (0, u "Ljava/lang/String;"), (13, .class_ 47), (0, u "com/example/done_once/doneonce/core/WireNamed")] 13

/-- com/example/done_once/doneonce/core/RequestKind -/
def k7 : Class := { plain "com/example/done_once/doneonce/core/RequestKind" (some 5) with
  accessFlags := 16433
  interfaces := #[6]
  cf := some (fileOf pool7 1 #[] #[] 16433 20 #[46] #[{ accessFlags := 16409, nameIndex := 5, descriptorIndex := 6, attributes := #[] }, { accessFlags := 16409, nameIndex := 9, descriptorIndex := 6, attributes := #[] }, { accessFlags := 18, nameIndex := 31, descriptorIndex := 32, attributes := #[] }, { accessFlags := 4122, nameIndex := 12, descriptorIndex := 13, attributes := #[] }])
  fields := #[{ name := "JOB", type := (.object "com/example/done_once/doneonce/core/RequestKind"), accessFlags := 16409, slot := 0, constantValue := 0 }, { name := "EXECUTE", type := (.object "com/example/done_once/doneonce/core/RequestKind"), accessFlags := 16409, slot := 1, constantValue := 0 }, { name := "wireName", type := (.object "java/lang/String"), accessFlags := 18, slot := 3, constantValue := 0 }, { name := "$VALUES", type := (.array (.object "com/example/done_once/doneonce/core/RequestKind")), accessFlags := 4122, slot := 2, constantValue := 0 }]
  methods := #[]
  instanceTypes := #[(.object "java/lang/String"), .int, .int, (.object "java/lang/String")]
  staticTypes := #[(.object "com/example/done_once/doneonce/core/RequestKind"), (.object "com/example/done_once/doneonce/core/RequestKind"), (.array (.object "com/example/done_once/doneonce/core/RequestKind"))]
  resolved := Array.replicate 61 none
  statics := some 0 }

def pool8 : Array CpInfo := pool [(1, .class_ 2), (0, u "com/example/done_once/doneonce/core/Execution"), (2, u "PENDING"), (0, u "Lcom/example/done_once/doneonce/core/Execution;"), (2, u "NOT_EXECUTED"), (2, u "EXECUTED"), (2, u "UNKNOWN"), (2, u "$VALUES"), (0, u "[Lcom/example/done_once/doneonce/core/Execution;"), (6, .class_ 28), (1, u "java/lang/Enum"), (8, u "wireName"), (0, u "Ljava/lang/String;"), (19, .class_ 59), (0, u "com/example/done_once/doneonce/core/WireNamed")] 13

/-- com/example/done_once/doneonce/core/Execution -/
def k8 : Class := { plain "com/example/done_once/doneonce/core/Execution" (some 5) with
  accessFlags := 16433
  interfaces := #[6]
  cf := some (fileOf pool8 1 #[] #[] 16433 26 #[58] #[{ accessFlags := 16409, nameIndex := 5, descriptorIndex := 6, attributes := #[] }, { accessFlags := 16409, nameIndex := 9, descriptorIndex := 6, attributes := #[] }, { accessFlags := 16409, nameIndex := 12, descriptorIndex := 6, attributes := #[] }, { accessFlags := 16409, nameIndex := 15, descriptorIndex := 6, attributes := #[] }, { accessFlags := 18, nameIndex := 37, descriptorIndex := 38, attributes := #[] }, { accessFlags := 4122, nameIndex := 18, descriptorIndex := 19, attributes := #[] }])
  fields := #[{ name := "PENDING", type := (.object "com/example/done_once/doneonce/core/Execution"), accessFlags := 16409, slot := 0, constantValue := 0 }, { name := "NOT_EXECUTED", type := (.object "com/example/done_once/doneonce/core/Execution"), accessFlags := 16409, slot := 1, constantValue := 0 }, { name := "EXECUTED", type := (.object "com/example/done_once/doneonce/core/Execution"), accessFlags := 16409, slot := 2, constantValue := 0 }, { name := "UNKNOWN", type := (.object "com/example/done_once/doneonce/core/Execution"), accessFlags := 16409, slot := 3, constantValue := 0 }, { name := "wireName", type := (.object "java/lang/String"), accessFlags := 18, slot := 3, constantValue := 0 }, { name := "$VALUES", type := (.array (.object "com/example/done_once/doneonce/core/Execution")), accessFlags := 4122, slot := 4, constantValue := 0 }]
  methods := #[]
  instanceTypes := #[(.object "java/lang/String"), .int, .int, (.object "java/lang/String")]
  staticTypes := #[(.object "com/example/done_once/doneonce/core/Execution"), (.object "com/example/done_once/doneonce/core/Execution"), (.object "com/example/done_once/doneonce/core/Execution"), (.object "com/example/done_once/doneonce/core/Execution"), (.array (.object "com/example/done_once/doneonce/core/Execution"))]
  resolved := Array.replicate 73 none
  statics := some 1 }

def pool9 : Array CpInfo := pool [(2, .class_ 4), (1, u "java/lang/CharSequence"), (42, .class_ 48), (0, u "java/lang/CharSequence$1CodePointIterator"), (10, .class_ 60), (0, u "java/lang/CharSequence$1CharIterator"), (5, .class_ 67), (0, u "java/lang/Object")] 63

/-- java/lang/CharSequence -/
def k9 : Class := { plain "java/lang/CharSequence" (some 0) with
  accessFlags := 1537
  interfaces := #[]
  cf := some (fileOf pool9 2 #[.nestMembers #[47, 59]] #[] 1537 66 #[] #[])
  fields := #[]
  methods := #[]
  instanceTypes := #[]
  staticTypes := #[]
  resolved := Array.replicate 131 none
  statics := none }

def pool10 : Array CpInfo := pool [(1, .class_ 2), (0, u "java/lang/constant/ConstantDesc"), (0, .class_ 4), (0, u "java/lang/Object")] 32

/-- java/lang/constant/ConstantDesc -/
def k10 : Class := { plain "java/lang/constant/ConstantDesc" (some 0) with
  accessFlags := 1537
  interfaces := #[]
  cf := some (fileOf pool10 1 #[] #[] 1537 3 #[] #[])
  fields := #[]
  methods := #[]
  instanceTypes := #[]
  staticTypes := #[]
  resolved := Array.replicate 37 none
  statics := none }

def pool11 : Array CpInfo := pool [(1, .methodref 2 3), (0, .class_ 4), (0, .nameAndType 5 6), (0, u "java/lang/Object"), (0, u "<init>"), (0, u "()V"), (2, .fieldref 10 11), (0, .class_ 12), (0, .nameAndType 13 14), (0, u "java/lang/String"), (0, u "value"), (0, u "[B"), (0, .fieldref 10 16), (0, .nameAndType 17 18), (0, u "coder"), (0, u "B"), (2, u "hash"), (0, u "I"), (2, u "hashIsZero"), (0, u "Z"), (11, .fieldref 10 39), (0, .nameAndType 40 26), (0, u "COMPACT_STRINGS"), (12, u "toBytes"), (53, .class_ 109), (1, u "java/lang/StringLatin1"), (99, .methodref 10 210), (0, .nameAndType 5 211), (0, u "([BB)V"), (157, u "(C)Z"), (205, .class_ 576), (0, u "java/lang/CharSequence"), (22, u "CASE_INSENSITIVE_ORDER"), (0, u "Ljava/util/Comparator;"), (181, u "valueOf"), (0, u "(C)Ljava/lang/String;"), (231, .methodref 107 1016), (0, .nameAndType 1017 369), (0, u "canEncode"), (0, .methodref 107 1019), (0, .nameAndType 53 1020), (0, u "(C)[B"), (80, u "serialPersistentFields"), (0, u "[Ljava/io/ObjectStreamField;"), (0, .class_ 1104), (0, u "java/lang/String$CaseInsensitiveComparator"), (1, .class_ 1107), (0, u "java/io/Serializable"), (0, .class_ 1109), (0, u "java/lang/Comparable"), (0, .class_ 1111), (0, u "java/lang/constant/Constable"), (0, .class_ 1113), (0, u "java/lang/constant/ConstantDesc"), (2, u "serialVersionUID"), (0, u "J"), (3, u "REPL"), (0, u "C"), (2, u "LATIN1"), (1, u "UTF16")] 323

def k11m0 : Method := { name := "<init>", desc := "()V", sig := { parameters := [], returnType := none }, accessFlags := 1, code := none }
def k11c1 : Code := { maxStack := 4, maxLocals := 1, code := jdk_42_method_139_code, exceptionTable := #[], attributes := #[] }
def k11m1 : Method := { name := "valueOf", desc := "(C)Ljava/lang/String;", sig := { parameters := [.char], returnType := some (.object "java/lang/String") }, accessFlags := 9, code := some k11c1 }
def k11c2 : Code := { maxStack := 2, maxLocals := 3, code := jdk_42_method_151_code, exceptionTable := #[], attributes := #[] }
def k11m2 : Method := { name := "<init>", desc := "([BB)V", sig := { parameters := [(.array .byte), .byte], returnType := none }, accessFlags := 0, code := some k11c2 }
/-- java/lang/String -/
def k11 : Class := { plain "java/lang/String" (some 0) with
  accessFlags := 49
  interfaces := #[4, 3, 9, 2, 10]
  cf := some (fileOf pool11 10 #[.nestMembers #[1103]] #[{ accessFlags := 1, nameIndex := 5, descriptorIndex := 6, attributes := #[] }, { accessFlags := 9, nameIndex := 782, descriptorIndex := 783, attributes := #[] }, { accessFlags := 0, nameIndex := 5, descriptorIndex := 211, attributes := #[] }] 49 2 #[1106, 1108, 575, 1110, 1112] #[{ accessFlags := 18, nameIndex := 13, descriptorIndex := 14, attributes := #[] }, { accessFlags := 18, nameIndex := 17, descriptorIndex := 18, attributes := #[] }, { accessFlags := 2, nameIndex := 21, descriptorIndex := 22, attributes := #[] }, { accessFlags := 2, nameIndex := 25, descriptorIndex := 26, attributes := #[] }, { accessFlags := 26, nameIndex := 1116, descriptorIndex := 1117, attributes := #[] }, { accessFlags := 24, nameIndex := 40, descriptorIndex := 26, attributes := #[] }, { accessFlags := 26, nameIndex := 1101, descriptorIndex := 1102, attributes := #[] }, { accessFlags := 26, nameIndex := 1121, descriptorIndex := 1122, attributes := #[] }, { accessFlags := 25, nameIndex := 599, descriptorIndex := 600, attributes := #[] }, { accessFlags := 24, nameIndex := 1125, descriptorIndex := 18, attributes := #[] }, { accessFlags := 24, nameIndex := 1127, descriptorIndex := 18, attributes := #[] }])
  fields := #[{ name := "value", type := (.array .byte), accessFlags := 18, slot := 0, constantValue := 0 }, { name := "coder", type := .byte, accessFlags := 18, slot := 1, constantValue := 0 }, { name := "hash", type := .int, accessFlags := 2, slot := 2, constantValue := 0 }, { name := "hashIsZero", type := .boolean, accessFlags := 2, slot := 3, constantValue := 0 }, { name := "serialVersionUID", type := .long, accessFlags := 26, slot := 0, constantValue := 0 }, { name := "COMPACT_STRINGS", type := .boolean, accessFlags := 24, slot := 1, constantValue := 0 }, { name := "serialPersistentFields", type := (.array (.object "java/io/ObjectStreamField")), accessFlags := 26, slot := 2, constantValue := 0 }, { name := "REPL", type := .char, accessFlags := 26, slot := 3, constantValue := 0 }, { name := "CASE_INSENSITIVE_ORDER", type := (.object "java/util/Comparator"), accessFlags := 25, slot := 4, constantValue := 0 }, { name := "LATIN1", type := .byte, accessFlags := 24, slot := 5, constantValue := 0 }, { name := "UTF16", type := .byte, accessFlags := 24, slot := 6, constantValue := 0 }]
  methods := #[k11m0, k11m1, k11m2]
  instanceTypes := #[(.array .byte), .byte, .int, .boolean]
  staticTypes := #[.long, .boolean, (.array (.object "java/io/ObjectStreamField")), .char, (.object "java/util/Comparator"), .byte, .byte]
  resolved := Array.replicate 1451 none
  statics := some 2 }

def pool12 : Array CpInfo := pool [(4, .class_ 6), (1, u "java/lang/Object"), (0, u "<init>"), (0, u "()V"), (5, .class_ 16), (1, u "java/lang/StringLatin1"), (73, u "canEncode"), (14, u "(C)Z"), (15, u "$assertionsDisabled"), (0, u "Z"), (98, .class_ 223), (1, u "java/lang/StringLatin1$LinesSpliterator"), (156, u "toBytes"), (1, u "(C)[B"), (7, .class_ 391), (0, u "java/lang/StringLatin1$CharsSpliterator")] 3

def k12m0 : Method := { name := "<init>", desc := "()V", sig := { parameters := [], returnType := none }, accessFlags := 0, code := none }
def k12c1 : Code := { maxStack := 2, maxLocals := 1, code := jdk_43_method_3_code, exceptionTable := #[], attributes := #[] }
def k12m1 : Method := { name := "canEncode", desc := "(C)Z", sig := { parameters := [.char], returnType := some .boolean }, accessFlags := 9, code := some k12c1 }
def k12c2 : Code := { maxStack := 4, maxLocals := 1, code := jdk_43_method_46_code, exceptionTable := #[], attributes := #[] }
def k12m2 : Method := { name := "toBytes", desc := "(C)[B", sig := { parameters := [.char], returnType := some (.array .byte) }, accessFlags := 9, code := some k12c2 }
/-- java/lang/StringLatin1 -/
def k12 : Class := { plain "java/lang/StringLatin1" (some 0) with
  accessFlags := 48
  interfaces := #[]
  cf := some (fileOf pool12 14 #[.nestMembers #[390, 221]] #[{ accessFlags := 0, nameIndex := 7, descriptorIndex := 8, attributes := #[] }, { accessFlags := 9, nameIndex := 90, descriptorIndex := 105, attributes := #[] }, { accessFlags := 9, nameIndex := 380, descriptorIndex := 382, attributes := #[] }] 48 4 #[] #[{ accessFlags := 4120, nameIndex := 121, descriptorIndex := 122, attributes := #[] }])
  fields := #[{ name := "$assertionsDisabled", type := .boolean, accessFlags := 4120, slot := 0, constantValue := 0 }]
  methods := #[k12m0, k12m1, k12m2]
  instanceTypes := #[]
  staticTypes := #[.boolean]
  resolved := Array.replicate 395 none
  statics := none }

def pool13 : Array CpInfo := pool [(1, .class_ 2), (0, u "com/example/done_once/doneonce/core/RequestState"), (2, u "WAITING_READY"), (0, u "Lcom/example/done_once/doneonce/core/RequestState;"), (2, u "SUCCEEDED"), (2, u "FAILED"), (2, u "CANCELLED"), (2, u "$VALUES"), (0, u "[Lcom/example/done_once/doneonce/core/RequestState;"), (6, .class_ 28), (1, u "java/lang/Enum"), (8, u "wireName"), (0, u "Ljava/lang/String;"), (0, .fieldref 1 40), (0, .nameAndType 41 42), (0, u "terminal"), (0, u "Z"), (19, .class_ 63), (0, u "com/example/done_once/doneonce/core/WireNamed"), (8, u "isTerminal"), (0, u "()Z")] 5

def k13c0 : Code := { maxStack := 1, maxLocals := 1, code := prog_21_method_5_code, exceptionTable := #[], attributes := #[] }
def k13m0 : Method := { name := "isTerminal", desc := "()Z", sig := { parameters := [], returnType := some .boolean }, accessFlags := 1, code := some k13c0 }
/-- com/example/done_once/doneonce/core/RequestState -/
def k13 : Class := { plain "com/example/done_once/doneonce/core/RequestState" (some 5) with
  accessFlags := 16433
  interfaces := #[6]
  cf := some (fileOf pool13 1 #[] #[{ accessFlags := 1, nameIndex := 72, descriptorIndex := 73, attributes := #[] }] 16433 26 #[62] #[{ accessFlags := 16409, nameIndex := 5, descriptorIndex := 6, attributes := #[] }, { accessFlags := 16409, nameIndex := 9, descriptorIndex := 6, attributes := #[] }, { accessFlags := 16409, nameIndex := 12, descriptorIndex := 6, attributes := #[] }, { accessFlags := 16409, nameIndex := 15, descriptorIndex := 6, attributes := #[] }, { accessFlags := 18, nameIndex := 37, descriptorIndex := 38, attributes := #[] }, { accessFlags := 18, nameIndex := 41, descriptorIndex := 42, attributes := #[] }, { accessFlags := 4122, nameIndex := 18, descriptorIndex := 19, attributes := #[] }])
  fields := #[{ name := "WAITING_READY", type := (.object "com/example/done_once/doneonce/core/RequestState"), accessFlags := 16409, slot := 0, constantValue := 0 }, { name := "SUCCEEDED", type := (.object "com/example/done_once/doneonce/core/RequestState"), accessFlags := 16409, slot := 1, constantValue := 0 }, { name := "FAILED", type := (.object "com/example/done_once/doneonce/core/RequestState"), accessFlags := 16409, slot := 2, constantValue := 0 }, { name := "CANCELLED", type := (.object "com/example/done_once/doneonce/core/RequestState"), accessFlags := 16409, slot := 3, constantValue := 0 }, { name := "wireName", type := (.object "java/lang/String"), accessFlags := 18, slot := 3, constantValue := 0 }, { name := "terminal", type := .boolean, accessFlags := 18, slot := 4, constantValue := 0 }, { name := "$VALUES", type := (.array (.object "com/example/done_once/doneonce/core/RequestState")), accessFlags := 4122, slot := 4, constantValue := 0 }]
  methods := #[k13m0]
  instanceTypes := #[(.object "java/lang/String"), .int, .int, (.object "java/lang/String"), .boolean]
  staticTypes := #[(.object "com/example/done_once/doneonce/core/RequestState"), (.object "com/example/done_once/doneonce/core/RequestState"), (.object "com/example/done_once/doneonce/core/RequestState"), (.object "com/example/done_once/doneonce/core/RequestState"), (.array (.object "com/example/done_once/doneonce/core/RequestState"))]
  resolved := Array.replicate 79 none
  statics := some 3 }

def pool14 : Array CpInfo := pool [(1, .methodref 2 3), (0, .class_ 4), (0, .nameAndType 5 6), (0, u "java/lang/Object"), (0, u "<init>"), (0, u "()V"), (0, .class_ 8), (0, u "java/lang/Record")] 13

def k14c0 : Code := { maxStack := 1, maxLocals := 1, code := jdk_30_method_1_code, exceptionTable := #[], attributes := #[] }
def k14m0 : Method := { name := "<init>", desc := "()V", sig := { parameters := [], returnType := none }, accessFlags := 4, code := some k14c0 }
/-- java/lang/Record -/
def k14 : Class := { plain "java/lang/Record" (some 0) with
  accessFlags := 1057
  interfaces := #[]
  cf := some (fileOf pool14 7 #[] #[{ accessFlags := 4, nameIndex := 5, descriptorIndex := 6, attributes := #[] }] 1057 2 #[] #[])
  fields := #[]
  methods := #[k14m0]
  instanceTypes := #[]
  staticTypes := #[]
  resolved := Array.replicate 22 none
  statics := none }

def pool15 : Array CpInfo := pool [(1, .methodref 2 3), (0, .class_ 4), (0, .nameAndType 5 6), (0, u "java/lang/Record"), (0, u "<init>"), (0, u "()V"), (0, .string 8), (0, u "Request id must not be null"), (0, .methodref 10 11), (0, .class_ 12), (0, .nameAndType 13 14), (0, u "java/util/Objects"), (0, u "requireNonNull"), (0, u "(Ljava/lang/Object;Ljava/lang/String;)Ljava/lang/Object;"), (0, .string 16), (0, u "Kind must not be null"), (0, .string 18), (0, u "State must not be null"), (0, .fieldref 20 21), (0, .class_ 22), (0, .nameAndType 23 24), (0, u "com/example/done_once/doneonce/core/RequestState"), (0, u "SUCCEEDED"), (0, u "Lcom/example/done_once/doneonce/core/RequestState;"), (15, .fieldref 41 42), (0, .class_ 43), (0, .nameAndType 44 45), (0, u "com/example/done_once/doneonce/store/Request"), (0, u "requestId"), (0, u "Ljava/lang/String;"), (0, .fieldref 41 47), (0, .nameAndType 48 49), (0, u "kind"), (0, u "Lcom/example/done_once/doneonce/core/RequestKind;"), (0, .fieldref 41 51), (0, .nameAndType 52 45), (0, u "lane"), (0, .fieldref 41 54), (0, .nameAndType 55 45), (0, u "tool"), (0, .fieldref 41 57), (0, .nameAndType 58 24), (0, u "state"), (0, .fieldref 41 60), (0, .nameAndType 61 45), (0, u "error"), (0, .fieldref 41 63), (0, .nameAndType 64 65), (0, u "job"), (0, u "Lcom/example/done_once/doneonce/store/Job;"), (1, .class_ 69), (1, u "com/example/done_once/doneonce/store/Job"), (7, u "(Ljava/lang/String;Lcom/example/done_once/doneonce/core/RequestKind;Ljava/lang/String;Ljava/lang/String;Lcom/example/done_once/doneonce/core/RequestState;Ljava/lang/String;Lcom/example/done_once/doneonce/store/Job;)V"), (5, .methodref 67 84), (0, .nameAndType 85 86), (0, u "status"), (0, u "()Lcom/example/done_once/doneonce/core/JobStatus;"), (0, .methodref 88 89), (0, .class_ 90), (0, .nameAndType 58 91), (0, u "com/example/done_once/doneonce/core/JobStatus"), (0, u "()Lcom/example/done_once/doneonce/core/JobState;"), (0, .methodref 93 94), (0, .class_ 95), (0, .nameAndType 96 97), (0, u "com/example/done_once/doneonce/core/JobState"), (0, u "isTerminal"), (0, u "()Z"), (0, .methodref 20 94), (35, u "ended")] 31

def k15c0 : Code := { maxStack := 7, maxLocals := 9, code := prog_55_method_1_code, exceptionTable := #[], attributes := #[] }
def k15m0 : Method := { name := "<init>", desc := "(Ljava/lang/String;Lcom/example/done_once/doneonce/core/RequestKind;Ljava/lang/String;Ljava/lang/String;Lcom/example/done_once/doneonce/core/RequestState;Ljava/lang/String;Lcom/example/done_once/doneonce/store/Job;)V", sig := { parameters := [(.object "java/lang/String"), (.object "com/example/done_once/doneonce/core/RequestKind"), (.object "java/lang/String"), (.object "java/lang/String"), (.object "com/example/done_once/doneonce/core/RequestState"), (.object "java/lang/String"), (.object "com/example/done_once/doneonce/store/Job")], returnType := none }, accessFlags := 1, code := some k15c0 }
def k15c1 : Code := { maxStack := 1, maxLocals := 1, code := prog_55_method_4_code, exceptionTable := #[], attributes := #[] }
def k15m1 : Method := { name := "ended", desc := "()Z", sig := { parameters := [], returnType := some .boolean }, accessFlags := 1, code := some k15c1 }
/-- com/example/done_once/doneonce/store/Request -/
def k15 : Class := { plain "com/example/done_once/doneonce/store/Request" (some 14) with
  accessFlags := 49
  interfaces := #[]
  cf := some (fileOf pool15 41 #[] #[{ accessFlags := 1, nameIndex := 5, descriptorIndex := 77, attributes := #[] }, { accessFlags := 1, nameIndex := 134, descriptorIndex := 97, attributes := #[] }] 49 2 #[] #[{ accessFlags := 18, nameIndex := 44, descriptorIndex := 45, attributes := #[] }, { accessFlags := 18, nameIndex := 48, descriptorIndex := 49, attributes := #[] }, { accessFlags := 18, nameIndex := 52, descriptorIndex := 45, attributes := #[] }, { accessFlags := 18, nameIndex := 55, descriptorIndex := 45, attributes := #[] }, { accessFlags := 18, nameIndex := 58, descriptorIndex := 24, attributes := #[] }, { accessFlags := 18, nameIndex := 61, descriptorIndex := 45, attributes := #[] }, { accessFlags := 18, nameIndex := 64, descriptorIndex := 65, attributes := #[] }])
  fields := #[{ name := "requestId", type := (.object "java/lang/String"), accessFlags := 18, slot := 0, constantValue := 0 }, { name := "kind", type := (.object "com/example/done_once/doneonce/core/RequestKind"), accessFlags := 18, slot := 1, constantValue := 0 }, { name := "lane", type := (.object "java/lang/String"), accessFlags := 18, slot := 2, constantValue := 0 }, { name := "tool", type := (.object "java/lang/String"), accessFlags := 18, slot := 3, constantValue := 0 }, { name := "state", type := (.object "com/example/done_once/doneonce/core/RequestState"), accessFlags := 18, slot := 4, constantValue := 0 }, { name := "error", type := (.object "java/lang/String"), accessFlags := 18, slot := 5, constantValue := 0 }, { name := "job", type := (.object "com/example/done_once/doneonce/store/Job"), accessFlags := 18, slot := 6, constantValue := 0 }]
  methods := #[k15m0, k15m1]
  instanceTypes := #[(.object "java/lang/String"), (.object "com/example/done_once/doneonce/core/RequestKind"), (.object "java/lang/String"), (.object "java/lang/String"), (.object "com/example/done_once/doneonce/core/RequestState"), (.object "java/lang/String"), (.object "com/example/done_once/doneonce/store/Job")]
  staticTypes := #[]
  resolved := Array.replicate 166 none
  statics := none }

def pool16 : Array CpInfo := pool [(2, .class_ 4), (1, u "java/lang/Object"), (0, u "<init>"), (0, u "()V"), (35, .class_ 44), (1, u "java/util/Objects"), (0, u "requireNonNull"), (48, u "(Ljava/lang/Object;Ljava/lang/String;)Ljava/lang/Object;")] 89

def k16m0 : Method := { name := "<init>", desc := "()V", sig := { parameters := [], returnType := none }, accessFlags := 2, code := none }
def k16c1 : Code := { maxStack := 3, maxLocals := 2, code := jdk_31_method_11_code, exceptionTable := #[], attributes := #[] }
def k16m1 : Method := { name := "requireNonNull", desc := "(Ljava/lang/Object;Ljava/lang/String;)Ljava/lang/Object;", sig := { parameters := [(.object "java/lang/Object"), (.object "java/lang/String")], returnType := some (.object "java/lang/Object") }, accessFlags := 9, code := some k16c1 }
/-- java/util/Objects -/
def k16 : Class := { plain "java/util/Objects" (some 0) with
  accessFlags := 49
  interfaces := #[]
  cf := some (fileOf pool16 42 #[] #[{ accessFlags := 2, nameIndex := 5, descriptorIndex := 6, attributes := #[] }, { accessFlags := 9, nameIndex := 45, descriptorIndex := 94, attributes := #[] }] 49 2 #[] #[])
  fields := #[]
  methods := #[k16m0, k16m1]
  instanceTypes := #[]
  staticTypes := #[]
  resolved := Array.replicate 184 none
  statics := none }

def pool17 : Array CpInfo := pool [(1, .methodref 2 3), (0, .class_ 4), (0, .nameAndType 5 6), (0, u "java/lang/Record"), (0, u "<init>"), (0, u "()V"), (0, .string 8), (0, u "State must not be null"), (0, .methodref 10 11), (0, .class_ 12), (0, .nameAndType 13 14), (0, u "java/util/Objects"), (0, u "requireNonNull"), (0, u "(Ljava/lang/Object;Ljava/lang/String;)Ljava/lang/Object;"), (0, .string 16), (0, u "Execution must not be null"), (0, .fieldref 18 19), (0, .class_ 20), (0, .nameAndType 21 22), (0, u "com/example/done_once/doneonce/core/JobStatus"), (0, u "state"), (0, u "Lcom/example/done_once/doneonce/core/JobState;"), (0, .fieldref 18 24), (0, .nameAndType 25 26), (0, u "execution"), (0, u "Lcom/example/done_once/doneonce/core/Execution;"), (0, .fieldref 18 28), (0, .nameAndType 29 30), (0, u "executorId"), (0, u "Ljava/lang/String;"), (0, .fieldref 18 32), (0, .nameAndType 33 34), (0, u "cancelRequested"), (0, u "Z"), (0, .fieldref 18 36), (0, .nameAndType 37 34), (0, u "supportsCancel"), (2, u "(Lcom/example/done_once/doneonce/core/JobState;Lcom/example/done_once/doneonce/core/Execution;Ljava/lang/String;ZZ)V"), (34, u "()Lcom/example/done_once/doneonce/core/JobState;")] 26

def k17c0 : Code := { maxStack := 2, maxLocals := 6, code := prog_12_method_1_code, exceptionTable := #[], attributes := #[] }
def k17m0 : Method := { name := "<init>", desc := "(Lcom/example/done_once/doneonce/core/JobState;Lcom/example/done_once/doneonce/core/Execution;Ljava/lang/String;ZZ)V", sig := { parameters := [(.object "com/example/done_once/doneonce/core/JobState"), (.object "com/example/done_once/doneonce/core/Execution"), (.object "java/lang/String"), .boolean, .boolean], returnType := none }, accessFlags := 1, code := some k17c0 }
def k17c1 : Code := { maxStack := 1, maxLocals := 1, code := prog_12_method_8_code, exceptionTable := #[], attributes := #[] }
def k17m1 : Method := { name := "state", desc := "()Lcom/example/done_once/doneonce/core/JobState;", sig := { parameters := [], returnType := some (.object "com/example/done_once/doneonce/core/JobState") }, accessFlags := 1, code := some k17c1 }
/-- com/example/done_once/doneonce/core/JobStatus -/
def k17 : Class := { plain "com/example/done_once/doneonce/core/JobStatus" (some 14) with
  accessFlags := 49
  interfaces := #[]
  cf := some (fileOf pool17 18 #[] #[{ accessFlags := 1, nameIndex := 5, descriptorIndex := 40, attributes := #[] }, { accessFlags := 1, nameIndex := 21, descriptorIndex := 75, attributes := #[] }] 49 2 #[] #[{ accessFlags := 18, nameIndex := 21, descriptorIndex := 22, attributes := #[] }, { accessFlags := 18, nameIndex := 25, descriptorIndex := 26, attributes := #[] }, { accessFlags := 18, nameIndex := 29, descriptorIndex := 30, attributes := #[] }, { accessFlags := 18, nameIndex := 33, descriptorIndex := 34, attributes := #[] }, { accessFlags := 18, nameIndex := 37, descriptorIndex := 34, attributes := #[] }])
  fields := #[{ name := "state", type := (.object "com/example/done_once/doneonce/core/JobState"), accessFlags := 18, slot := 0, constantValue := 0 }, { name := "execution", type := (.object "com/example/done_once/doneonce/core/Execution"), accessFlags := 18, slot := 1, constantValue := 0 }, { name := "executorId", type := (.object "java/lang/String"), accessFlags := 18, slot := 2, constantValue := 0 }, { name := "cancelRequested", type := .boolean, accessFlags := 18, slot := 3, constantValue := 0 }, { name := "supportsCancel", type := .boolean, accessFlags := 18, slot := 4, constantValue := 0 }]
  methods := #[k17m0, k17m1]
  instanceTypes := #[(.object "com/example/done_once/doneonce/core/JobState"), (.object "com/example/done_once/doneonce/core/Execution"), (.object "java/lang/String"), .boolean, .boolean]
  staticTypes := #[]
  resolved := Array.replicate 102 none
  statics := none }

def pool18 : Array CpInfo := pool [(1, .class_ 2), (0, u "com/example/done_once/doneonce/core/JobState"), (2, u "QUEUED"), (0, u "Lcom/example/done_once/doneonce/core/JobState;"), (2, u "RUNNING"), (2, u "SUCCEEDED"), (2, u "FAILED"), (2, u "TIMEOUT"), (2, u "CANCELLED"), (2, u "$VALUES"), (0, u "[Lcom/example/done_once/doneonce/core/JobState;"), (6, .class_ 34), (1, u "java/lang/Enum"), (8, u "wireName"), (0, u "Ljava/lang/String;"), (0, .fieldref 1 46), (0, .nameAndType 47 48), (0, u "terminal"), (0, u "Z"), (1, .class_ 52), (1, u "com/example/done_once/doneonce/core/WireNamed"), (34, u "isTerminal"), (0, u "()Z")] 5

def k18c0 : Code := { maxStack := 1, maxLocals := 1, code := prog_11_method_5_code, exceptionTable := #[], attributes := #[] }
def k18m0 : Method := { name := "isTerminal", desc := "()Z", sig := { parameters := [], returnType := some .boolean }, accessFlags := 1, code := some k18c0 }
/-- com/example/done_once/doneonce/core/JobState -/
def k18 : Class := { plain "com/example/done_once/doneonce/core/JobState" (some 5) with
  accessFlags := 16433
  interfaces := #[6]
  cf := some (fileOf pool18 1 #[] #[{ accessFlags := 1, nameIndex := 87, descriptorIndex := 88, attributes := #[] }] 16433 32 #[50] #[{ accessFlags := 16409, nameIndex := 5, descriptorIndex := 6, attributes := #[] }, { accessFlags := 16409, nameIndex := 9, descriptorIndex := 6, attributes := #[] }, { accessFlags := 16409, nameIndex := 12, descriptorIndex := 6, attributes := #[] }, { accessFlags := 16409, nameIndex := 15, descriptorIndex := 6, attributes := #[] }, { accessFlags := 16409, nameIndex := 18, descriptorIndex := 6, attributes := #[] }, { accessFlags := 16409, nameIndex := 21, descriptorIndex := 6, attributes := #[] }, { accessFlags := 18, nameIndex := 43, descriptorIndex := 44, attributes := #[] }, { accessFlags := 18, nameIndex := 47, descriptorIndex := 48, attributes := #[] }, { accessFlags := 4122, nameIndex := 24, descriptorIndex := 25, attributes := #[] }])
  fields := #[{ name := "QUEUED", type := (.object "com/example/done_once/doneonce/core/JobState"), accessFlags := 16409, slot := 0, constantValue := 0 }, { name := "RUNNING", type := (.object "com/example/done_once/doneonce/core/JobState"), accessFlags := 16409, slot := 1, constantValue := 0 }, { name := "SUCCEEDED", type := (.object "com/example/done_once/doneonce/core/JobState"), accessFlags := 16409, slot := 2, constantValue := 0 }, { name := "FAILED", type := (.object "com/example/done_once/doneonce/core/JobState"), accessFlags := 16409, slot := 3, constantValue := 0 }, { name := "TIMEOUT", type := (.object "com/example/done_once/doneonce/core/JobState"), accessFlags := 16409, slot := 4, constantValue := 0 }, { name := "CANCELLED", type := (.object "com/example/done_once/doneonce/core/JobState"), accessFlags := 16409, slot := 5, constantValue := 0 }, { name := "wireName", type := (.object "java/lang/String"), accessFlags := 18, slot := 3, constantValue := 0 }, { name := "terminal", type := .boolean, accessFlags := 18, slot := 4, constantValue := 0 }, { name := "$VALUES", type := (.array (.object "com/example/done_once/doneonce/core/JobState")), accessFlags := 4122, slot := 6, constantValue := 0 }]
  methods := #[k18m0]
  instanceTypes := #[(.object "java/lang/String"), .int, .int, (.object "java/lang/String"), .boolean]
  staticTypes := #[(.object "com/example/done_once/doneonce/core/JobState"), (.object "com/example/done_once/doneonce/core/JobState"), (.object "com/example/done_once/doneonce/core/JobState"), (.object "com/example/done_once/doneonce/core/JobState"), (.object "com/example/done_once/doneonce/core/JobState"), (.object "com/example/done_once/doneonce/core/JobState"), (.array (.object "com/example/done_once/doneonce/core/JobState"))]
  resolved := Array.replicate 94 none
  statics := some 4 }

def pool19 : Array CpInfo := pool [(1, .methodref 2 3), (0, .class_ 4), (0, .nameAndType 5 6), (0, u "java/lang/Record"), (0, u "<init>"), (0, u "()V"), (0, .string 8), (0, u "Job id must not be null"), (0, .methodref 10 11), (0, .class_ 12), (0, .nameAndType 13 14), (0, u "java/util/Objects"), (0, u "requireNonNull"), (0, u "(Ljava/lang/Object;Ljava/lang/String;)Ljava/lang/Object;"), (0, .string 16), (0, u "Request id must not be null"), (0, .string 18), (0, u "Status must not be null"), (0, .fieldref 20 21), (0, .class_ 22), (0, .nameAndType 23 24), (0, u "com/example/done_once/doneonce/store/Job"), (0, u "jobId"), (0, u "Ljava/lang/String;"), (0, .fieldref 20 26), (0, .nameAndType 27 24), (0, u "requestId"), (0, .fieldref 20 29), (0, .nameAndType 30 24), (0, u "lane"), (0, .fieldref 20 32), (0, .nameAndType 33 24), (0, u "tool"), (0, .fieldref 20 35), (0, .nameAndType 36 24), (0, u "params"), (0, .fieldref 20 38), (0, .nameAndType 39 24), (0, u "clientRequestId"), (0, .fieldref 20 41), (0, .nameAndType 42 43), (0, u "timeoutMs"), (0, u "J"), (0, .fieldref 20 45), (0, .nameAndType 46 47), (0, u "status"), (0, u "Lcom/example/done_once/doneonce/core/JobStatus;"), (0, .fieldref 20 49), (0, .nameAndType 50 24), (0, u "result"), (0, .fieldref 20 52), (0, .nameAndType 53 24), (0, u "error"), (2, u "(Ljava/lang/String;Ljava/lang/String;Ljava/lang/String;Ljava/lang/String;Ljava/lang/String;Ljava/lang/String;JLcom/example/done_once/doneonce/core/JobStatus;Ljava/lang/String;Ljava/lang/String;)V"), (21, u "()Lcom/example/done_once/doneonce/core/JobStatus;")] 29

def k19c0 : Code := { maxStack := 3, maxLocals := 12, code := prog_49_method_1_code, exceptionTable := #[], attributes := #[] }
def k19m0 : Method := { name := "<init>", desc := "(Ljava/lang/String;Ljava/lang/String;Ljava/lang/String;Ljava/lang/String;Ljava/lang/String;Ljava/lang/String;JLcom/example/done_once/doneonce/core/JobStatus;Ljava/lang/String;Ljava/lang/String;)V", sig := { parameters := [(.object "java/lang/String"), (.object "java/lang/String"), (.object "java/lang/String"), (.object "java/lang/String"), (.object "java/lang/String"), (.object "java/lang/String"), .long, (.object "com/example/done_once/doneonce/core/JobStatus"), (.object "java/lang/String"), (.object "java/lang/String")], returnType := none }, accessFlags := 1, code := some k19c0 }
def k19c1 : Code := { maxStack := 1, maxLocals := 1, code := prog_49_method_13_code, exceptionTable := #[], attributes := #[] }
def k19m1 : Method := { name := "status", desc := "()Lcom/example/done_once/doneonce/core/JobStatus;", sig := { parameters := [], returnType := some (.object "com/example/done_once/doneonce/core/JobStatus") }, accessFlags := 1, code := some k19c1 }
/-- com/example/done_once/doneonce/store/Job -/
def k19 : Class := { plain "com/example/done_once/doneonce/store/Job" (some 14) with
  accessFlags := 49
  interfaces := #[]
  cf := some (fileOf pool19 20 #[] #[{ accessFlags := 1, nameIndex := 5, descriptorIndex := 56, attributes := #[] }, { accessFlags := 1, nameIndex := 46, descriptorIndex := 78, attributes := #[] }] 49 2 #[] #[{ accessFlags := 18, nameIndex := 23, descriptorIndex := 24, attributes := #[] }, { accessFlags := 18, nameIndex := 27, descriptorIndex := 24, attributes := #[] }, { accessFlags := 18, nameIndex := 30, descriptorIndex := 24, attributes := #[] }, { accessFlags := 18, nameIndex := 33, descriptorIndex := 24, attributes := #[] }, { accessFlags := 18, nameIndex := 36, descriptorIndex := 24, attributes := #[] }, { accessFlags := 18, nameIndex := 39, descriptorIndex := 24, attributes := #[] }, { accessFlags := 18, nameIndex := 42, descriptorIndex := 43, attributes := #[] }, { accessFlags := 18, nameIndex := 46, descriptorIndex := 47, attributes := #[] }, { accessFlags := 18, nameIndex := 50, descriptorIndex := 24, attributes := #[] }, { accessFlags := 18, nameIndex := 53, descriptorIndex := 24, attributes := #[] }])
  fields := #[{ name := "jobId", type := (.object "java/lang/String"), accessFlags := 18, slot := 0, constantValue := 0 }, { name := "requestId", type := (.object "java/lang/String"), accessFlags := 18, slot := 1, constantValue := 0 }, { name := "lane", type := (.object "java/lang/String"), accessFlags := 18, slot := 2, constantValue := 0 }, { name := "tool", type := (.object "java/lang/String"), accessFlags := 18, slot := 3, constantValue := 0 }, { name := "params", type := (.object "java/lang/String"), accessFlags := 18, slot := 4, constantValue := 0 }, { name := "clientRequestId", type := (.object "java/lang/String"), accessFlags := 18, slot := 5, constantValue := 0 }, { name := "timeoutMs", type := .long, accessFlags := 18, slot := 6, constantValue := 0 }, { name := "status", type := (.object "com/example/done_once/doneonce/core/JobStatus"), accessFlags := 18, slot := 7, constantValue := 0 }, { name := "result", type := (.object "java/lang/String"), accessFlags := 18, slot := 8, constantValue := 0 }, { name := "error", type := (.object "java/lang/String"), accessFlags := 18, slot := 9, constantValue := 0 }]
  methods := #[k19m0, k19m1]
  instanceTypes := #[(.object "java/lang/String"), (.object "java/lang/String"), (.object "java/lang/String"), (.object "java/lang/String"), (.object "java/lang/String"), (.object "java/lang/String"), .long, (.object "com/example/done_once/doneonce/core/JobStatus"), (.object "java/lang/String"), (.object "java/lang/String")]
  staticTypes := #[]
  resolved := Array.replicate 108 none
  statics := none }

def pool20 : Array CpInfo := pool [(2, .class_ 4), (1, u "java/lang/Object"), (0, u "<init>"), (0, u "()V"), (17, .class_ 26), (1, u "jdk/internal/util/Preconditions"), (28, .class_ 56), (0, u "jdk/internal/util/Preconditions$4"), (57, .class_ 115), (0, u "jdk/internal/util/Preconditions$1"), (7, u "SIOOBE_FORMATTER"), (0, u "Ljava/util/function/BiFunction;"), (0, .class_ 126), (0, u "jdk/internal/util/Preconditions$2"), (3, u "AIOOBE_FORMATTER"), (0, .class_ 132), (0, u "jdk/internal/util/Preconditions$3"), (3, u "IOOBE_FORMATTER")] 57

def k20m0 : Method := { name := "<init>", desc := "()V", sig := { parameters := [], returnType := none }, accessFlags := 1, code := none }
/-- jdk/internal/util/Preconditions -/
def k20 : Class := { plain "jdk/internal/util/Preconditions" (some 0) with
  accessFlags := 33
  interfaces := #[]
  cf := some (fileOf pool20 24 #[.nestMembers #[55, 131, 125, 114]] #[{ accessFlags := 1, nameIndex := 5, descriptorIndex := 6, attributes := #[] }] 33 2 #[] #[{ accessFlags := 25, nameIndex := 123, descriptorIndex := 124, attributes := #[] }, { accessFlags := 25, nameIndex := 130, descriptorIndex := 124, attributes := #[] }, { accessFlags := 25, nameIndex := 136, descriptorIndex := 124, attributes := #[] }])
  fields := #[{ name := "SIOOBE_FORMATTER", type := (.object "java/util/function/BiFunction"), accessFlags := 25, slot := 0, constantValue := 0 }, { name := "AIOOBE_FORMATTER", type := (.object "java/util/function/BiFunction"), accessFlags := 25, slot := 1, constantValue := 0 }, { name := "IOOBE_FORMATTER", type := (.object "java/util/function/BiFunction"), accessFlags := 25, slot := 2, constantValue := 0 }]
  methods := #[k20m0]
  instanceTypes := #[]
  staticTypes := #[(.object "java/util/function/BiFunction"), (.object "java/util/function/BiFunction"), (.object "java/util/function/BiFunction")]
  resolved := Array.replicate 194 none
  statics := some 5 }

def pool21 : Array CpInfo := pool [(9, u "<init>"), (6, .class_ 18), (1, u "java/lang/Object"), (0, u "()V"), (1, .class_ 23), (1, u "jdk/internal/util/ArraysSupport"), (0, u "LOG2_ARRAY_LONG_INDEX_SCALE"), (0, u "I"), (2, u "U"), (0, u "Ljdk/internal/misc/Unsafe;"), (8, u "BIG_ENDIAN"), (0, u "Z"), (8, u "LOG2_BYTE_BIT_SIZE"), (4, u "LOG2_ARRAY_INT_INDEX_SCALE"), (54, u "JLA"), (0, u "Ljdk/internal/access/JavaLangAccess;"), (11, u "LOG2_ARRAY_BOOLEAN_INDEX_SCALE"), (9, u "LOG2_ARRAY_BYTE_INDEX_SCALE"), (5, u "LOG2_ARRAY_CHAR_INDEX_SCALE"), (5, u "LOG2_ARRAY_SHORT_INDEX_SCALE"), (18, u "LOG2_ARRAY_FLOAT_INDEX_SCALE"), (24, u "LOG2_ARRAY_DOUBLE_INDEX_SCALE"), (89, u "T_BOOLEAN"), (2, u "T_CHAR"), (1, u "T_FLOAT"), (1, u "T_DOUBLE"), (1, u "T_BYTE"), (1, u "T_SHORT"), (1, u "T_INT"), (1, u "T_LONG"), (1, u "SOFT_MAX_ARRAY_LENGTH")] 83

def k21m0 : Method := { name := "<init>", desc := "()V", sig := { parameters := [], returnType := none }, accessFlags := 2, code := none }
/-- jdk/internal/util/ArraysSupport -/
def k21 : Class := { plain "jdk/internal/util/ArraysSupport" (some 0) with
  accessFlags := 33
  interfaces := #[]
  cf := some (fileOf pool21 21 #[] #[{ accessFlags := 2, nameIndex := 9, descriptorIndex := 19, attributes := #[] }] 33 16 #[] #[{ accessFlags := 24, nameIndex := 28, descriptorIndex := 29, attributes := #[] }, { accessFlags := 26, nameIndex := 38, descriptorIndex := 39, attributes := #[] }, { accessFlags := 25, nameIndex := 121, descriptorIndex := 25, attributes := #[] }, { accessFlags := 25, nameIndex := 131, descriptorIndex := 25, attributes := #[] }, { accessFlags := 25, nameIndex := 137, descriptorIndex := 25, attributes := #[] }, { accessFlags := 25, nameIndex := 143, descriptorIndex := 25, attributes := #[] }, { accessFlags := 25, nameIndex := 53, descriptorIndex := 25, attributes := #[] }, { accessFlags := 25, nameIndex := 24, descriptorIndex := 25, attributes := #[] }, { accessFlags := 25, nameIndex := 162, descriptorIndex := 25, attributes := #[] }, { accessFlags := 25, nameIndex := 187, descriptorIndex := 25, attributes := #[] }, { accessFlags := 26, nameIndex := 48, descriptorIndex := 25, attributes := #[] }, { accessFlags := 25, nameIndex := 277, descriptorIndex := 25, attributes := #[] }, { accessFlags := 25, nameIndex := 280, descriptorIndex := 25, attributes := #[] }, { accessFlags := 25, nameIndex := 282, descriptorIndex := 25, attributes := #[] }, { accessFlags := 25, nameIndex := 284, descriptorIndex := 25, attributes := #[] }, { accessFlags := 25, nameIndex := 286, descriptorIndex := 25, attributes := #[] }, { accessFlags := 25, nameIndex := 288, descriptorIndex := 25, attributes := #[] }, { accessFlags := 25, nameIndex := 290, descriptorIndex := 25, attributes := #[] }, { accessFlags := 25, nameIndex := 292, descriptorIndex := 25, attributes := #[] }, { accessFlags := 26, nameIndex := 108, descriptorIndex := 109, attributes := #[] }, { accessFlags := 25, nameIndex := 294, descriptorIndex := 25, attributes := #[] }])
  fields := #[{ name := "U", type := (.object "jdk/internal/misc/Unsafe"), accessFlags := 24, slot := 0, constantValue := 0 }, { name := "BIG_ENDIAN", type := .boolean, accessFlags := 26, slot := 1, constantValue := 0 }, { name := "LOG2_ARRAY_BOOLEAN_INDEX_SCALE", type := .int, accessFlags := 25, slot := 2, constantValue := 0 }, { name := "LOG2_ARRAY_BYTE_INDEX_SCALE", type := .int, accessFlags := 25, slot := 3, constantValue := 0 }, { name := "LOG2_ARRAY_CHAR_INDEX_SCALE", type := .int, accessFlags := 25, slot := 4, constantValue := 0 }, { name := "LOG2_ARRAY_SHORT_INDEX_SCALE", type := .int, accessFlags := 25, slot := 5, constantValue := 0 }, { name := "LOG2_ARRAY_INT_INDEX_SCALE", type := .int, accessFlags := 25, slot := 6, constantValue := 0 }, { name := "LOG2_ARRAY_LONG_INDEX_SCALE", type := .int, accessFlags := 25, slot := 7, constantValue := 0 }, { name := "LOG2_ARRAY_FLOAT_INDEX_SCALE", type := .int, accessFlags := 25, slot := 8, constantValue := 0 }, { name := "LOG2_ARRAY_DOUBLE_INDEX_SCALE", type := .int, accessFlags := 25, slot := 9, constantValue := 0 }, { name := "LOG2_BYTE_BIT_SIZE", type := .int, accessFlags := 26, slot := 10, constantValue := 0 }, { name := "T_BOOLEAN", type := .int, accessFlags := 25, slot := 11, constantValue := 0 }, { name := "T_CHAR", type := .int, accessFlags := 25, slot := 12, constantValue := 0 }, { name := "T_FLOAT", type := .int, accessFlags := 25, slot := 13, constantValue := 0 }, { name := "T_DOUBLE", type := .int, accessFlags := 25, slot := 14, constantValue := 0 }, { name := "T_BYTE", type := .int, accessFlags := 25, slot := 15, constantValue := 0 }, { name := "T_SHORT", type := .int, accessFlags := 25, slot := 16, constantValue := 0 }, { name := "T_INT", type := .int, accessFlags := 25, slot := 17, constantValue := 0 }, { name := "T_LONG", type := .int, accessFlags := 25, slot := 18, constantValue := 0 }, { name := "JLA", type := (.object "jdk/internal/access/JavaLangAccess"), accessFlags := 26, slot := 19, constantValue := 0 }, { name := "SOFT_MAX_ARRAY_LENGTH", type := .int, accessFlags := 25, slot := 20, constantValue := 0 }]
  methods := #[k21m0]
  instanceTypes := #[]
  staticTypes := #[(.object "jdk/internal/misc/Unsafe"), .boolean, .int, .int, .int, .int, .int, .int, .int, .int, .int, .int, .int, .int, .int, .int, .int, .int, .int, (.object "jdk/internal/access/JavaLangAccess"), .int]
  resolved := Array.replicate 378 none
  statics := none }

def pool22 : Array CpInfo := pool [(1, u "java/lang/Cloneable"), (0, .class_ 1), (0, u "java/lang/Object"), (0, .class_ 3)] 3

/-- java/lang/Cloneable -/
def k22 : Class := { plain "java/lang/Cloneable" (some 0) with
  accessFlags := 1537
  interfaces := #[]
  cf := some (fileOf pool22 2 #[] #[] 1537 4 #[] #[])
  fields := #[]
  methods := #[]
  instanceTypes := #[]
  staticTypes := #[]
  resolved := Array.replicate 8 none
  statics := none }

/-- the primitive byte -/
def k23 : Class := { plain "byte" none with kind := .primitive 'B', accessFlags := 0x411 }
/-- [B -/
def k24 : Class := { plain "[B" (some 0) with kind := .array 23 .byte, interfaces := #[22, 4], accessFlags := 1041 }

/-- the primitive int -/
def k25 : Class := { plain "int" none with kind := .primitive 'I', accessFlags := 0x411 }
/-- [I -/
def k26 : Class := { plain "[I" (some 0) with kind := .array 25 .int, interfaces := #[22, 4], accessFlags := 1041 }

def heap : Heap := #[{ cls := 7, slots := #[.ref 6, .ref 7, .null], vm := .statics 7 },
  { cls := 8, slots := #[.ref 8, .ref 9, .ref 10, .ref 11, .null], vm := .statics 8 },
  { cls := 11, slots := #[.long 0, .int 1, .null, .int 0, .null, .int 0, .int 0], vm := .statics 11 },
  { cls := 13, slots := #[.ref 12, .ref 13, .ref 14, .ref 15, .null], vm := .statics 13 },
  { cls := 18, slots := #[.ref 16, .ref 17, .ref 18, .ref 19, .ref 20, .ref 21, .null], vm := .statics 18 },
  { cls := 20, slots := #[.null, .null, .null], vm := .statics 20 },
  { cls := 7, slots := #[.null, .int 0, .int 0, .null], vm := .none },
  { cls := 7, slots := #[.null, .int 1, .int 0, .null], vm := .none },
  { cls := 8, slots := #[.null, .int 0, .int 0, .null], vm := .none },
  { cls := 8, slots := #[.null, .int 1, .int 0, .null], vm := .none },
  { cls := 8, slots := #[.null, .int 2, .int 0, .null], vm := .none },
  { cls := 8, slots := #[.null, .int 3, .int 0, .null], vm := .none },
  { cls := 13, slots := #[.null, .int 0, .int 0, .null, .int 0], vm := .none },
  { cls := 13, slots := #[.null, .int 1, .int 0, .null, .int 1], vm := .none },
  { cls := 13, slots := #[.null, .int 2, .int 0, .null, .int 1], vm := .none },
  { cls := 13, slots := #[.null, .int 3, .int 0, .null, .int 1], vm := .none },
  { cls := 18, slots := #[.null, .int 0, .int 0, .null, .int 0], vm := .none },
  { cls := 18, slots := #[.null, .int 1, .int 0, .null, .int 0], vm := .none },
  { cls := 18, slots := #[.null, .int 2, .int 0, .null, .int 1], vm := .none },
  { cls := 18, slots := #[.null, .int 3, .int 0, .null, .int 1], vm := .none },
  { cls := 18, slots := #[.null, .int 4, .int 0, .null, .int 1], vm := .none },
  { cls := 18, slots := #[.null, .int 5, .int 0, .null, .int 1], vm := .none }]
def classes : Array Class := #[k0, k1, k2, k3, k4, k5, k6, k7, k8, k9, k10, k11, k12, k13, k14, k15, k16, k17, k18, k19, k20, k21, k22, k23, k24, k25, k26]
def interned : List (Array UInt16 × Addr) := []
def slotsUsed : Nat := 104
def theMethod : MethodId := ⟨1, 3⟩
def args0 : Array Value := #[.int 1, .int 2, .int 0, .int 1, .int 5, .long 7]
def aboutOver (below : List Frame) : State where
  vm := { classes := classes, interned := interned.toArray }
  heap := heap
  slotsUsed := slotsUsed
  threads := #[{ frames := .invoking theMethod args0 :: below }]
def below0 : List Frame := [.native { method := ⟨0, 0⟩, args := #[] }]
def about1 : State := aboutOver below0
def p0 : Program := .bare "" "" ""
def e0 : Env := launch0.env 0 0 0
theorem w_frames : about1.frames = Frame.invoking theMethod args0 :: below0 := rfl
set_option maxRecDepth 65536 in
theorem w_args : argsFit about1.vm theMethod args0 = true := by decide +kernel
set_option maxRecDepth 65536 in
theorem w_heap : heapFits about1 = true := by decide +kernel
set_option maxRecDepth 65536 in
theorem w_runnable : about1.curStatus? = some .runnable := by decide +kernel
set_option maxRecDepth 65536 in
theorem w_alone : about1.alone = true := by decide +kernel
set_option maxRecDepth 65536 in
theorem w_named : about1.methodNamed? x = some theMethod := by decide +kernel
set_option maxRecDepth 65536 in
theorem w_hears : about1.hears theMethod below0 = true := by decide +kernel
set_option maxRecDepth 65536 in
theorem w_ripe : about1.ripe theMethod args0 below0 = true := by decide +kernel
theorem w_running : about1.status = .running := rfl
set_option maxRecDepth 65536 in
theorem w_room : about1.hasRoom e0.platform room_1 = true :=
  launch0.hasRoom_least _ room_1 (by decide +kernel) (by decide +kernel) (by decide +kernel) (by decide +kernel) (by decide +kernel) (by decide +kernel)
theorem allAtoms_all (ts : List Jvm.Cond) (a : Array Jvm.Value) (st : Jvm.State) : (allAtoms ts).before a st = ts.all (fun c => c.before a st) := by
  induction ts with
  | nil => rfl
  | cons c t ih =>
    show (Jvm.Cond.and c (allAtoms t)).before a st = _
    rw [Jvm.Cond.before_and, ih, List.all_cons]
def words1 : List Jvm.Cond := Jvm.Cond.code x code maxLocals ret :: tables_1
/-- a 'code' word, met by the world's own term for the bytes: nothing is compared byte by byte -/
theorem code_word {y : MethodName} {bytes : ByteArray} {mx : Nat} {rt : Option FieldType} {a : Array Value} {s : State} {m : MethodId} {meth : Method} {c : Code} (h1 : s.methodNamed? y = some m) (h2 : s.vm.method? m = some meth) (h3 : meth.code = some c) (h4 : c.code = bytes)
    (h5 : (c.maxLocals == mx && c.exceptionTable.isEmpty && decide (c.maxStack ≤ mostOperands) && decide (meth.sig.returnType = rt) && !meth.locks && decide (parseMethodDescriptor y.desc = some meth.sig)) = true) : (Jvm.Cond.code y bytes mx rt).before a s = true := by
  simp only [Bool.and_eq_true, beq_iff_eq, Bool.not_eq_true', decide_eq_true_eq] at h5
  obtain ⟨⟨⟨⟨⟨g1, g2⟩, g3⟩, g4⟩, g5⟩, g6⟩ := h5
  simp [Cond.before, Cond.holds, Cond.value, h1, h2, h3, h4, g1, g2, g3, g4, g5, g6]
def isCode : Jvm.Cond → Bool
  | .code _ _ _ _ => true
  | _ => false
theorem all_split {L : List Jvm.Cond} {P : Jvm.Cond → Bool} (h1 : L.all (fun c => isCode c || P c) = true) (h2 : ∀ c ∈ L.filter isCode, P c = true) : L.all P = true := by
  refine List.all_eq_true.mpr fun c hc => ?_
  have h := List.all_eq_true.mp h1 c hc
  rcases Bool.eq_false_or_eq_true (isCode c) with hi | hi
  · exact h2 c (List.mem_filter.mpr ⟨hc, hi⟩)
  · simpa [hi] using h
set_option maxRecDepth 65536 in
theorem w_c0 : (Jvm.Cond.code x code maxLocals ret).before args0 about1 = true := code_word (m := ⟨1, 3⟩) (meth := k1m3) (c := k1c3) (by decide +kernel) rfl rfl rfl (by decide +kernel)
set_option maxRecDepth 65536 in
theorem w_c1 : (Jvm.Cond.code ({ cls := "com/example/done_once/doneonce/store/RequestEndedPinLaw", name := "execution", desc := "(I)Lcom/example/done_once/doneonce/core/Execution;" } : Jvm.MethodName) method_3_code (1 : Nat) (Option.some (Jvm.ClassFile.FieldType.object "com/example/done_once/doneonce/core/Execution"))).before args0 about1 = true := code_word (m := ⟨1, 2⟩) (meth := k1m2) (c := k1c2) (by decide +kernel) rfl rfl rfl (by decide +kernel)
set_option maxRecDepth 65536 in
theorem w_c2 : (Jvm.Cond.code ({ cls := "java/lang/String", name := "valueOf", desc := "(C)Ljava/lang/String;" } : Jvm.MethodName) jdk_42_method_139_code (1 : Nat) (Option.some (Jvm.ClassFile.FieldType.object "java/lang/String"))).before args0 about1 = true := code_word (m := ⟨11, 1⟩) (meth := k11m1) (c := k11c1) (by decide +kernel) rfl rfl rfl (by decide +kernel)
set_option maxRecDepth 65536 in
theorem w_c3 : (Jvm.Cond.code ({ cls := "java/lang/StringLatin1", name := "canEncode", desc := "(C)Z" } : Jvm.MethodName) jdk_43_method_3_code (1 : Nat) (Option.some Jvm.ClassFile.FieldType.boolean)).before args0 about1 = true := code_word (m := ⟨12, 1⟩) (meth := k12m1) (c := k12c1) (by decide +kernel) rfl rfl rfl (by decide +kernel)
set_option maxRecDepth 65536 in
theorem w_c4 : (Jvm.Cond.code ({ cls := "java/lang/StringLatin1", name := "toBytes", desc := "(C)[B" } : Jvm.MethodName) jdk_43_method_46_code (1 : Nat) (Option.some (Jvm.ClassFile.FieldType.array Jvm.ClassFile.FieldType.byte))).before args0 about1 = true := code_word (m := ⟨12, 2⟩) (meth := k12m2) (c := k12c2) (by decide +kernel) rfl rfl rfl (by decide +kernel)
set_option maxRecDepth 65536 in
theorem w_c5 : (Jvm.Cond.code ({ cls := "java/lang/String", name := "<init>", desc := "([BB)V" } : Jvm.MethodName) jdk_42_method_151_code (3 : Nat) (Option.none : Option Jvm.ClassFile.FieldType)).before args0 about1 = true := code_word (m := ⟨11, 2⟩) (meth := k11m2) (c := k11c2) (by decide +kernel) rfl rfl rfl (by decide +kernel)
set_option maxRecDepth 65536 in
theorem w_c6 : (Jvm.Cond.code ({ cls := "java/lang/Object", name := "<init>", desc := "()V" } : Jvm.MethodName) object_method_1_code (1 : Nat) (Option.none : Option Jvm.ClassFile.FieldType)).before args0 about1 = true := code_word (m := ⟨0, 0⟩) (meth := k0m0) (c := k0c0) (by decide +kernel) rfl rfl rfl (by decide +kernel)
set_option maxRecDepth 65536 in
theorem w_c7 : (Jvm.Cond.code ({ cls := "com/example/done_once/doneonce/store/Request", name := "<init>", desc := "(Ljava/lang/String;Lcom/example/done_once/doneonce/core/RequestKind;Ljava/lang/String;Ljava/lang/String;Lcom/example/done_once/doneonce/core/RequestState;Ljava/lang/String;Lcom/example/done_once/doneonce/store/Job;)V" } : Jvm.MethodName) prog_55_method_1_code (9 : Nat) (Option.none : Option Jvm.ClassFile.FieldType)).before args0 about1 = true := code_word (m := ⟨15, 0⟩) (meth := k15m0) (c := k15c0) (by decide +kernel) rfl rfl rfl (by decide +kernel)
set_option maxRecDepth 65536 in
theorem w_c8 : (Jvm.Cond.code ({ cls := "java/lang/Record", name := "<init>", desc := "()V" } : Jvm.MethodName) jdk_30_method_1_code (1 : Nat) (Option.none : Option Jvm.ClassFile.FieldType)).before args0 about1 = true := code_word (m := ⟨14, 0⟩) (meth := k14m0) (c := k14c0) (by decide +kernel) rfl rfl rfl (by decide +kernel)
set_option maxRecDepth 65536 in
theorem w_c9 : (Jvm.Cond.code ({ cls := "java/util/Objects", name := "requireNonNull", desc := "(Ljava/lang/Object;Ljava/lang/String;)Ljava/lang/Object;" } : Jvm.MethodName) jdk_31_method_11_code (2 : Nat) (Option.some (Jvm.ClassFile.FieldType.object "java/lang/Object"))).before args0 about1 = true := code_word (m := ⟨16, 1⟩) (meth := k16m1) (c := k16c1) (by decide +kernel) rfl rfl rfl (by decide +kernel)
set_option maxRecDepth 65536 in
theorem w_c10 : (Jvm.Cond.code ({ cls := "com/example/done_once/doneonce/store/Request", name := "ended", desc := "()Z" } : Jvm.MethodName) prog_55_method_4_code (1 : Nat) (Option.some Jvm.ClassFile.FieldType.boolean)).before args0 about1 = true := code_word (m := ⟨15, 1⟩) (meth := k15m1) (c := k15c1) (by decide +kernel) rfl rfl rfl (by decide +kernel)
set_option maxRecDepth 65536 in
theorem w_c11 : (Jvm.Cond.code ({ cls := "com/example/done_once/doneonce/core/RequestState", name := "isTerminal", desc := "()Z" } : Jvm.MethodName) prog_21_method_5_code (1 : Nat) (Option.some Jvm.ClassFile.FieldType.boolean)).before args0 about1 = true := code_word (m := ⟨13, 0⟩) (meth := k13m0) (c := k13c0) (by decide +kernel) rfl rfl rfl (by decide +kernel)
set_option maxRecDepth 65536 in
theorem w_c12 : (Jvm.Cond.code ({ cls := "com/example/done_once/doneonce/store/RequestEndedPinLaw", name := "jobState", desc := "(I)Lcom/example/done_once/doneonce/core/JobState;" } : Jvm.MethodName) method_2_code (1 : Nat) (Option.some (Jvm.ClassFile.FieldType.object "com/example/done_once/doneonce/core/JobState"))).before args0 about1 = true := code_word (m := ⟨1, 1⟩) (meth := k1m1) (c := k1c1) (by decide +kernel) rfl rfl rfl (by decide +kernel)
set_option maxRecDepth 65536 in
theorem w_c13 : (Jvm.Cond.code ({ cls := "com/example/done_once/doneonce/core/JobStatus", name := "<init>", desc := "(Lcom/example/done_once/doneonce/core/JobState;Lcom/example/done_once/doneonce/core/Execution;Ljava/lang/String;ZZ)V" } : Jvm.MethodName) prog_12_method_1_code (6 : Nat) (Option.none : Option Jvm.ClassFile.FieldType)).before args0 about1 = true := code_word (m := ⟨17, 0⟩) (meth := k17m0) (c := k17c0) (by decide +kernel) rfl rfl rfl (by decide +kernel)
set_option maxRecDepth 65536 in
theorem w_c14 : (Jvm.Cond.code ({ cls := "com/example/done_once/doneonce/store/Job", name := "<init>", desc := "(Ljava/lang/String;Ljava/lang/String;Ljava/lang/String;Ljava/lang/String;Ljava/lang/String;Ljava/lang/String;JLcom/example/done_once/doneonce/core/JobStatus;Ljava/lang/String;Ljava/lang/String;)V" } : Jvm.MethodName) prog_49_method_1_code (12 : Nat) (Option.none : Option Jvm.ClassFile.FieldType)).before args0 about1 = true := code_word (m := ⟨19, 0⟩) (meth := k19m0) (c := k19c0) (by decide +kernel) rfl rfl rfl (by decide +kernel)
set_option maxRecDepth 65536 in
theorem w_c15 : (Jvm.Cond.code ({ cls := "com/example/done_once/doneonce/store/Job", name := "status", desc := "()Lcom/example/done_once/doneonce/core/JobStatus;" } : Jvm.MethodName) prog_49_method_13_code (1 : Nat) (Option.some (Jvm.ClassFile.FieldType.object "com/example/done_once/doneonce/core/JobStatus"))).before args0 about1 = true := code_word (m := ⟨19, 1⟩) (meth := k19m1) (c := k19c1) (by decide +kernel) rfl rfl rfl (by decide +kernel)
set_option maxRecDepth 65536 in
theorem w_c16 : (Jvm.Cond.code ({ cls := "com/example/done_once/doneonce/core/JobStatus", name := "state", desc := "()Lcom/example/done_once/doneonce/core/JobState;" } : Jvm.MethodName) prog_12_method_8_code (1 : Nat) (Option.some (Jvm.ClassFile.FieldType.object "com/example/done_once/doneonce/core/JobState"))).before args0 about1 = true := code_word (m := ⟨17, 1⟩) (meth := k17m1) (c := k17c1) (by decide +kernel) rfl rfl rfl (by decide +kernel)
set_option maxRecDepth 65536 in
theorem w_c17 : (Jvm.Cond.code ({ cls := "com/example/done_once/doneonce/core/JobState", name := "isTerminal", desc := "()Z" } : Jvm.MethodName) prog_11_method_5_code (1 : Nat) (Option.some Jvm.ClassFile.FieldType.boolean)).before args0 about1 = true := code_word (m := ⟨18, 0⟩) (meth := k18m0) (c := k18c0) (by decide +kernel) rfl rfl rfl (by decide +kernel)
def codes1 : List Jvm.Cond := [Jvm.Cond.code x code maxLocals ret, Jvm.Cond.code ({ cls := "com/example/done_once/doneonce/store/RequestEndedPinLaw", name := "execution", desc := "(I)Lcom/example/done_once/doneonce/core/Execution;" } : Jvm.MethodName) method_3_code (1 : Nat) (Option.some (Jvm.ClassFile.FieldType.object "com/example/done_once/doneonce/core/Execution")), Jvm.Cond.code ({ cls := "java/lang/String", name := "valueOf", desc := "(C)Ljava/lang/String;" } : Jvm.MethodName) jdk_42_method_139_code (1 : Nat) (Option.some (Jvm.ClassFile.FieldType.object "java/lang/String")), Jvm.Cond.code ({ cls := "java/lang/StringLatin1", name := "canEncode", desc := "(C)Z" } : Jvm.MethodName) jdk_43_method_3_code (1 : Nat) (Option.some Jvm.ClassFile.FieldType.boolean), Jvm.Cond.code ({ cls := "java/lang/StringLatin1", name := "toBytes", desc := "(C)[B" } : Jvm.MethodName) jdk_43_method_46_code (1 : Nat) (Option.some (Jvm.ClassFile.FieldType.array Jvm.ClassFile.FieldType.byte)), Jvm.Cond.code ({ cls := "java/lang/String", name := "<init>", desc := "([BB)V" } : Jvm.MethodName) jdk_42_method_151_code (3 : Nat) (Option.none : Option Jvm.ClassFile.FieldType), Jvm.Cond.code ({ cls := "java/lang/Object", name := "<init>", desc := "()V" } : Jvm.MethodName) object_method_1_code (1 : Nat) (Option.none : Option Jvm.ClassFile.FieldType), Jvm.Cond.code ({ cls := "com/example/done_once/doneonce/store/Request", name := "<init>", desc := "(Ljava/lang/String;Lcom/example/done_once/doneonce/core/RequestKind;Ljava/lang/String;Ljava/lang/String;Lcom/example/done_once/doneonce/core/RequestState;Ljava/lang/String;Lcom/example/done_once/doneonce/store/Job;)V" } : Jvm.MethodName) prog_55_method_1_code (9 : Nat) (Option.none : Option Jvm.ClassFile.FieldType), Jvm.Cond.code ({ cls := "java/lang/Record", name := "<init>", desc := "()V" } : Jvm.MethodName) jdk_30_method_1_code (1 : Nat) (Option.none : Option Jvm.ClassFile.FieldType), Jvm.Cond.code ({ cls := "java/util/Objects", name := "requireNonNull", desc := "(Ljava/lang/Object;Ljava/lang/String;)Ljava/lang/Object;" } : Jvm.MethodName) jdk_31_method_11_code (2 : Nat) (Option.some (Jvm.ClassFile.FieldType.object "java/lang/Object")), Jvm.Cond.code ({ cls := "com/example/done_once/doneonce/store/Request", name := "ended", desc := "()Z" } : Jvm.MethodName) prog_55_method_4_code (1 : Nat) (Option.some Jvm.ClassFile.FieldType.boolean), Jvm.Cond.code ({ cls := "com/example/done_once/doneonce/core/RequestState", name := "isTerminal", desc := "()Z" } : Jvm.MethodName) prog_21_method_5_code (1 : Nat) (Option.some Jvm.ClassFile.FieldType.boolean), Jvm.Cond.code ({ cls := "com/example/done_once/doneonce/store/RequestEndedPinLaw", name := "jobState", desc := "(I)Lcom/example/done_once/doneonce/core/JobState;" } : Jvm.MethodName) method_2_code (1 : Nat) (Option.some (Jvm.ClassFile.FieldType.object "com/example/done_once/doneonce/core/JobState")), Jvm.Cond.code ({ cls := "com/example/done_once/doneonce/core/JobStatus", name := "<init>", desc := "(Lcom/example/done_once/doneonce/core/JobState;Lcom/example/done_once/doneonce/core/Execution;Ljava/lang/String;ZZ)V" } : Jvm.MethodName) prog_12_method_1_code (6 : Nat) (Option.none : Option Jvm.ClassFile.FieldType), Jvm.Cond.code ({ cls := "com/example/done_once/doneonce/store/Job", name := "<init>", desc := "(Ljava/lang/String;Ljava/lang/String;Ljava/lang/String;Ljava/lang/String;Ljava/lang/String;Ljava/lang/String;JLcom/example/done_once/doneonce/core/JobStatus;Ljava/lang/String;Ljava/lang/String;)V" } : Jvm.MethodName) prog_49_method_1_code (12 : Nat) (Option.none : Option Jvm.ClassFile.FieldType), Jvm.Cond.code ({ cls := "com/example/done_once/doneonce/store/Job", name := "status", desc := "()Lcom/example/done_once/doneonce/core/JobStatus;" } : Jvm.MethodName) prog_49_method_13_code (1 : Nat) (Option.some (Jvm.ClassFile.FieldType.object "com/example/done_once/doneonce/core/JobStatus")), Jvm.Cond.code ({ cls := "com/example/done_once/doneonce/core/JobStatus", name := "state", desc := "()Lcom/example/done_once/doneonce/core/JobState;" } : Jvm.MethodName) prog_12_method_8_code (1 : Nat) (Option.some (Jvm.ClassFile.FieldType.object "com/example/done_once/doneonce/core/JobState")), Jvm.Cond.code ({ cls := "com/example/done_once/doneonce/core/JobState", name := "isTerminal", desc := "()Z" } : Jvm.MethodName) prog_11_method_5_code (1 : Nat) (Option.some Jvm.ClassFile.FieldType.boolean)]
set_option maxRecDepth 65536 in
theorem codes_eq : words1.filter isCode = codes1 := rfl
theorem w_codes : ∀ c ∈ words1.filter isCode, c.before args0 about1 = true := by
  rw [codes_eq]
  intro c hc
  simp only [codes1, List.mem_cons, List.not_mem_nil, or_false] at hc
  rcases hc with rfl | rfl | rfl | rfl | rfl | rfl | rfl | rfl | rfl | rfl | rfl | rfl | rfl | rfl | rfl | rfl | rfl | rfl
  · exact w_c0
  · exact w_c1
  · exact w_c2
  · exact w_c3
  · exact w_c4
  · exact w_c5
  · exact w_c6
  · exact w_c7
  · exact w_c8
  · exact w_c9
  · exact w_c10
  · exact w_c11
  · exact w_c12
  · exact w_c13
  · exact w_c14
  · exact w_c15
  · exact w_c16
  · exact w_c17
set_option maxRecDepth 65536 in
theorem w_t1 : (words1.take 24).all (fun c => isCode c || c.before args0 about1) = true := by decide +kernel
set_option maxRecDepth 65536 in
theorem w_t2 : ((words1.drop 24).take 24).all (fun c => isCode c || c.before args0 about1) = true := by decide +kernel
set_option maxRecDepth 65536 in
theorem w_t3 : (((words1.drop 24).drop 24).take 24).all (fun c => isCode c || c.before args0 about1) = true := by decide +kernel
set_option maxRecDepth 65536 in
theorem w_t4 : ((((words1.drop 24).drop 24).drop 24).take 24).all (fun c => isCode c || c.before args0 about1) = true := by decide +kernel
set_option maxRecDepth 65536 in
theorem w_t5 : (((((words1.drop 24).drop 24).drop 24).drop 24).take 24).all (fun c => isCode c || c.before args0 about1) = true := by decide +kernel
set_option maxRecDepth 65536 in
theorem w_t6 : ((((((words1.drop 24).drop 24).drop 24).drop 24).drop 24).take 24).all (fun c => isCode c || c.before args0 about1) = true := by decide +kernel
set_option maxRecDepth 65536 in
theorem w_t7 : (((((((words1.drop 24).drop 24).drop 24).drop 24).drop 24).drop 24).take 24).all (fun c => isCode c || c.before args0 about1) = true := by decide +kernel
set_option maxRecDepth 65536 in
theorem w_t8 : ((((((((words1.drop 24).drop 24).drop 24).drop 24).drop 24).drop 24).drop 24).take 24).all (fun c => isCode c || c.before args0 about1) = true := by decide +kernel
set_option maxRecDepth 65536 in
theorem w_t9 : ((((((((words1.drop 24).drop 24).drop 24).drop 24).drop 24).drop 24).drop 24).drop 24).all (fun c => isCode c || c.before args0 about1) = true := by decide +kernel
theorem w_tables : (allAtoms (Jvm.Cond.code x code maxLocals ret :: tables_1)).before args0 about1 = true := by
  rw [allAtoms_all]
  show words1.all (fun c => c.before args0 about1) = true
  refine all_split ?_ w_codes
  rw [← List.take_append_drop 24 words1, List.all_append, w_t1, ← List.take_append_drop 24 (words1.drop 24), List.all_append, w_t2, ← List.take_append_drop 24 ((words1.drop 24).drop 24), List.all_append, w_t3, ← List.take_append_drop 24 (((words1.drop 24).drop 24).drop 24), List.all_append, w_t4, ← List.take_append_drop 24 ((((words1.drop 24).drop 24).drop 24).drop 24), List.all_append, w_t5, ← List.take_append_drop 24 (((((words1.drop 24).drop 24).drop 24).drop 24).drop 24), List.all_append, w_t6, ← List.take_append_drop 24 ((((((words1.drop 24).drop 24).drop 24).drop 24).drop 24).drop 24), List.all_append, w_t7, ← List.take_append_drop 24 (((((((words1.drop 24).drop 24).drop 24).drop 24).drop 24).drop 24).drop 24), List.all_append, w_t8, w_t9]
  rfl
set_option maxRecDepth 65536 in
theorem w_rest : rest_1_c.before args0 about1 = true := by decide +kernel
set_option maxRecDepth 65536 in
theorem w_case : (Jvm.Cond.and given_1 narrow_1).before args0 about1 = true := by decide +kernel
theorem w_applies : (headSpec (Jvm.Cond.code x code maxLocals ret :: tables_1) room_1).applies x e0.platform about1 = true :=
  (Spec.applies_iff w_frames).mpr ⟨w_running, w_runnable, w_alone, w_named, w_hears, w_ripe, w_room, w_tables⟩
theorem atStart : AtStart classFile x code maxLocals ret World_1 tables_1 room_1 Calls_1 rest_1 Pre_1 launch0 p0 e0 about1 theMethod args0 below0 :=
  ⟨lists_1, trivial, launch0.admits_env _ _ _, launch0.least_env, fairChoices_fair.cas, fairChoices_fair.clock, w_frames, w_args, w_heap, w_applies, trivial, w_rest, w_case⟩
end start1
theorem witness_1 : WitnessClaimed_1 := ⟨start1.p0, start1.e0, start1.about1, start1.theMethod, start1.args0, start1.below0, start1.atStart⟩
end Jvm.Pilot.@@N@@

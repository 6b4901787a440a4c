import JvmDerived
import JvmDerived.Pilot.@@N@@Statement
import JvmDerived.Pilot.@@N@@Code
set_option linter.unusedVariables false
set_option linter.unusedSimpArgs false
namespace Jvm.Pilot.@@N@@
open Jvm Jvm.ClassFile Sem Op Lib Jvm.Free Jvm.Stand Jvm.LawKit Jvm.RoadKit Bundle Jvm.Pilot.@@N@@.Jvm.D
theorem hwk {ts : List Jvm.Cond} {a0 : Array Value} {Z : State} (hw : ∀ d ∈ ts, d.before a0 Z = true) (i : Nat) {d : Jvm.Cond} (h : ts[i]? = some d) : d.before a0 Z = true := hw d (List.mem_of_getElem? h)
theorem old_le {Z : State} {n0 : Nat} {h : Heap} (O : Old Z n0 h) : n0 ≤ h.size := O.1 ▸ O.2.1
theorem narrow_refV {t : FieldType} {v : Value} (ht : t.isReference = true) (hv : v.isRef = true) : narrow t v = v := by rcases ref_cases hv with rfl | ⟨a, rfl⟩ <;> cases t <;> first | rfl | cases ht
theorem fits_refV {t : FieldType} {v : Value} (ht : t.isReference = true) (hv : v.isRef = true) : fits t v = true := by rcases ref_cases hv with rfl | ⟨a, rfl⟩ <;> cases t <;> first | rfl | cases ht
def SameStand {p : Program} {l : Launch} {e : Env} {R : Room} {s : State} {m : MethodId} {args : Array Value} {below : List Frame} {meth : Method} {c : Code} {T : State} {locs : List Loc} {cells slots : Nat} (_ : Stand p l e R s m args below meth c T locs cells slots) (T' : State) : Prop := Stand p l e R s m args below meth c T' locs cells slots
def WideStand {p : Program} {l : Launch} {e : Env} {R : Room} {s : State} {m : MethodId} {args : Array Value} {below : List Frame} {meth : Method} {c : Code} {T : State} {locs : List Loc} {cells slots : Nat} (_ : Stand p l e R s m args below meth c T locs cells slots) (s' T' : State) (dc ds : Nat) : Prop := Stand p l e R s' m args below meth c T' locs (cells + dc) (slots + ds)
def JoinStand {p : Program} {l : Launch} {e : Env} {R : Room} {s : State} {m : MethodId} {args : Array Value} {below : List Frame} {meth : Method} {c : Code} {T : State} {locs : List Loc} {cells slots : Nat} (_ : Stand p l e R s m args below meth c T locs cells slots) (s' T' : State) (L' : List Loc) (dc ds : Nat) : Prop := Stand p l e R s' m args below meth c T' (locs ++ L') (cells + dc) (slots + ds)
theorem own_jn {p : Program} {l : Launch} {e : Env} {R : Room} {s : State} {m : MethodId} {args : Array Value} {below : List Frame} {meth : Method} {c : Code} {T : State} {locs : List Loc} {cells slots : Nat} (X : Stand p l e R s m args below meth c T locs cells slots) : Stand p l e R s m args below meth c T (locs ++ []) cells slots := by rw [List.append_nil]; exact X
theorem own_ext {h h' h'' : Heap} (a : Ext h h') (b : Ext h' h'') : Ext h h'' := ⟨Nat.le_trans a.1 b.1, fun x c q => b.2 x c (a.2 x c q)⟩
theorem own_ite {c : Prop} [Decidable c] {a b : Value} (ha : a.isRef = true) (hb : b.isRef = true) : (if c then a else b).isRef = true := by split <;> assumption
theorem own_eqI {args : Array Value} {s : State} {a b : Term} {n : Int32} (h : (Jvm.Cond.eq a b).value args s none s [] = some true) (hb : b.eval args s none [] s = some (.int n)) : a.eval args s none [] s = some (.int n) := by
  obtain ⟨x, y, h1, h2, h3, h4⟩ := cmp_v (Or.inl h)
  cases h2.symm.trans hb
  obtain ⟨z, rfl⟩ := h4
  have q := gotT (Jvm.Cond.eq_ints h1 hb) h
  rw [h1, q]
theorem own_eqR {args : Array Value} {s : State} {a b : Term} {x y : Value} (h : (Jvm.Cond.eq a b).value args s none s [] = some true) (ha : a.eval args s none [] s = some x) (hb : b.eval args s none [] s = some y) (hx : x.isRef = true) (hy : y.isRef = true) : x = y := gotT (eq_R ha hb hx hy) h
theorem own_neR {args : Array Value} {s : State} {a b : Term} {x y : Value} (h : (Jvm.Cond.not (Jvm.Cond.eq a b)).value args s none s [] = some true) (ha : a.eval args s none [] s = some x) (hb : b.eval args s none [] s = some y) (hx : x.isRef = true) (hy : y.isRef = true) : ¬ x = y := gotF (eq_R ha hb hx hy) (not_v h)
theorem ef_rm2 (m : MethodId) (x0 : Addr) : entryFrame m #[(.ref x0)] 1 = mkF m 0 #[.val (.ref x0)] [] := by first | (simp [entryFrame, mkF, argsToLocals, Value.category]; done) | rfl
def Q_rm2 (Z : State) (a1 : Addr) (p1 : Int32) (h0 : Heap) (n0 : Nat) (v : Option Value) (h : Heap) (L : List Loc) : Prop := (v = some (.int p1)) ∧ (Fr n0 L) ∧ (h = h0)
theorem pn_0 : plainName "java/lang/Enum" = true := by first | (simp [plainName, overriddenIn]; done) | decide +kernel
theorem d2_0 : decode jdk_37_method_2_code 0 = .ok (.aload_n 0, 1) := by decide +kernel
theorem d2_1 : decode jdk_37_method_2_code 1 = .ok (.getfield 7, 3) := by decide +kernel
theorem d2_4 : decode jdk_37_method_2_code 4 = .ok (.ireturn, 1) := by decide +kernel
set_option maxRecDepth 65536 in
set_option maxHeartbeats 40000000 in
theorem rm2 (l : Launch) (Z : State) (a0 : Array Value) (hw : ∀ d ∈ tables_1, d.before a0 Z = true) (ws : List Jvm.Cond) (a1 : Addr) (p1 : Int32) (h0 : Heap) (n0 : Nat) (O0 : Old Z n0 h0) (F1 : Fld Z Z.heap a1 "java/lang/Enum" "ordinal" "I" (.int p1)) :
    MetFree l (⟨"java/lang/Enum", "ordinal", "()I"⟩ : MethodName) (head1 (Jvm.Cond.code (⟨"java/lang/Enum", "ordinal", "()I"⟩ : MethodName) jdk_37_method_2_code 1 (some .int) :: ws) ({ frames := 0, cells := 0, slots := 0, locals := 0 } : Room)) (fun a U => a = #[(.ref a1)] ∧ Z.Warmed39 U.vm ∧ U.heap = h0) (fun _ _ _ _ _ => True) (fun _ U o U' => ∃ v L, o = .returned v ∧ Q_rm2 Z a1 p1 h0 n0 v U'.heap L ∧ FrameEnd U o U' L ({ frames := 0, cells := 0, slots := 0, locals := 0 } : Room).cells ({ frames := 0, cells := 0, slots := 0, locals := 0 } : Room).slots) := by
  refine MetFree.of_bodySF (plainFor_of_name pn_0) hisR ?_
  intro p e s m args below meth c s₁ Bd hml0 hP hK
  obtain ⟨rfl, hZ, hh⟩ := hP
  have hx := Bd.exec
  have hby := Bd.bytes
  have hml : c.maxLocals = 1 := hml0
  have hown : s.vm.findClass "java/lang/Enum" = some m.cls := findClass_of_methodNamed Bd.named
  have hnm := (name_of_methodNamed Bd.named Bd.method).1
  have X0 : Stand p l e ({ frames := 0, cells := 0, slots := 0, locals := 0 } : Room) s m #[(.ref a1)] below meth c s₁ [] 0 0 := Stand.of_body Bd
  have e0 : s₁.heap = h0 := by rw [← hh, Bd.state]; rfl
  have N0 := Fr.nil n0
  have Z0 : n0 ≤ h0.size := old_le O0
  have pre0 : ∀ t, Steps p.tables e below (s₁.setTop (mkF m 0 #[.val (.ref a1)] [])) t → Steps p.tables e below (s₁.setTop (entryFrame m #[(.ref a1)] 1)) t := fun t k => castTop (ef_rm2 m a1) k
  have c1 : Fld Z h0 a1 "java/lang/Enum" "ordinal" "I" (.int p1) := Fld.ext (O0).2 F1
  obtain ⟨T2, X2, e2, st2⟩ := getF X0 hx hZ hown (host := "") (Or.inl (hwk hw 18 rfl)) Via.refl e0 c1 (g := (mkF m 1 #[.val (.ref a1)] [(.ref a1)])) rfl rfl (hb hby d2_1)
  obtain ⟨fs, hr, hrun, hended, hW, hsame⟩ := X2.leave (v := some (.int p1)) (fun h => by rw [Bd.returns] at h; cases h)
  refine ⟨_, _, pre0 _ ?_, hrun, hended, _, _, rfl, ?_, ⟨_, rfl⟩, hW, hsame.mono (by decide) (by decide)⟩
  · show Steps p.tables e below (s₁.setTop (mkF m 0 #[.val (.ref a1)] [])) _
    refine XS.aloadN X0.here hx rfl (hb hby d2_0) rfl rfl ?_
    show Steps p.tables e below (s₁.setTop (mkF m 1 #[.val (.ref a1)] [(.ref a1)])) _
    refine st2 _ ?_
    show Steps p.tables e below (T2.setTop (mkF m 4 #[.val (.ref a1)] [(.int p1)])) _
    exact Jvm.RoadKit.retOut X2 hx Bd.returns rfl (Or.inl ⟨rfl, by simp, _, rfl⟩) (hb hby d2_4) hr
  · show Q_rm2 Z a1 p1 h0 n0 _ T2.heap _
    rw [e2]
    unfold Q_rm2
    exact ⟨rfl, N0, rfl⟩
theorem ef_rm1_0 (m : MethodId) (x0 : Addr) : entryFrame m #[(.ref x0)] 1 = mkF m 0 #[.val (.ref x0)] [] := by first | (simp [entryFrame, mkF, argsToLocals, Value.category]; done) | rfl
def Q_rm1_0 (Z : State) (a1 : Addr) (w_1__SwitchMap_com_example_vestwright_vestwright_CreditKind : Addr) (k_w_1__SwitchMap_com_example_vestwright_vestwright_CreditKind : ClassId) (w_MovementKind_DEFERRAL : Addr) (h0 : Heap) (n0 : Nat) (v : Option Value) (h : Heap) (L : List Loc) : Prop := (v = some (.ref w_MovementKind_DEFERRAL)) ∧ (Fr n0 L) ∧ (h = h0)
theorem pn_1 : plainName "com/example/vestwright/vestwright/MovementKind" = true := by first | (simp [plainName, overriddenIn]; done) | decide +kernel
theorem d1_0 : decode prog_15_method_5_code 0 = .ok (.getstatic 48, 3) := by decide +kernel
theorem d1_3 : decode prog_15_method_5_code 3 = .ok (.aload_n 0, 1) := by decide +kernel
theorem d1_4 : decode prog_15_method_5_code 4 = .ok (.invokevirtual 54, 3) := by decide +kernel
theorem pd_0 : parseMethodDescriptor "()I" = some ⟨[], some .int⟩ := by decide +kernel
theorem d1_7 : decode prog_15_method_5_code 7 = .ok (.iaload, 1) := by decide +kernel
theorem d1_8 : decode prog_15_method_5_code 8 = .ok (.tableswitch 28 1 3 #[38, 44, 50], 28) := by decide +kernel
theorem d1_46 : decode prog_15_method_5_code 46 = .ok (.getstatic 3, 3) := by decide +kernel
theorem d1_49 : decode prog_15_method_5_code 49 = .ok (.goto 12, 3) := by decide +kernel
theorem d1_61 : decode prog_15_method_5_code 61 = .ok (.areturn, 1) := by decide +kernel
set_option maxRecDepth 65536 in
set_option maxHeartbeats 40000000 in
theorem rm1_0 (l : Launch) (Z : State) (a0 : Array Value) (hw : ∀ d ∈ tables_1, d.before a0 Z = true) (ws : List Jvm.Cond) (a1 : Addr) (w_1__SwitchMap_com_example_vestwright_vestwright_CreditKind : Addr) (k_w_1__SwitchMap_com_example_vestwright_vestwright_CreditKind : ClassId) (w_MovementKind_DEFERRAL : Addr) (h0 : Heap) (n0 : Nat) (O0 : Old Z n0 h0) (E1 : Exa Z Z.heap a1 "com/example/vestwright/vestwright/CreditKind") (F1 : Fld Z Z.heap a1 "java/lang/Enum" "ordinal" "I" (.int (0 : Int32))) (S_1__SwitchMap_com_example_vestwright_vestwright_CreditKind : Sta Z Z.heap "com/example/vestwright/vestwright/MovementKind$1" "$SwitchMap$com$example$vestwright$vestwright$CreditKind" "[I" (.ref w_1__SwitchMap_com_example_vestwright_vestwright_CreditKind)) (V_w_1__SwitchMap_com_example_vestwright_vestwright_CreditKind : Arv Z Z.heap w_1__SwitchMap_com_example_vestwright_vestwright_CreditKind k_w_1__SwitchMap_com_example_vestwright_vestwright_CreditKind .int (3 : Int32) [(.int (1 : Int32)), (.int (2 : Int32)), (.int (3 : Int32))] (.int (0 : Int32))) (S_MovementKind_DEFERRAL : Sta Z Z.heap "com/example/vestwright/vestwright/MovementKind" "DEFERRAL" "Lcom/example/vestwright/vestwright/MovementKind;" (.ref w_MovementKind_DEFERRAL)) :
    MetFree l (⟨"com/example/vestwright/vestwright/MovementKind", "of", "(Lcom/example/vestwright/vestwright/CreditKind;)Lcom/example/vestwright/vestwright/MovementKind;"⟩ : MethodName) (head1 (Jvm.Cond.code (⟨"com/example/vestwright/vestwright/MovementKind", "of", "(Lcom/example/vestwright/vestwright/CreditKind;)Lcom/example/vestwright/vestwright/MovementKind;"⟩ : MethodName) prog_15_method_5_code 1 (some (.object "com/example/vestwright/vestwright/MovementKind")) :: ws) ({ frames := 1, cells := 0, slots := 0, locals := 13 } : Room)) (fun a U => a = #[(.ref a1)] ∧ Z.Warmed39 U.vm ∧ U.heap = h0) (fun _ _ _ _ _ => True) (fun _ U o U' => ∃ v L, o = .returned v ∧ Q_rm1_0 Z a1 w_1__SwitchMap_com_example_vestwright_vestwright_CreditKind k_w_1__SwitchMap_com_example_vestwright_vestwright_CreditKind w_MovementKind_DEFERRAL h0 n0 v U'.heap L ∧ FrameEnd U o U' L ({ frames := 1, cells := 0, slots := 0, locals := 13 } : Room).cells ({ frames := 1, cells := 0, slots := 0, locals := 13 } : Room).slots) := by
  refine MetFree.of_bodySF (plainFor_of_name pn_1) hisR ?_
  intro p e s m args below meth c s₁ Bd hml0 hP hK
  obtain ⟨rfl, hZ, hh⟩ := hP
  have hx := Bd.exec
  have hby := Bd.bytes
  have hml : c.maxLocals = 1 := hml0
  have hown : s.vm.findClass "com/example/vestwright/vestwright/MovementKind" = some m.cls := findClass_of_methodNamed Bd.named
  have hnm := (name_of_methodNamed Bd.named Bd.method).1
  have X0 : Stand p l e ({ frames := 1, cells := 0, slots := 0, locals := 13 } : Room) s m #[(.ref a1)] below meth c s₁ [] 0 0 := Stand.of_body Bd
  have e0 : s₁.heap = h0 := by rw [← hh, Bd.state]; rfl
  have N0 := Fr.nil n0
  have Z0 : n0 ≤ h0.size := old_le O0
  have pre0 : ∀ t, Steps p.tables e below (s₁.setTop (mkF m 0 #[.val (.ref a1)] [])) t → Steps p.tables e below (s₁.setTop (entryFrame m #[(.ref a1)] 1)) t := fun t k => castTop (ef_rm1_0 m a1) k
  have c1 : Sta Z h0 "com/example/vestwright/vestwright/MovementKind$1" "$SwitchMap$com$example$vestwright$vestwright$CreditKind" "[I" (.ref w_1__SwitchMap_com_example_vestwright_vestwright_CreditKind) := Sta.ext (O0).2 S_1__SwitchMap_com_example_vestwright_vestwright_CreditKind
  obtain ⟨T2, X2, e2, st2⟩ := getS2 X0 hx hZ hown (host := "") (Or.inl (hwk hw 8 rfl)) Via.refl e0 c1 (g := (mkF m 0 #[.val (.ref a1)] [])) rfl (hb hby d1_0)
  have c4 : Exa Z h0 a1 "com/example/vestwright/vestwright/CreditKind" := Exa.ext (O0).2 E1
  obtain ⟨cq3, kq3, q3a, q3b, q3c⟩ := isOf hZ e2 c4
  obtain ⟨_, _, ⟨T3, L3, k3, n3⟩, -, X3, ⟨Lc3, hQ3, l3, y3, z3⟩, st3⟩ := X2.virtualBackUp hx (owner := "java/lang/Enum") (x := (⟨"com/example/vestwright/vestwright/CreditKind", "ordinal", "()I"⟩ : MethodName)) (y := (⟨"java/lang/Enum", "ordinal", "()I"⟩ : MethodName)) hown (mvT hZ (hwk hw 11 rfl)) (mvT hZ (hwk hw 12 rfl)) (mvT hZ (hwk hw 13 rfl)) (by decide) (mvT hZ (hwk hw 15 rfl)) (mvT hZ (hwk hw 14 rfl)) (backOf (W := 1) (rm2 l Z a0 hw [] a1 (0 : Int32) h0 n0 O0 F1) hZ (hwk hw 17 rfl) (hwk hw 16 rfl) (by decide) (by decide)) q3a q3c (g := (mkF m 4 #[.val (.ref a1)] [(.ref a1), (.ref w_1__SwitchMap_com_example_vestwright_vestwright_CreditKind)])) rfl (by rw [hml]; rfl) (Steps.refl _) (argsL := []) (rest := [(.ref w_1__SwitchMap_com_example_vestwright_vestwright_CreditKind)]) (lenOf pd_0 rfl) rfl (by show 2 * 0 + _ ≤ _; exact Nat.le_of_eq rfl) (hb hby d1_4) (fun _ _ => ⟨rfl, e2, (by decide : 0 + 0 ≤ _), (by decide : 0 + 0 ≤ _)⟩)
  dsimp only [Pt.U, Pt.locs, Pt.cells, Pt.slots] at X3 l3 y3 z3 st3 hQ3
  subst l3 y3 z3
  unfold Q_rm2 at hQ3
  obtain ⟨rfl, N3q, e3⟩ := hQ3
  have N3 := Fr.app N0 N3q
  have c5 : Arv Z h0 w_1__SwitchMap_com_example_vestwright_vestwright_CreditKind k_w_1__SwitchMap_com_example_vestwright_vestwright_CreditKind .int (3 : Int32) [(.int (1 : Int32)), (.int (2 : Int32)), (.int (3 : Int32))] (.int (0 : Int32)) := V_w_1__SwitchMap_com_example_vestwright_vestwright_CreditKind.ext O0.2
  obtain ⟨clq6, Arq6, kqq6, Szq6, Nnq6, Hsq6, Gsq6⟩ := c5
  have hinq6 : ¬ ((0 : Int32) < 0 ∨ clq6.slots.size ≤ ((0 : Int32)).toNatClampNeg) := inb_of Szq6 ⟨by decide, by decide⟩
  have c7 : Sta Z h0 "com/example/vestwright/vestwright/MovementKind" "DEFERRAL" "Lcom/example/vestwright/vestwright/MovementKind;" (.ref w_MovementKind_DEFERRAL) := Sta.ext (O0).2 S_MovementKind_DEFERRAL
  obtain ⟨T8, X8, e8, st8⟩ := getS2 X3 hx hZ hown (host := "") (Or.inl (hwk hw 20 rfl)) Via.refl e3 c7 (g := (mkF m 46 #[.val (.ref a1)] [])) rfl (hb hby d1_46)
  obtain ⟨fs, hr, hrun, hended, hW, hsame⟩ := X8.leave (v := some (.ref w_MovementKind_DEFERRAL)) (fun h => by rw [Bd.returns] at h; cases h)
  refine ⟨_, _, pre0 _ ?_, hrun, hended, _, _, rfl, ?_, ⟨_, rfl⟩, hW, hsame.mono (by decide) (by decide)⟩
  · show Steps p.tables e below (s₁.setTop (mkF m 0 #[.val (.ref a1)] [])) _
    refine st2 _ ?_
    show Steps p.tables e below (T2.setTop (mkF m 3 #[.val (.ref a1)] [(.ref w_1__SwitchMap_com_example_vestwright_vestwright_CreditKind)])) _
    refine XS.aloadN X2.here hx rfl (hb hby d1_3) rfl rfl ?_
    show Steps p.tables e below (T2.setTop (mkF m 4 #[.val (.ref a1)] [(.ref a1), (.ref w_1__SwitchMap_com_example_vestwright_vestwright_CreditKind)])) _
    refine st3.trans ?_
    show Steps p.tables e below (T3.setTop (mkF m 7 #[.val (.ref a1)] [(.int (0 : Int32)), (.ref w_1__SwitchMap_com_example_vestwright_vestwright_CreditKind)])) _
    refine X3.iaload hx (j := (0 : Int32)) (v := (.int (1 : Int32))) (by rw [e3]; exact Arq6.1) (State.isArrayOf_alike hZ.alike Arq6.2.1) Arq6.2.2 hinq6 (Has.at Hsq6 hinq6 rfl) (g := (mkF m 7 #[.val (.ref a1)] [(.int (0 : Int32)), (.ref w_1__SwitchMap_com_example_vestwright_vestwright_CreditKind)])) rfl rfl (hb hby d1_7) _ ?_
    show Steps p.tables e below (T3.setTop (mkF m 8 #[.val (.ref a1)] [(.int (1 : Int32))])) _
    refine XS.tswIn X3.here hx rfl (pc0 := 8) (pc' := 46) (o := 38) rfl (hb hby d1_8) rfl (by decide) (by decide) (by decide) (by decide) ?_
    show Steps p.tables e below (T3.setTop (mkF m 46 #[.val (.ref a1)] [])) _
    refine st8 _ ?_
    show Steps p.tables e below (T8.setTop (mkF m 49 #[.val (.ref a1)] [(.ref w_MovementKind_DEFERRAL)])) _
    refine XS.goto X8.here hx rfl (pc0 := 49) (pc' := 61) rfl (hb hby d1_49) (by decide) (by decide) ?_
    show Steps p.tables e below (T8.setTop (mkF m 61 #[.val (.ref a1)] [(.ref w_MovementKind_DEFERRAL)])) _
    exact Jvm.RoadKit.retOut X8 hx Bd.returns rfl (Or.inr (Or.inr (Or.inr (Or.inr ⟨rfl, rfl, rfl⟩)))) (hb hby d1_61) hr
  · show Q_rm1_0 Z a1 w_1__SwitchMap_com_example_vestwright_vestwright_CreditKind k_w_1__SwitchMap_com_example_vestwright_vestwright_CreditKind w_MovementKind_DEFERRAL h0 n0 _ T8.heap _
    rw [e8]
    unfold Q_rm1_0
    exact ⟨rfl, N3, rfl⟩
theorem ef_rm1_1 (m : MethodId) (x0 : Addr) : entryFrame m #[(.ref x0)] 1 = mkF m 0 #[.val (.ref x0)] [] := by first | (simp [entryFrame, mkF, argsToLocals, Value.category]; done) | rfl
def Q_rm1_1 (Z : State) (a1 : Addr) (w_1__SwitchMap_com_example_vestwright_vestwright_CreditKind : Addr) (k_w_1__SwitchMap_com_example_vestwright_vestwright_CreditKind : ClassId) (w_MovementKind_MATCH : Addr) (h0 : Heap) (n0 : Nat) (v : Option Value) (h : Heap) (L : List Loc) : Prop := (v = some (.ref w_MovementKind_MATCH)) ∧ (Fr n0 L) ∧ (h = h0)
theorem d1_52 : decode prog_15_method_5_code 52 = .ok (.getstatic 7, 3) := by decide +kernel
theorem d1_55 : decode prog_15_method_5_code 55 = .ok (.goto 6, 3) := by decide +kernel
set_option maxRecDepth 65536 in
set_option maxHeartbeats 40000000 in
theorem rm1_1 (l : Launch) (Z : State) (a0 : Array Value) (hw : ∀ d ∈ tables_1, d.before a0 Z = true) (ws : List Jvm.Cond) (a1 : Addr) (w_1__SwitchMap_com_example_vestwright_vestwright_CreditKind : Addr) (k_w_1__SwitchMap_com_example_vestwright_vestwright_CreditKind : ClassId) (w_MovementKind_MATCH : Addr) (h0 : Heap) (n0 : Nat) (O0 : Old Z n0 h0) (E1 : Exa Z Z.heap a1 "com/example/vestwright/vestwright/CreditKind") (F1 : Fld Z Z.heap a1 "java/lang/Enum" "ordinal" "I" (.int (1 : Int32))) (S_1__SwitchMap_com_example_vestwright_vestwright_CreditKind : Sta Z Z.heap "com/example/vestwright/vestwright/MovementKind$1" "$SwitchMap$com$example$vestwright$vestwright$CreditKind" "[I" (.ref w_1__SwitchMap_com_example_vestwright_vestwright_CreditKind)) (V_w_1__SwitchMap_com_example_vestwright_vestwright_CreditKind : Arv Z Z.heap w_1__SwitchMap_com_example_vestwright_vestwright_CreditKind k_w_1__SwitchMap_com_example_vestwright_vestwright_CreditKind .int (3 : Int32) [(.int (1 : Int32)), (.int (2 : Int32)), (.int (3 : Int32))] (.int (0 : Int32))) (S_MovementKind_MATCH : Sta Z Z.heap "com/example/vestwright/vestwright/MovementKind" "MATCH" "Lcom/example/vestwright/vestwright/MovementKind;" (.ref w_MovementKind_MATCH)) :
    MetFree l (⟨"com/example/vestwright/vestwright/MovementKind", "of", "(Lcom/example/vestwright/vestwright/CreditKind;)Lcom/example/vestwright/vestwright/MovementKind;"⟩ : MethodName) (head1 (Jvm.Cond.code (⟨"com/example/vestwright/vestwright/MovementKind", "of", "(Lcom/example/vestwright/vestwright/CreditKind;)Lcom/example/vestwright/vestwright/MovementKind;"⟩ : MethodName) prog_15_method_5_code 1 (some (.object "com/example/vestwright/vestwright/MovementKind")) :: ws) ({ frames := 1, cells := 0, slots := 0, locals := 13 } : Room)) (fun a U => a = #[(.ref a1)] ∧ Z.Warmed39 U.vm ∧ U.heap = h0) (fun _ _ _ _ _ => True) (fun _ U o U' => ∃ v L, o = .returned v ∧ Q_rm1_1 Z a1 w_1__SwitchMap_com_example_vestwright_vestwright_CreditKind k_w_1__SwitchMap_com_example_vestwright_vestwright_CreditKind w_MovementKind_MATCH h0 n0 v U'.heap L ∧ FrameEnd U o U' L ({ frames := 1, cells := 0, slots := 0, locals := 13 } : Room).cells ({ frames := 1, cells := 0, slots := 0, locals := 13 } : Room).slots) := by
  refine MetFree.of_bodySF (plainFor_of_name pn_1) hisR ?_
  intro p e s m args below meth c s₁ Bd hml0 hP hK
  obtain ⟨rfl, hZ, hh⟩ := hP
  have hx := Bd.exec
  have hby := Bd.bytes
  have hml : c.maxLocals = 1 := hml0
  have hown : s.vm.findClass "com/example/vestwright/vestwright/MovementKind" = some m.cls := findClass_of_methodNamed Bd.named
  have hnm := (name_of_methodNamed Bd.named Bd.method).1
  have X0 : Stand p l e ({ frames := 1, cells := 0, slots := 0, locals := 13 } : Room) s m #[(.ref a1)] below meth c s₁ [] 0 0 := Stand.of_body Bd
  have e0 : s₁.heap = h0 := by rw [← hh, Bd.state]; rfl
  have N0 := Fr.nil n0
  have Z0 : n0 ≤ h0.size := old_le O0
  have pre0 : ∀ t, Steps p.tables e below (s₁.setTop (mkF m 0 #[.val (.ref a1)] [])) t → Steps p.tables e below (s₁.setTop (entryFrame m #[(.ref a1)] 1)) t := fun t k => castTop (ef_rm1_1 m a1) k
  have c1 : Sta Z h0 "com/example/vestwright/vestwright/MovementKind$1" "$SwitchMap$com$example$vestwright$vestwright$CreditKind" "[I" (.ref w_1__SwitchMap_com_example_vestwright_vestwright_CreditKind) := Sta.ext (O0).2 S_1__SwitchMap_com_example_vestwright_vestwright_CreditKind
  obtain ⟨T2, X2, e2, st2⟩ := getS2 X0 hx hZ hown (host := "") (Or.inl (hwk hw 8 rfl)) Via.refl e0 c1 (g := (mkF m 0 #[.val (.ref a1)] [])) rfl (hb hby d1_0)
  have c4 : Exa Z h0 a1 "com/example/vestwright/vestwright/CreditKind" := Exa.ext (O0).2 E1
  obtain ⟨cq3, kq3, q3a, q3b, q3c⟩ := isOf hZ e2 c4
  obtain ⟨_, _, ⟨T3, L3, k3, n3⟩, -, X3, ⟨Lc3, hQ3, l3, y3, z3⟩, st3⟩ := X2.virtualBackUp hx (owner := "java/lang/Enum") (x := (⟨"com/example/vestwright/vestwright/CreditKind", "ordinal", "()I"⟩ : MethodName)) (y := (⟨"java/lang/Enum", "ordinal", "()I"⟩ : MethodName)) hown (mvT hZ (hwk hw 11 rfl)) (mvT hZ (hwk hw 12 rfl)) (mvT hZ (hwk hw 13 rfl)) (by decide) (mvT hZ (hwk hw 15 rfl)) (mvT hZ (hwk hw 14 rfl)) (backOf (W := 1) (rm2 l Z a0 hw [] a1 (1 : Int32) h0 n0 O0 F1) hZ (hwk hw 17 rfl) (hwk hw 16 rfl) (by decide) (by decide)) q3a q3c (g := (mkF m 4 #[.val (.ref a1)] [(.ref a1), (.ref w_1__SwitchMap_com_example_vestwright_vestwright_CreditKind)])) rfl (by rw [hml]; rfl) (Steps.refl _) (argsL := []) (rest := [(.ref w_1__SwitchMap_com_example_vestwright_vestwright_CreditKind)]) (lenOf pd_0 rfl) rfl (by show 2 * 0 + _ ≤ _; exact Nat.le_of_eq rfl) (hb hby d1_4) (fun _ _ => ⟨rfl, e2, (by decide : 0 + 0 ≤ _), (by decide : 0 + 0 ≤ _)⟩)
  dsimp only [Pt.U, Pt.locs, Pt.cells, Pt.slots] at X3 l3 y3 z3 st3 hQ3
  subst l3 y3 z3
  unfold Q_rm2 at hQ3
  obtain ⟨rfl, N3q, e3⟩ := hQ3
  have N3 := Fr.app N0 N3q
  have c5 : Arv Z h0 w_1__SwitchMap_com_example_vestwright_vestwright_CreditKind k_w_1__SwitchMap_com_example_vestwright_vestwright_CreditKind .int (3 : Int32) [(.int (1 : Int32)), (.int (2 : Int32)), (.int (3 : Int32))] (.int (0 : Int32)) := V_w_1__SwitchMap_com_example_vestwright_vestwright_CreditKind.ext O0.2
  obtain ⟨clq6, Arq6, kqq6, Szq6, Nnq6, Hsq6, Gsq6⟩ := c5
  have hinq6 : ¬ ((1 : Int32) < 0 ∨ clq6.slots.size ≤ ((1 : Int32)).toNatClampNeg) := inb_of Szq6 ⟨by decide, by decide⟩
  have c7 : Sta Z h0 "com/example/vestwright/vestwright/MovementKind" "MATCH" "Lcom/example/vestwright/vestwright/MovementKind;" (.ref w_MovementKind_MATCH) := Sta.ext (O0).2 S_MovementKind_MATCH
  obtain ⟨T8, X8, e8, st8⟩ := getS2 X3 hx hZ hown (host := "") (Or.inl (hwk hw 48 rfl)) Via.refl e3 c7 (g := (mkF m 52 #[.val (.ref a1)] [])) rfl (hb hby d1_52)
  obtain ⟨fs, hr, hrun, hended, hW, hsame⟩ := X8.leave (v := some (.ref w_MovementKind_MATCH)) (fun h => by rw [Bd.returns] at h; cases h)
  refine ⟨_, _, pre0 _ ?_, hrun, hended, _, _, rfl, ?_, ⟨_, rfl⟩, hW, hsame.mono (by decide) (by decide)⟩
  · show Steps p.tables e below (s₁.setTop (mkF m 0 #[.val (.ref a1)] [])) _
    refine st2 _ ?_
    show Steps p.tables e below (T2.setTop (mkF m 3 #[.val (.ref a1)] [(.ref w_1__SwitchMap_com_example_vestwright_vestwright_CreditKind)])) _
    refine XS.aloadN X2.here hx rfl (hb hby d1_3) rfl rfl ?_
    show Steps p.tables e below (T2.setTop (mkF m 4 #[.val (.ref a1)] [(.ref a1), (.ref w_1__SwitchMap_com_example_vestwright_vestwright_CreditKind)])) _
    refine st3.trans ?_
    show Steps p.tables e below (T3.setTop (mkF m 7 #[.val (.ref a1)] [(.int (1 : Int32)), (.ref w_1__SwitchMap_com_example_vestwright_vestwright_CreditKind)])) _
    refine X3.iaload hx (j := (1 : Int32)) (v := (.int (2 : Int32))) (by rw [e3]; exact Arq6.1) (State.isArrayOf_alike hZ.alike Arq6.2.1) Arq6.2.2 hinq6 (Has.at Hsq6 hinq6 rfl) (g := (mkF m 7 #[.val (.ref a1)] [(.int (1 : Int32)), (.ref w_1__SwitchMap_com_example_vestwright_vestwright_CreditKind)])) rfl rfl (hb hby d1_7) _ ?_
    show Steps p.tables e below (T3.setTop (mkF m 8 #[.val (.ref a1)] [(.int (2 : Int32))])) _
    refine XS.tswIn X3.here hx rfl (pc0 := 8) (pc' := 52) (o := 44) rfl (hb hby d1_8) rfl (by decide) (by decide) (by decide) (by decide) ?_
    show Steps p.tables e below (T3.setTop (mkF m 52 #[.val (.ref a1)] [])) _
    refine st8 _ ?_
    show Steps p.tables e below (T8.setTop (mkF m 55 #[.val (.ref a1)] [(.ref w_MovementKind_MATCH)])) _
    refine XS.goto X8.here hx rfl (pc0 := 55) (pc' := 61) rfl (hb hby d1_55) (by decide) (by decide) ?_
    show Steps p.tables e below (T8.setTop (mkF m 61 #[.val (.ref a1)] [(.ref w_MovementKind_MATCH)])) _
    exact Jvm.RoadKit.retOut X8 hx Bd.returns rfl (Or.inr (Or.inr (Or.inr (Or.inr ⟨rfl, rfl, rfl⟩)))) (hb hby d1_61) hr
  · show Q_rm1_1 Z a1 w_1__SwitchMap_com_example_vestwright_vestwright_CreditKind k_w_1__SwitchMap_com_example_vestwright_vestwright_CreditKind w_MovementKind_MATCH h0 n0 _ T8.heap _
    rw [e8]
    unfold Q_rm1_1
    exact ⟨rfl, N3, rfl⟩
theorem ef_rm1_2 (m : MethodId) (x0 : Addr) : entryFrame m #[(.ref x0)] 1 = mkF m 0 #[.val (.ref x0)] [] := by first | (simp [entryFrame, mkF, argsToLocals, Value.category]; done) | rfl
def Q_rm1_2 (Z : State) (a1 : Addr) (w_1__SwitchMap_com_example_vestwright_vestwright_CreditKind : Addr) (k_w_1__SwitchMap_com_example_vestwright_vestwright_CreditKind : ClassId) (w_MovementKind_EMPLOYER_CONTRIBUTION : Addr) (h0 : Heap) (n0 : Nat) (v : Option Value) (h : Heap) (L : List Loc) : Prop := (v = some (.ref w_MovementKind_EMPLOYER_CONTRIBUTION)) ∧ (Fr n0 L) ∧ (h = h0)
theorem d1_58 : decode prog_15_method_5_code 58 = .ok (.getstatic 10, 3) := by decide +kernel
set_option maxRecDepth 65536 in
set_option maxHeartbeats 40000000 in
theorem rm1_2 (l : Launch) (Z : State) (a0 : Array Value) (hw : ∀ d ∈ tables_1, d.before a0 Z = true) (ws : List Jvm.Cond) (a1 : Addr) (w_1__SwitchMap_com_example_vestwright_vestwright_CreditKind : Addr) (k_w_1__SwitchMap_com_example_vestwright_vestwright_CreditKind : ClassId) (w_MovementKind_EMPLOYER_CONTRIBUTION : Addr) (h0 : Heap) (n0 : Nat) (O0 : Old Z n0 h0) (E1 : Exa Z Z.heap a1 "com/example/vestwright/vestwright/CreditKind") (F1 : Fld Z Z.heap a1 "java/lang/Enum" "ordinal" "I" (.int (2 : Int32))) (S_1__SwitchMap_com_example_vestwright_vestwright_CreditKind : Sta Z Z.heap "com/example/vestwright/vestwright/MovementKind$1" "$SwitchMap$com$example$vestwright$vestwright$CreditKind" "[I" (.ref w_1__SwitchMap_com_example_vestwright_vestwright_CreditKind)) (V_w_1__SwitchMap_com_example_vestwright_vestwright_CreditKind : Arv Z Z.heap w_1__SwitchMap_com_example_vestwright_vestwright_CreditKind k_w_1__SwitchMap_com_example_vestwright_vestwright_CreditKind .int (3 : Int32) [(.int (1 : Int32)), (.int (2 : Int32)), (.int (3 : Int32))] (.int (0 : Int32))) (S_MovementKind_EMPLOYER_CONTRIBUTION : Sta Z Z.heap "com/example/vestwright/vestwright/MovementKind" "EMPLOYER_CONTRIBUTION" "Lcom/example/vestwright/vestwright/MovementKind;" (.ref w_MovementKind_EMPLOYER_CONTRIBUTION)) :
    MetFree l (⟨"com/example/vestwright/vestwright/MovementKind", "of", "(Lcom/example/vestwright/vestwright/CreditKind;)Lcom/example/vestwright/vestwright/MovementKind;"⟩ : MethodName) (head1 (Jvm.Cond.code (⟨"com/example/vestwright/vestwright/MovementKind", "of", "(Lcom/example/vestwright/vestwright/CreditKind;)Lcom/example/vestwright/vestwright/MovementKind;"⟩ : MethodName) prog_15_method_5_code 1 (some (.object "com/example/vestwright/vestwright/MovementKind")) :: ws) ({ frames := 1, cells := 0, slots := 0, locals := 13 } : Room)) (fun a U => a = #[(.ref a1)] ∧ Z.Warmed39 U.vm ∧ U.heap = h0) (fun _ _ _ _ _ => True) (fun _ U o U' => ∃ v L, o = .returned v ∧ Q_rm1_2 Z a1 w_1__SwitchMap_com_example_vestwright_vestwright_CreditKind k_w_1__SwitchMap_com_example_vestwright_vestwright_CreditKind w_MovementKind_EMPLOYER_CONTRIBUTION h0 n0 v U'.heap L ∧ FrameEnd U o U' L ({ frames := 1, cells := 0, slots := 0, locals := 13 } : Room).cells ({ frames := 1, cells := 0, slots := 0, locals := 13 } : Room).slots) := by
  refine MetFree.of_bodySF (plainFor_of_name pn_1) hisR ?_
  intro p e s m args below meth c s₁ Bd hml0 hP hK
  obtain ⟨rfl, hZ, hh⟩ := hP
  have hx := Bd.exec
  have hby := Bd.bytes
  have hml : c.maxLocals = 1 := hml0
  have hown : s.vm.findClass "com/example/vestwright/vestwright/MovementKind" = some m.cls := findClass_of_methodNamed Bd.named
  have hnm := (name_of_methodNamed Bd.named Bd.method).1
  have X0 : Stand p l e ({ frames := 1, cells := 0, slots := 0, locals := 13 } : Room) s m #[(.ref a1)] below meth c s₁ [] 0 0 := Stand.of_body Bd
  have e0 : s₁.heap = h0 := by rw [← hh, Bd.state]; rfl
  have N0 := Fr.nil n0
  have Z0 : n0 ≤ h0.size := old_le O0
  have pre0 : ∀ t, Steps p.tables e below (s₁.setTop (mkF m 0 #[.val (.ref a1)] [])) t → Steps p.tables e below (s₁.setTop (entryFrame m #[(.ref a1)] 1)) t := fun t k => castTop (ef_rm1_2 m a1) k
  have c1 : Sta Z h0 "com/example/vestwright/vestwright/MovementKind$1" "$SwitchMap$com$example$vestwright$vestwright$CreditKind" "[I" (.ref w_1__SwitchMap_com_example_vestwright_vestwright_CreditKind) := Sta.ext (O0).2 S_1__SwitchMap_com_example_vestwright_vestwright_CreditKind
  obtain ⟨T2, X2, e2, st2⟩ := getS2 X0 hx hZ hown (host := "") (Or.inl (hwk hw 8 rfl)) Via.refl e0 c1 (g := (mkF m 0 #[.val (.ref a1)] [])) rfl (hb hby d1_0)
  have c4 : Exa Z h0 a1 "com/example/vestwright/vestwright/CreditKind" := Exa.ext (O0).2 E1
  obtain ⟨cq3, kq3, q3a, q3b, q3c⟩ := isOf hZ e2 c4
  obtain ⟨_, _, ⟨T3, L3, k3, n3⟩, -, X3, ⟨Lc3, hQ3, l3, y3, z3⟩, st3⟩ := X2.virtualBackUp hx (owner := "java/lang/Enum") (x := (⟨"com/example/vestwright/vestwright/CreditKind", "ordinal", "()I"⟩ : MethodName)) (y := (⟨"java/lang/Enum", "ordinal", "()I"⟩ : MethodName)) hown (mvT hZ (hwk hw 11 rfl)) (mvT hZ (hwk hw 12 rfl)) (mvT hZ (hwk hw 13 rfl)) (by decide) (mvT hZ (hwk hw 15 rfl)) (mvT hZ (hwk hw 14 rfl)) (backOf (W := 1) (rm2 l Z a0 hw [] a1 (2 : Int32) h0 n0 O0 F1) hZ (hwk hw 17 rfl) (hwk hw 16 rfl) (by decide) (by decide)) q3a q3c (g := (mkF m 4 #[.val (.ref a1)] [(.ref a1), (.ref w_1__SwitchMap_com_example_vestwright_vestwright_CreditKind)])) rfl (by rw [hml]; rfl) (Steps.refl _) (argsL := []) (rest := [(.ref w_1__SwitchMap_com_example_vestwright_vestwright_CreditKind)]) (lenOf pd_0 rfl) rfl (by show 2 * 0 + _ ≤ _; exact Nat.le_of_eq rfl) (hb hby d1_4) (fun _ _ => ⟨rfl, e2, (by decide : 0 + 0 ≤ _), (by decide : 0 + 0 ≤ _)⟩)
  dsimp only [Pt.U, Pt.locs, Pt.cells, Pt.slots] at X3 l3 y3 z3 st3 hQ3
  subst l3 y3 z3
  unfold Q_rm2 at hQ3
  obtain ⟨rfl, N3q, e3⟩ := hQ3
  have N3 := Fr.app N0 N3q
  have c5 : Arv Z h0 w_1__SwitchMap_com_example_vestwright_vestwright_CreditKind k_w_1__SwitchMap_com_example_vestwright_vestwright_CreditKind .int (3 : Int32) [(.int (1 : Int32)), (.int (2 : Int32)), (.int (3 : Int32))] (.int (0 : Int32)) := V_w_1__SwitchMap_com_example_vestwright_vestwright_CreditKind.ext O0.2
  obtain ⟨clq6, Arq6, kqq6, Szq6, Nnq6, Hsq6, Gsq6⟩ := c5
  have hinq6 : ¬ ((2 : Int32) < 0 ∨ clq6.slots.size ≤ ((2 : Int32)).toNatClampNeg) := inb_of Szq6 ⟨by decide, by decide⟩
  have c7 : Sta Z h0 "com/example/vestwright/vestwright/MovementKind" "EMPLOYER_CONTRIBUTION" "Lcom/example/vestwright/vestwright/MovementKind;" (.ref w_MovementKind_EMPLOYER_CONTRIBUTION) := Sta.ext (O0).2 S_MovementKind_EMPLOYER_CONTRIBUTION
  obtain ⟨T8, X8, e8, st8⟩ := getS2 X3 hx hZ hown (host := "") (Or.inl (hwk hw 44 rfl)) Via.refl e3 c7 (g := (mkF m 58 #[.val (.ref a1)] [])) rfl (hb hby d1_58)
  obtain ⟨fs, hr, hrun, hended, hW, hsame⟩ := X8.leave (v := some (.ref w_MovementKind_EMPLOYER_CONTRIBUTION)) (fun h => by rw [Bd.returns] at h; cases h)
  refine ⟨_, _, pre0 _ ?_, hrun, hended, _, _, rfl, ?_, ⟨_, rfl⟩, hW, hsame.mono (by decide) (by decide)⟩
  · show Steps p.tables e below (s₁.setTop (mkF m 0 #[.val (.ref a1)] [])) _
    refine st2 _ ?_
    show Steps p.tables e below (T2.setTop (mkF m 3 #[.val (.ref a1)] [(.ref w_1__SwitchMap_com_example_vestwright_vestwright_CreditKind)])) _
    refine XS.aloadN X2.here hx rfl (hb hby d1_3) rfl rfl ?_
    show Steps p.tables e below (T2.setTop (mkF m 4 #[.val (.ref a1)] [(.ref a1), (.ref w_1__SwitchMap_com_example_vestwright_vestwright_CreditKind)])) _
    refine st3.trans ?_
    show Steps p.tables e below (T3.setTop (mkF m 7 #[.val (.ref a1)] [(.int (2 : Int32)), (.ref w_1__SwitchMap_com_example_vestwright_vestwright_CreditKind)])) _
    refine X3.iaload hx (j := (2 : Int32)) (v := (.int (3 : Int32))) (by rw [e3]; exact Arq6.1) (State.isArrayOf_alike hZ.alike Arq6.2.1) Arq6.2.2 hinq6 (Has.at Hsq6 hinq6 rfl) (g := (mkF m 7 #[.val (.ref a1)] [(.int (2 : Int32)), (.ref w_1__SwitchMap_com_example_vestwright_vestwright_CreditKind)])) rfl rfl (hb hby d1_7) _ ?_
    show Steps p.tables e below (T3.setTop (mkF m 8 #[.val (.ref a1)] [(.int (3 : Int32))])) _
    refine XS.tswIn X3.here hx rfl (pc0 := 8) (pc' := 58) (o := 50) rfl (hb hby d1_8) rfl (by decide) (by decide) (by decide) (by decide) ?_
    show Steps p.tables e below (T3.setTop (mkF m 58 #[.val (.ref a1)] [])) _
    refine st8 _ ?_
    show Steps p.tables e below (T8.setTop (mkF m 61 #[.val (.ref a1)] [(.ref w_MovementKind_EMPLOYER_CONTRIBUTION)])) _
    exact Jvm.RoadKit.retOut X8 hx Bd.returns rfl (Or.inr (Or.inr (Or.inr (Or.inr ⟨rfl, rfl, rfl⟩)))) (hb hby d1_61) hr
  · show Q_rm1_2 Z a1 w_1__SwitchMap_com_example_vestwright_vestwright_CreditKind k_w_1__SwitchMap_com_example_vestwright_vestwright_CreditKind w_MovementKind_EMPLOYER_CONTRIBUTION h0 n0 _ T8.heap _
    rw [e8]
    unfold Q_rm1_2
    exact ⟨rfl, N3, rfl⟩
theorem ef_rm3 (m : MethodId) (x0 : Addr) : entryFrame m #[(.ref x0)] 1 = mkF m 0 #[.val (.ref x0)] [] := by first | (simp [entryFrame, mkF, argsToLocals, Value.category]; done) | rfl
def Q_rm3 (Z : State) (a1 : Addr) (r1 : Addr) (h0 : Heap) (n0 : Nat) (v : Option Value) (h : Heap) (L : List Loc) : Prop := (v = some (.ref r1)) ∧ (Fr n0 L) ∧ (h = h0)
theorem d3_0 : decode prog_15_method_4_code 0 = .ok (.aload_n 0, 1) := by decide +kernel
theorem d3_1 : decode prog_15_method_4_code 1 = .ok (.getfield 44, 3) := by decide +kernel
theorem d3_4 : decode prog_15_method_4_code 4 = .ok (.areturn, 1) := by decide +kernel
set_option maxRecDepth 65536 in
set_option maxHeartbeats 40000000 in
theorem rm3 (l : Launch) (Z : State) (a0 : Array Value) (hw : ∀ d ∈ tables_1, d.before a0 Z = true) (ws : List Jvm.Cond) (a1 : Addr) (r1 : Addr) (h0 : Heap) (n0 : Nat) (O0 : Old Z n0 h0) (F1 : Fld Z Z.heap a1 "com/example/vestwright/vestwright/MovementKind" "keyword" "Ljava/lang/String;" (.ref r1)) :
    MetFree l (⟨"com/example/vestwright/vestwright/MovementKind", "keyword", "()Ljava/lang/String;"⟩ : MethodName) (head1 (Jvm.Cond.code (⟨"com/example/vestwright/vestwright/MovementKind", "keyword", "()Ljava/lang/String;"⟩ : MethodName) prog_15_method_4_code 1 (some (.object "java/lang/String")) :: ws) ({ frames := 0, cells := 0, slots := 0, locals := 0 } : Room)) (fun a U => a = #[(.ref a1)] ∧ Z.Warmed39 U.vm ∧ U.heap = h0) (fun _ _ _ _ _ => True) (fun _ U o U' => ∃ v L, o = .returned v ∧ Q_rm3 Z a1 r1 h0 n0 v U'.heap L ∧ FrameEnd U o U' L ({ frames := 0, cells := 0, slots := 0, locals := 0 } : Room).cells ({ frames := 0, cells := 0, slots := 0, locals := 0 } : Room).slots) := by
  refine MetFree.of_bodySF (plainFor_of_name pn_1) hisR ?_
  intro p e s m args below meth c s₁ Bd hml0 hP hK
  obtain ⟨rfl, hZ, hh⟩ := hP
  have hx := Bd.exec
  have hby := Bd.bytes
  have hml : c.maxLocals = 1 := hml0
  have hown : s.vm.findClass "com/example/vestwright/vestwright/MovementKind" = some m.cls := findClass_of_methodNamed Bd.named
  have hnm := (name_of_methodNamed Bd.named Bd.method).1
  have X0 : Stand p l e ({ frames := 0, cells := 0, slots := 0, locals := 0 } : Room) s m #[(.ref a1)] below meth c s₁ [] 0 0 := Stand.of_body Bd
  have e0 : s₁.heap = h0 := by rw [← hh, Bd.state]; rfl
  have N0 := Fr.nil n0
  have Z0 : n0 ≤ h0.size := old_le O0
  have pre0 : ∀ t, Steps p.tables e below (s₁.setTop (mkF m 0 #[.val (.ref a1)] [])) t → Steps p.tables e below (s₁.setTop (entryFrame m #[(.ref a1)] 1)) t := fun t k => castTop (ef_rm3 m a1) k
  have c1 : Fld Z h0 a1 "com/example/vestwright/vestwright/MovementKind" "keyword" "Ljava/lang/String;" (.ref r1) := Fld.ext (O0).2 F1
  obtain ⟨T2, X2, e2, st2⟩ := getF X0 hx hZ hown (host := "") (Or.inl (hwk hw 27 rfl)) Via.refl e0 c1 (g := (mkF m 1 #[.val (.ref a1)] [(.ref a1)])) rfl rfl (hb hby d3_1)
  obtain ⟨fs, hr, hrun, hended, hW, hsame⟩ := X2.leave (v := some (.ref r1)) (fun h => by rw [Bd.returns] at h; cases h)
  refine ⟨_, _, pre0 _ ?_, hrun, hended, _, _, rfl, ?_, ⟨_, rfl⟩, hW, hsame.mono (by decide) (by decide)⟩
  · show Steps p.tables e below (s₁.setTop (mkF m 0 #[.val (.ref a1)] [])) _
    refine XS.aloadN X0.here hx rfl (hb hby d3_0) rfl rfl ?_
    show Steps p.tables e below (s₁.setTop (mkF m 1 #[.val (.ref a1)] [(.ref a1)])) _
    refine st2 _ ?_
    show Steps p.tables e below (T2.setTop (mkF m 4 #[.val (.ref a1)] [(.ref r1)])) _
    exact Jvm.RoadKit.retOut X2 hx Bd.returns rfl (Or.inr (Or.inr (Or.inr (Or.inr ⟨rfl, rfl, rfl⟩)))) (hb hby d3_4) hr
  · show Q_rm3 Z a1 r1 h0 n0 _ T2.heap _
    rw [e2]
    unfold Q_rm3
    exact ⟨rfl, N0, rfl⟩
theorem ef_rm4 (m : MethodId) (x0 : Addr) : entryFrame m #[(.ref x0)] 1 = mkF m 0 #[.val (.ref x0)] [] := by first | (simp [entryFrame, mkF, argsToLocals, Value.category]; done) | rfl
def Q_rm4 (Z : State) (a1 : Addr) (r1 : Addr) (h0 : Heap) (n0 : Nat) (v : Option Value) (h : Heap) (L : List Loc) : Prop := (v = some (.ref r1)) ∧ (Fr n0 L) ∧ (h = h0)
theorem pn_2 : plainName "com/example/vestwright/vestwright/CreditKind" = true := by first | (simp [plainName, overriddenIn]; done) | decide +kernel
theorem d4_0 : decode prog_1_method_4_code 0 = .ok (.aload_n 0, 1) := by decide +kernel
theorem d4_1 : decode prog_1_method_4_code 1 = .ok (.getfield 32, 3) := by decide +kernel
theorem d4_4 : decode prog_1_method_4_code 4 = .ok (.areturn, 1) := by decide +kernel
set_option maxRecDepth 65536 in
set_option maxHeartbeats 40000000 in
theorem rm4 (l : Launch) (Z : State) (a0 : Array Value) (hw : ∀ d ∈ tables_1, d.before a0 Z = true) (ws : List Jvm.Cond) (a1 : Addr) (r1 : Addr) (h0 : Heap) (n0 : Nat) (O0 : Old Z n0 h0) (F1 : Fld Z Z.heap a1 "com/example/vestwright/vestwright/CreditKind" "keyword" "Ljava/lang/String;" (.ref r1)) :
    MetFree l (⟨"com/example/vestwright/vestwright/CreditKind", "keyword", "()Ljava/lang/String;"⟩ : MethodName) (head1 (Jvm.Cond.code (⟨"com/example/vestwright/vestwright/CreditKind", "keyword", "()Ljava/lang/String;"⟩ : MethodName) prog_1_method_4_code 1 (some (.object "java/lang/String")) :: ws) ({ frames := 0, cells := 0, slots := 0, locals := 0 } : Room)) (fun a U => a = #[(.ref a1)] ∧ Z.Warmed39 U.vm ∧ U.heap = h0) (fun _ _ _ _ _ => True) (fun _ U o U' => ∃ v L, o = .returned v ∧ Q_rm4 Z a1 r1 h0 n0 v U'.heap L ∧ FrameEnd U o U' L ({ frames := 0, cells := 0, slots := 0, locals := 0 } : Room).cells ({ frames := 0, cells := 0, slots := 0, locals := 0 } : Room).slots) := by
  refine MetFree.of_bodySF (plainFor_of_name pn_2) hisR ?_
  intro p e s m args below meth c s₁ Bd hml0 hP hK
  obtain ⟨rfl, hZ, hh⟩ := hP
  have hx := Bd.exec
  have hby := Bd.bytes
  have hml : c.maxLocals = 1 := hml0
  have hown : s.vm.findClass "com/example/vestwright/vestwright/CreditKind" = some m.cls := findClass_of_methodNamed Bd.named
  have hnm := (name_of_methodNamed Bd.named Bd.method).1
  have X0 : Stand p l e ({ frames := 0, cells := 0, slots := 0, locals := 0 } : Room) s m #[(.ref a1)] below meth c s₁ [] 0 0 := Stand.of_body Bd
  have e0 : s₁.heap = h0 := by rw [← hh, Bd.state]; rfl
  have N0 := Fr.nil n0
  have Z0 : n0 ≤ h0.size := old_le O0
  have pre0 : ∀ t, Steps p.tables e below (s₁.setTop (mkF m 0 #[.val (.ref a1)] [])) t → Steps p.tables e below (s₁.setTop (entryFrame m #[(.ref a1)] 1)) t := fun t k => castTop (ef_rm4 m a1) k
  have c1 : Fld Z h0 a1 "com/example/vestwright/vestwright/CreditKind" "keyword" "Ljava/lang/String;" (.ref r1) := Fld.ext (O0).2 F1
  obtain ⟨T2, X2, e2, st2⟩ := getF X0 hx hZ hown (host := "") (Or.inl (hwk hw 34 rfl)) Via.refl e0 c1 (g := (mkF m 1 #[.val (.ref a1)] [(.ref a1)])) rfl rfl (hb hby d4_1)
  obtain ⟨fs, hr, hrun, hended, hW, hsame⟩ := X2.leave (v := some (.ref r1)) (fun h => by rw [Bd.returns] at h; cases h)
  refine ⟨_, _, pre0 _ ?_, hrun, hended, _, _, rfl, ?_, ⟨_, rfl⟩, hW, hsame.mono (by decide) (by decide)⟩
  · show Steps p.tables e below (s₁.setTop (mkF m 0 #[.val (.ref a1)] [])) _
    refine XS.aloadN X0.here hx rfl (hb hby d4_0) rfl rfl ?_
    show Steps p.tables e below (s₁.setTop (mkF m 1 #[.val (.ref a1)] [(.ref a1)])) _
    refine st2 _ ?_
    show Steps p.tables e below (T2.setTop (mkF m 4 #[.val (.ref a1)] [(.ref r1)])) _
    exact Jvm.RoadKit.retOut X2 hx Bd.returns rfl (Or.inr (Or.inr (Or.inr (Or.inr ⟨rfl, rfl, rfl⟩)))) (hb hby d4_4) hr
  · show Q_rm4 Z a1 r1 h0 n0 _ T2.heap _
    rw [e2]
    unfold Q_rm4
    exact ⟨rfl, N0, rfl⟩
theorem ef_rm5 (m : MethodId) (x0 : Addr) (x1 : Addr) : entryFrame m #[(.ref x0), (.ref x1)] 3 = mkF m 0 #[.val (.ref x0), .val (.ref x1), .unset] [] := by first | (simp [entryFrame, mkF, argsToLocals, Value.category]; done) | rfl
def Q_rm5 (Z : State) (a1 : Addr) (h0 : Heap) (n0 : Nat) (v : Option Value) (h : Heap) (L : List Loc) : Prop := (v = some (.int (1 : Int32))) ∧ (Fr n0 L) ∧ (h = h0)
theorem pn_3 : plainName "java/lang/String" = true := by first | (simp [plainName, overriddenIn]; done) | decide +kernel
theorem d5_0 : decode jdk_42_method_66_code 0 = .ok (.aload_n 0, 1) := by decide +kernel
theorem d5_1 : decode jdk_42_method_66_code 1 = .ok (.aload_n 1, 1) := by decide +kernel
theorem d5_2 : decode jdk_42_method_66_code 2 = .ok (.if_acmp .ne 5, 3) := by decide +kernel
theorem d5_5 : decode jdk_42_method_66_code 5 = .ok (.iconst 1, 1) := by decide +kernel
theorem d5_6 : decode jdk_42_method_66_code 6 = .ok (.ireturn, 1) := by decide +kernel
set_option maxRecDepth 65536 in
set_option maxHeartbeats 40000000 in
theorem rm5 (l : Launch) (Z : State) (a0 : Array Value) (hw : ∀ d ∈ tables_1, d.before a0 Z = true) (ws : List Jvm.Cond) (a1 : Addr) (h0 : Heap) (n0 : Nat) (O0 : Old Z n0 h0)  :
    MetFree l (⟨"java/lang/String", "equals", "(Ljava/lang/Object;)Z"⟩ : MethodName) (head1 (Jvm.Cond.code (⟨"java/lang/String", "equals", "(Ljava/lang/Object;)Z"⟩ : MethodName) jdk_42_method_66_code 3 (some .boolean) :: ws) ({ frames := 0, cells := 0, slots := 0, locals := 0 } : Room)) (fun a U => a = #[(.ref a1), (.ref a1)] ∧ Z.Warmed39 U.vm ∧ U.heap = h0) (fun _ _ _ _ _ => True) (fun _ U o U' => ∃ v L, o = .returned v ∧ Q_rm5 Z a1 h0 n0 v U'.heap L ∧ FrameEnd U o U' L ({ frames := 0, cells := 0, slots := 0, locals := 0 } : Room).cells ({ frames := 0, cells := 0, slots := 0, locals := 0 } : Room).slots) := by
  refine MetFree.of_bodySF (plainFor_of_name pn_3) hisR ?_
  intro p e s m args below meth c s₁ Bd hml0 hP hK
  obtain ⟨rfl, hZ, hh⟩ := hP
  have hx := Bd.exec
  have hby := Bd.bytes
  have hml : c.maxLocals = 3 := hml0
  have hown : s.vm.findClass "java/lang/String" = some m.cls := findClass_of_methodNamed Bd.named
  have hnm := (name_of_methodNamed Bd.named Bd.method).1
  have X0 : Stand p l e ({ frames := 0, cells := 0, slots := 0, locals := 0 } : Room) s m #[(.ref a1), (.ref a1)] below meth c s₁ [] 0 0 := Stand.of_body Bd
  have e0 : s₁.heap = h0 := by rw [← hh, Bd.state]; rfl
  have N0 := Fr.nil n0
  have Z0 : n0 ≤ h0.size := old_le O0
  have pre0 : ∀ t, Steps p.tables e below (s₁.setTop (mkF m 0 #[.val (.ref a1), .val (.ref a1), .unset] [])) t → Steps p.tables e below (s₁.setTop (entryFrame m #[(.ref a1), (.ref a1)] 3)) t := fun t k => castTop (ef_rm5 m a1 a1) k
  obtain ⟨fs, hr, hrun, hended, hW, hsame⟩ := X0.leave (v := some (.int (1 : Int32))) (fun h => by rw [Bd.returns] at h; cases h)
  refine ⟨_, _, pre0 _ ?_, hrun, hended, _, _, rfl, ?_, ⟨_, rfl⟩, hW, hsame.mono (by decide) (by decide)⟩
  · show Steps p.tables e below (s₁.setTop (mkF m 0 #[.val (.ref a1), .val (.ref a1), .unset] [])) _
    refine XS.aloadN X0.here hx rfl (hb hby d5_0) rfl rfl ?_
    show Steps p.tables e below (s₁.setTop (mkF m 1 #[.val (.ref a1), .val (.ref a1), .unset] [(.ref a1)])) _
    refine XS.aloadN X0.here hx rfl (hb hby d5_1) rfl rfl ?_
    show Steps p.tables e below (s₁.setTop (mkF m 2 #[.val (.ref a1), .val (.ref a1), .unset] [(.ref a1), (.ref a1)])) _
    refine Jvm.RoadKit.acmp (g := (mkF m 2 #[.val (.ref a1), .val (.ref a1), .unset] [(.ref a1), (.ref a1)])) X0 hx rfl rfl rfl (pc0 := 2) (pc' := 5) (same := true) rfl (hb hby d5_2) rfl (decide_eq_true rfl) (by decide) (by decide) ?_
    show Steps p.tables e below (s₁.setTop (mkF m 5 #[.val (.ref a1), .val (.ref a1), .unset] [])) _
    refine XS.iconst X0.here hx rfl (hb hby d5_5) ?_
    show Steps p.tables e below (s₁.setTop (mkF m 6 #[.val (.ref a1), .val (.ref a1), .unset] [(.int (1 : Int32))])) _
    exact Jvm.RoadKit.retOut X0 hx Bd.returns rfl (Or.inl ⟨rfl, by simp, _, rfl⟩) (hb hby d5_6) hr
  · show Q_rm5 Z a1 h0 n0 _ s₁.heap _
    rw [e0]
    unfold Q_rm5
    exact ⟨rfl, N0, rfl⟩
theorem ef_rm0 (m : MethodId) (x0 : Int32) : entryFrame m #[(.int x0)] maxLocals = mkF m 0 #[.val (.int x0), .unset, .unset, .unset] [] := by first | (simp [entryFrame, mkF, argsToLocals, Value.category, maxLocals]; done) | rfl
def Q_rm0 (Z : State) (p1 : Int32) (w_CreditKind_MATCH : Addr) (w_CreditKind_DEFERRAL : Addr) (w_MovementKind_MATCH : Addr) (w_MovementKind_DEFERRAL : Addr) (w_1__SwitchMap_com_example_vestwright_vestwright_CreditKind : Addr) (w_CreditKind_EMPLOYER_CONTRIBUTION : Addr) (w_MovementKind_EMPLOYER_CONTRIBUTION : Addr) (w_MovementKind_MATCH_keyword : Addr) (w_MovementKind_DEFERRAL_keyword : Addr) (w_MovementKind_EMPLOYER_CONTRIBUTION_keyword : Addr) (k_w_1__SwitchMap_com_example_vestwright_vestwright_CreditKind : ClassId) (h0 : Heap) (n0 : Nat) (v : Option Value) (h : Heap) (L : List Loc) : Prop := (v = some (.int (1 : Int32))) ∧ (Fr n0 L) ∧ (h = h0)
theorem pn_4 : plainName "com/example/vestwright/vestwright/MovementKindOfPinLaw" = true := by first | (simp [plainName, overriddenIn]; done) | decide +kernel
theorem pd_1 : parseMethodDescriptor "(Lcom/example/vestwright/vestwright/CreditKind;)Lcom/example/vestwright/vestwright/MovementKind;" = some ⟨[(.object "com/example/vestwright/vestwright/CreditKind")], some (.object "com/example/vestwright/vestwright/MovementKind")⟩ := by decide +kernel
theorem pd_2 : parseMethodDescriptor "()Ljava/lang/String;" = some ⟨[], some (.object "java/lang/String")⟩ := by decide +kernel
theorem pd_3 : parseMethodDescriptor "(Ljava/lang/Object;)Z" = some ⟨[(.object "java/lang/Object")], some .boolean⟩ := by decide +kernel
set_option maxRecDepth 65536 in
set_option maxHeartbeats 40000000 in
theorem rm0 (l : Launch) (Z : State) (a0 : Array Value) (hw : ∀ d ∈ tables_1, d.before a0 Z = true) (ws : List Jvm.Cond) (p1 : Int32) (w_CreditKind_MATCH : Addr) (w_CreditKind_DEFERRAL : Addr) (w_MovementKind_MATCH : Addr) (w_MovementKind_DEFERRAL : Addr) (w_1__SwitchMap_com_example_vestwright_vestwright_CreditKind : Addr) (w_CreditKind_EMPLOYER_CONTRIBUTION : Addr) (w_MovementKind_EMPLOYER_CONTRIBUTION : Addr) (w_MovementKind_MATCH_keyword : Addr) (w_MovementKind_DEFERRAL_keyword : Addr) (w_MovementKind_EMPLOYER_CONTRIBUTION_keyword : Addr) (k_w_1__SwitchMap_com_example_vestwright_vestwright_CreditKind : ClassId) (h0 : Heap) (n0 : Nat) (O0 : Old Z n0 h0) (S_CreditKind_MATCH : Sta Z Z.heap "com/example/vestwright/vestwright/CreditKind" "MATCH" "Lcom/example/vestwright/vestwright/CreditKind;" (.ref w_CreditKind_MATCH)) (E_w_CreditKind_MATCH : Exa Z Z.heap w_CreditKind_MATCH "com/example/vestwright/vestwright/CreditKind") (S_CreditKind_DEFERRAL : Sta Z Z.heap "com/example/vestwright/vestwright/CreditKind" "DEFERRAL" "Lcom/example/vestwright/vestwright/CreditKind;" (.ref w_CreditKind_DEFERRAL)) (E_w_CreditKind_DEFERRAL : Exa Z Z.heap w_CreditKind_DEFERRAL "com/example/vestwright/vestwright/CreditKind") (S_MovementKind_MATCH : Sta Z Z.heap "com/example/vestwright/vestwright/MovementKind" "MATCH" "Lcom/example/vestwright/vestwright/MovementKind;" (.ref w_MovementKind_MATCH)) (E_w_MovementKind_MATCH : Exa Z Z.heap w_MovementKind_MATCH "com/example/vestwright/vestwright/MovementKind") (S_MovementKind_DEFERRAL : Sta Z Z.heap "com/example/vestwright/vestwright/MovementKind" "DEFERRAL" "Lcom/example/vestwright/vestwright/MovementKind;" (.ref w_MovementKind_DEFERRAL)) (E_w_MovementKind_DEFERRAL : Exa Z Z.heap w_MovementKind_DEFERRAL "com/example/vestwright/vestwright/MovementKind") (S_1__SwitchMap_com_example_vestwright_vestwright_CreditKind : Sta Z Z.heap "com/example/vestwright/vestwright/MovementKind$1" "$SwitchMap$com$example$vestwright$vestwright$CreditKind" "[I" (.ref w_1__SwitchMap_com_example_vestwright_vestwright_CreditKind)) (S_CreditKind_EMPLOYER_CONTRIBUTION : Sta Z Z.heap "com/example/vestwright/vestwright/CreditKind" "EMPLOYER_CONTRIBUTION" "Lcom/example/vestwright/vestwright/CreditKind;" (.ref w_CreditKind_EMPLOYER_CONTRIBUTION)) (E_w_CreditKind_EMPLOYER_CONTRIBUTION : Exa Z Z.heap w_CreditKind_EMPLOYER_CONTRIBUTION "com/example/vestwright/vestwright/CreditKind") (S_MovementKind_EMPLOYER_CONTRIBUTION : Sta Z Z.heap "com/example/vestwright/vestwright/MovementKind" "EMPLOYER_CONTRIBUTION" "Lcom/example/vestwright/vestwright/MovementKind;" (.ref w_MovementKind_EMPLOYER_CONTRIBUTION)) (E_w_MovementKind_EMPLOYER_CONTRIBUTION : Exa Z Z.heap w_MovementKind_EMPLOYER_CONTRIBUTION "com/example/vestwright/vestwright/MovementKind") (F_w_MovementKind_MATCH_keyword : Fld Z Z.heap w_MovementKind_MATCH "com/example/vestwright/vestwright/MovementKind" "keyword" "Ljava/lang/String;" (.ref w_MovementKind_MATCH_keyword)) (E_w_MovementKind_MATCH_keyword : Exa Z Z.heap w_MovementKind_MATCH_keyword "java/lang/String") (F_w_MovementKind_DEFERRAL_keyword : Fld Z Z.heap w_MovementKind_DEFERRAL "com/example/vestwright/vestwright/MovementKind" "keyword" "Ljava/lang/String;" (.ref w_MovementKind_DEFERRAL_keyword)) (E_w_MovementKind_DEFERRAL_keyword : Exa Z Z.heap w_MovementKind_DEFERRAL_keyword "java/lang/String") (F_w_MovementKind_EMPLOYER_CONTRIBUTION_keyword : Fld Z Z.heap w_MovementKind_EMPLOYER_CONTRIBUTION "com/example/vestwright/vestwright/MovementKind" "keyword" "Ljava/lang/String;" (.ref w_MovementKind_EMPLOYER_CONTRIBUTION_keyword)) (E_w_MovementKind_EMPLOYER_CONTRIBUTION_keyword : Exa Z Z.heap w_MovementKind_EMPLOYER_CONTRIBUTION_keyword "java/lang/String") (F_w_CreditKind_DEFERRAL_ordinal : Fld Z Z.heap w_CreditKind_DEFERRAL "java/lang/Enum" "ordinal" "I" (.int (0 : Int32))) (F_w_CreditKind_DEFERRAL_keyword : Fld Z Z.heap w_CreditKind_DEFERRAL "com/example/vestwright/vestwright/CreditKind" "keyword" "Ljava/lang/String;" (.ref w_MovementKind_DEFERRAL_keyword)) (F_w_CreditKind_EMPLOYER_CONTRIBUTION_ordinal : Fld Z Z.heap w_CreditKind_EMPLOYER_CONTRIBUTION "java/lang/Enum" "ordinal" "I" (.int (2 : Int32))) (F_w_CreditKind_EMPLOYER_CONTRIBUTION_keyword : Fld Z Z.heap w_CreditKind_EMPLOYER_CONTRIBUTION "com/example/vestwright/vestwright/CreditKind" "keyword" "Ljava/lang/String;" (.ref w_MovementKind_EMPLOYER_CONTRIBUTION_keyword)) (F_w_CreditKind_MATCH_ordinal : Fld Z Z.heap w_CreditKind_MATCH "java/lang/Enum" "ordinal" "I" (.int (1 : Int32))) (F_w_CreditKind_MATCH_keyword : Fld Z Z.heap w_CreditKind_MATCH "com/example/vestwright/vestwright/CreditKind" "keyword" "Ljava/lang/String;" (.ref w_MovementKind_MATCH_keyword)) (V_w_1__SwitchMap_com_example_vestwright_vestwright_CreditKind : Arv Z Z.heap w_1__SwitchMap_com_example_vestwright_vestwright_CreditKind k_w_1__SwitchMap_com_example_vestwright_vestwright_CreditKind .int (3 : Int32) [(.int (1 : Int32)), (.int (2 : Int32)), (.int (3 : Int32))] (.int (0 : Int32))) :
    MetFree l x (head1 (Jvm.Cond.code x code maxLocals ret :: ws) room_1) (fun a U => a = #[(.int p1)] ∧ Z.Warmed39 U.vm ∧ U.heap = h0) (fun _ _ _ _ _ => True) (fun _ U o U' => ∃ v L, o = .returned v ∧ Q_rm0 Z p1 w_CreditKind_MATCH w_CreditKind_DEFERRAL w_MovementKind_MATCH w_MovementKind_DEFERRAL w_1__SwitchMap_com_example_vestwright_vestwright_CreditKind w_CreditKind_EMPLOYER_CONTRIBUTION w_MovementKind_EMPLOYER_CONTRIBUTION w_MovementKind_MATCH_keyword w_MovementKind_DEFERRAL_keyword w_MovementKind_EMPLOYER_CONTRIBUTION_keyword k_w_1__SwitchMap_com_example_vestwright_vestwright_CreditKind h0 n0 v U'.heap L ∧ FrameEnd U o U' L room_1.cells room_1.slots) := by
  refine MetFree.of_bodySF (plainFor_of_name pn_4) hisR ?_
  intro p e s m args below meth c s₁ Bd hml0 hP hK
  obtain ⟨rfl, hZ, hh⟩ := hP
  have hx := Bd.exec
  have hby := Bd.bytes
  have hml : c.maxLocals = 4 := hml0
  have hown : s.vm.findClass "com/example/vestwright/vestwright/MovementKindOfPinLaw" = some m.cls := findClass_of_methodNamed Bd.named
  have hnm := (name_of_methodNamed Bd.named Bd.method).1
  have X0 : Stand p l e room_1 s m #[(.int p1)] below meth c s₁ [] 0 0 := Stand.of_body Bd
  have e0 : s₁.heap = h0 := by rw [← hh, Bd.state]; rfl
  have N0 := Fr.nil n0
  have Z0 : n0 ≤ h0.size := old_le O0
  have pre0 : ∀ t, Steps p.tables e below (s₁.setTop (mkF m 0 #[.val (.int p1), .unset, .unset, .unset] [])) t → Steps p.tables e below (s₁.setTop (entryFrame m #[(.int p1)] maxLocals)) t := fun t k => castTop (ef_rm0 m p1) k
  have S2 : ∀ t, Steps p.tables e below (s₁.setTop (mkF m 8 #[.val (.int p1), .val (.int ((p1 &&& (2147483647 : Int32)) % (3 : Int32))), .unset, .unset] [(.int ((p1 &&& (2147483647 : Int32)) % (3 : Int32)))])) t → Steps p.tables e below (s₁.setTop (entryFrame m #[(.int p1)] maxLocals)) t := fun t k => by
    refine pre0 t ?_
    show Steps p.tables e below (s₁.setTop (mkF m 0 #[.val (.int p1), .unset, .unset, .unset] [])) _
    refine XS.iloadN X0.here hx rfl (hb hby at_0) rfl ?_
    show Steps p.tables e below (s₁.setTop (mkF m 1 #[.val (.int p1), .unset, .unset, .unset] [(.int p1)])) _
    refine X0.ldcInt hx hown (mvT hZ (hwk hw 0 rfl)) (g := (mkF m 1 #[.val (.int p1), .unset, .unset, .unset] [(.int p1)])) rfl (hb hby at_1) _ ?_
    show Steps p.tables e below (s₁.setTop (mkF m 3 #[.val (.int p1), .unset, .unset, .unset] [(.int (2147483647 : Int32)), (.int p1)])) _
    refine XS.iand X0.here hx rfl (hb hby at_3) rfl ?_
    show Steps p.tables e below (s₁.setTop (mkF m 4 #[.val (.int p1), .unset, .unset, .unset] [(.int (p1 &&& (2147483647 : Int32)))])) _
    refine XS.iconst X0.here hx rfl (hb hby at_4) ?_
    show Steps p.tables e below (s₁.setTop (mkF m 5 #[.val (.int p1), .unset, .unset, .unset] [(.int (3 : Int32)), (.int (p1 &&& (2147483647 : Int32)))])) _
    refine Jvm.RoadKit.iremM (g := (mkF m 5 #[.val (.int p1), .unset, .unset, .unset] [(.int (3 : Int32)), (.int (p1 &&& (2147483647 : Int32)))])) X0 hx rfl (hb hby at_5) rfl (by decide) ?_
    show Steps p.tables e below (s₁.setTop (mkF m 6 #[.val (.int p1), .unset, .unset, .unset] [(.int ((p1 &&& (2147483647 : Int32)) % (3 : Int32)))])) _
    refine XS.istoreN X0.here hx rfl (hb hby at_6) rfl (l' := #[.val (.int p1), .val (.int ((p1 &&& (2147483647 : Int32)) % (3 : Int32))), .unset, .unset]) rfl ?_
    show Steps p.tables e below (s₁.setTop (mkF m 7 #[.val (.int p1), .val (.int ((p1 &&& (2147483647 : Int32)) % (3 : Int32))), .unset, .unset] [])) _
    refine XS.iloadN X0.here hx rfl (hb hby at_7) rfl ?_
    exact k
  by_cases hc1 : ((p1 &&& (2147483647 : Int32)) % (3 : Int32)) = (0 : Int32)
  · have c3 : Sta Z h0 "com/example/vestwright/vestwright/CreditKind" "DEFERRAL" "Lcom/example/vestwright/vestwright/CreditKind;" (.ref w_CreditKind_DEFERRAL) := Sta.ext (O0).2 S_CreditKind_DEFERRAL
    obtain ⟨T4, X4, e4, st4⟩ := getS2 X0 hx hZ hown (host := "") (Or.inl (hwk hw 1 rfl)) Via.refl e0 c3 (g := (mkF m 11 #[.val (.int p1), .val (.int ((p1 &&& (2147483647 : Int32)) % (3 : Int32))), .unset, .unset] [])) rfl (hb hby at_11)
    obtain ⟨_, _, ⟨T5, L5, k5, n5⟩, -, X5, ⟨Lc5, hQ5, l5, y5, z5⟩, st5⟩ := Jvm.LawKit.callS X4 hx (y := (⟨"com/example/vestwright/vestwright/MovementKind", "of", "(Lcom/example/vestwright/vestwright/CreditKind;)Lcom/example/vestwright/vestwright/MovementKind;"⟩ : MethodName)) hown (mvT hZ (hwk hw 4 rfl)) (mvT hZ (hwk hw 5 rfl)) (mvT hZ (hwk hw 6 rfl)) (mvT hZ (hwk hw 7 rfl)) (by decide) (backOf (W := 0) (rm1_0 l Z a0 hw [] w_CreditKind_DEFERRAL w_1__SwitchMap_com_example_vestwright_vestwright_CreditKind k_w_1__SwitchMap_com_example_vestwright_vestwright_CreditKind w_MovementKind_DEFERRAL h0 n0 O0 E_w_CreditKind_DEFERRAL F_w_CreditKind_DEFERRAL_ordinal S_1__SwitchMap_com_example_vestwright_vestwright_CreditKind V_w_1__SwitchMap_com_example_vestwright_vestwright_CreditKind S_MovementKind_DEFERRAL) hZ (hwk hw 7 rfl) (hwk hw 6 rfl) (by decide) (by decide)) (g := (mkF m 35 #[.val (.int p1), .val (.int ((p1 &&& (2147483647 : Int32)) % (3 : Int32))), .val (.ref w_CreditKind_DEFERRAL), .unset] [(.ref w_CreditKind_DEFERRAL)])) rfl (by rw [hml]; rfl) (argsL := [(.ref w_CreditKind_DEFERRAL)]) (rest := []) (lenOf pd_1 rfl) rfl (by show 2 * 0 + _ ≤ _; exact Nat.le_of_eq rfl) (hb hby at_35) (fun _ _ => ⟨rfl, e4, (by decide : 0 + 0 ≤ _), (by decide : 0 + 0 ≤ _)⟩)
    dsimp only [Pt.U, Pt.locs, Pt.cells, Pt.slots] at X5 l5 y5 z5 st5 hQ5
    subst l5 y5 z5
    unfold Q_rm1_0 at hQ5
    obtain ⟨rfl, N5q, e5⟩ := hQ5
    have N5 := Fr.app N0 N5q
    have c7 : Exa Z h0 w_MovementKind_DEFERRAL "com/example/vestwright/vestwright/MovementKind" := Exa.ext (O0).2 E_w_MovementKind_DEFERRAL
    obtain ⟨cq6, kq6, q6a, q6b, q6c⟩ := isOf hZ e5 c7
    obtain ⟨_, _, ⟨T6, L6, k6, n6⟩, -, X6, ⟨Lc6, hQ6, l6, y6, z6⟩, st6⟩ := X5.virtualBack hx (y := (⟨"com/example/vestwright/vestwright/MovementKind", "keyword", "()Ljava/lang/String;"⟩ : MethodName)) (z := (⟨"com/example/vestwright/vestwright/MovementKind", "keyword", "()Ljava/lang/String;"⟩ : MethodName)) hown (mvT hZ (hwk hw 22 rfl)) (mvT hZ (hwk hw 23 rfl)) (notFace_of_selects (args := #[]) (mvT hZ (hwk hw 25 rfl))) (mvT hZ (hwk hw 25 rfl)) (mvT hZ (hwk hw 24 rfl)) (by decide) (backOf (W := 0) (rm3 l Z a0 hw [] w_MovementKind_DEFERRAL w_MovementKind_DEFERRAL_keyword h0 n0 O0 F_w_MovementKind_DEFERRAL_keyword) hZ (hwk hw 26 rfl) (hwk hw 6 rfl) (by decide) (by decide)) q6a q6c (g := (mkF m 46 #[.val (.int p1), .val (.int ((p1 &&& (2147483647 : Int32)) % (3 : Int32))), .val (.ref w_CreditKind_DEFERRAL), .val (.ref w_MovementKind_DEFERRAL)] [(.ref w_MovementKind_DEFERRAL)])) rfl (by rw [hml]; rfl) (Steps.refl _) (argsL := []) (rest := []) (lenOf pd_2 rfl) rfl (by show 2 * 0 + _ ≤ _; exact Nat.le_of_eq rfl) (hb hby at_46) (fun _ _ => ⟨rfl, e5, (by decide : 0 + 0 ≤ _), (by decide : 0 + 0 ≤ _)⟩)
    dsimp only [Pt.U, Pt.locs, Pt.cells, Pt.slots] at X6 l6 y6 z6 st6 hQ6
    subst l6 y6 z6
    unfold Q_rm3 at hQ6
    obtain ⟨rfl, N6q, e6⟩ := hQ6
    have N6 := Fr.app N5 N6q
    have c9 : Exa Z h0 w_CreditKind_DEFERRAL "com/example/vestwright/vestwright/CreditKind" := Exa.ext (O0).2 E_w_CreditKind_DEFERRAL
    obtain ⟨cq8, kq8, q8a, q8b, q8c⟩ := isOf hZ e6 c9
    obtain ⟨_, _, ⟨T8, L8, k8, n8⟩, -, X8, ⟨Lc8, hQ8, l8, y8, z8⟩, st8⟩ := X6.virtualBack hx (y := (⟨"com/example/vestwright/vestwright/CreditKind", "keyword", "()Ljava/lang/String;"⟩ : MethodName)) (z := (⟨"com/example/vestwright/vestwright/CreditKind", "keyword", "()Ljava/lang/String;"⟩ : MethodName)) hown (mvT hZ (hwk hw 29 rfl)) (mvT hZ (hwk hw 30 rfl)) (notFace_of_selects (args := #[]) (mvT hZ (hwk hw 32 rfl))) (mvT hZ (hwk hw 32 rfl)) (mvT hZ (hwk hw 31 rfl)) (by decide) (backOf (W := 1) (rm4 l Z a0 hw [] w_CreditKind_DEFERRAL w_MovementKind_DEFERRAL_keyword h0 n0 O0 F_w_CreditKind_DEFERRAL_keyword) hZ (hwk hw 33 rfl) (hwk hw 2 rfl) (by decide) (by decide)) q8a q8c (g := (mkF m 50 #[.val (.int p1), .val (.int ((p1 &&& (2147483647 : Int32)) % (3 : Int32))), .val (.ref w_CreditKind_DEFERRAL), .val (.ref w_MovementKind_DEFERRAL)] [(.ref w_CreditKind_DEFERRAL), (.ref w_MovementKind_DEFERRAL_keyword)])) rfl (by rw [hml]; rfl) (Steps.refl _) (argsL := []) (rest := [(.ref w_MovementKind_DEFERRAL_keyword)]) (lenOf pd_2 rfl) rfl (by show 2 * 0 + _ ≤ _; exact Nat.le_of_eq rfl) (hb hby at_50) (fun _ _ => ⟨rfl, e6, (by decide : 0 + 0 ≤ _), (by decide : 0 + 0 ≤ _)⟩)
    dsimp only [Pt.U, Pt.locs, Pt.cells, Pt.slots] at X8 l8 y8 z8 st8 hQ8
    subst l8 y8 z8
    unfold Q_rm4 at hQ8
    obtain ⟨rfl, N8q, e8⟩ := hQ8
    have N8 := Fr.app N6 N8q
    have c11 : Exa Z h0 w_MovementKind_DEFERRAL_keyword "java/lang/String" := Exa.ext (O0).2 E_w_MovementKind_DEFERRAL_keyword
    obtain ⟨cq10, kq10, q10a, q10b, q10c⟩ := isOf hZ e8 c11
    obtain ⟨_, _, ⟨T10, L10, k10, n10⟩, -, X10, ⟨Lc10, hQ10, l10, y10, z10⟩, st10⟩ := X8.virtualBack hx (y := (⟨"java/lang/String", "equals", "(Ljava/lang/Object;)Z"⟩ : MethodName)) (z := (⟨"java/lang/String", "equals", "(Ljava/lang/Object;)Z"⟩ : MethodName)) hown (mvT hZ (hwk hw 36 rfl)) (mvT hZ (hwk hw 37 rfl)) (notFace_of_selects (args := #[]) (mvT hZ (hwk hw 39 rfl))) (mvT hZ (hwk hw 39 rfl)) (mvT hZ (hwk hw 38 rfl)) (by decide) (backOf (W := 0) (rm5 l Z a0 hw [] w_MovementKind_DEFERRAL_keyword h0 n0 O0 ) hZ (hwk hw 41 rfl) (hwk hw 40 rfl) (by decide) (by decide)) q10a q10c (g := (mkF m 53 #[.val (.int p1), .val (.int ((p1 &&& (2147483647 : Int32)) % (3 : Int32))), .val (.ref w_CreditKind_DEFERRAL), .val (.ref w_MovementKind_DEFERRAL)] [(.ref w_MovementKind_DEFERRAL_keyword), (.ref w_MovementKind_DEFERRAL_keyword)])) rfl (by rw [hml]; rfl) (Steps.refl _) (argsL := [(.ref w_MovementKind_DEFERRAL_keyword)]) (rest := []) (lenOf pd_3 rfl) rfl (by show 2 * 0 + _ ≤ _; exact Nat.le_of_eq rfl) (hb hby at_53) (fun _ _ => ⟨rfl, e8, (by decide : 0 + 0 ≤ _), (by decide : 0 + 0 ≤ _)⟩)
    dsimp only [Pt.U, Pt.locs, Pt.cells, Pt.slots] at X10 l10 y10 z10 st10 hQ10
    subst l10 y10 z10
    unfold Q_rm5 at hQ10
    obtain ⟨rfl, N10q, e10⟩ := hQ10
    have N10 := Fr.app N8 N10q
    obtain ⟨fs, hr, hrun, hended, hW, hsame⟩ := X10.leave (v := some (.int (1 : Int32))) (fun h => by rw [Bd.returns] at h; cases h)
    refine ⟨_, _, S2 _ ?_, hrun, hended, _, _, rfl, ?_, ⟨_, rfl⟩, hW, hsame.mono (by decide) (by decide)⟩
    · show Steps p.tables e below (s₁.setTop (mkF m 8 #[.val (.int p1), .val (.int ((p1 &&& (2147483647 : Int32)) % (3 : Int32))), .unset, .unset] [(.int ((p1 &&& (2147483647 : Int32)) % (3 : Int32)))])) _
      refine XS.ifNo X0.here hx rfl (hb hby at_8) rfl ((if0 _ _).trans (teq hc1).2) ?_
      show Steps p.tables e below (s₁.setTop (mkF m 11 #[.val (.int p1), .val (.int ((p1 &&& (2147483647 : Int32)) % (3 : Int32))), .unset, .unset] [])) _
      refine st4 _ ?_
      show Steps p.tables e below (T4.setTop (mkF m 14 #[.val (.int p1), .val (.int ((p1 &&& (2147483647 : Int32)) % (3 : Int32))), .unset, .unset] [(.ref w_CreditKind_DEFERRAL)])) _
      refine XS.astoreN X4.here hx rfl (hb hby at_14) rfl rfl (l' := #[.val (.int p1), .val (.int ((p1 &&& (2147483647 : Int32)) % (3 : Int32))), .val (.ref w_CreditKind_DEFERRAL), .unset]) rfl ?_
      show Steps p.tables e below (T4.setTop (mkF m 15 #[.val (.int p1), .val (.int ((p1 &&& (2147483647 : Int32)) % (3 : Int32))), .val (.ref w_CreditKind_DEFERRAL), .unset] [])) _
      refine XS.goto X4.here hx rfl (pc0 := 15) (pc' := 34) rfl (hb hby at_15) (by decide) (by decide) ?_
      show Steps p.tables e below (T4.setTop (mkF m 34 #[.val (.int p1), .val (.int ((p1 &&& (2147483647 : Int32)) % (3 : Int32))), .val (.ref w_CreditKind_DEFERRAL), .unset] [])) _
      refine XS.aloadN X4.here hx rfl (hb hby at_34) rfl rfl ?_
      show Steps p.tables e below (T4.setTop (mkF m 35 #[.val (.int p1), .val (.int ((p1 &&& (2147483647 : Int32)) % (3 : Int32))), .val (.ref w_CreditKind_DEFERRAL), .unset] [(.ref w_CreditKind_DEFERRAL)])) _
      refine st5 _ ?_
      show Steps p.tables e below (T5.setTop (mkF m 38 #[.val (.int p1), .val (.int ((p1 &&& (2147483647 : Int32)) % (3 : Int32))), .val (.ref w_CreditKind_DEFERRAL), .unset] [(.ref w_MovementKind_DEFERRAL)])) _
      refine XS.astoreN X5.here hx rfl (hb hby at_38) rfl rfl (l' := #[.val (.int p1), .val (.int ((p1 &&& (2147483647 : Int32)) % (3 : Int32))), .val (.ref w_CreditKind_DEFERRAL), .val (.ref w_MovementKind_DEFERRAL)]) rfl ?_
      show Steps p.tables e below (T5.setTop (mkF m 39 #[.val (.int p1), .val (.int ((p1 &&& (2147483647 : Int32)) % (3 : Int32))), .val (.ref w_CreditKind_DEFERRAL), .val (.ref w_MovementKind_DEFERRAL)] [])) _
      refine XS.aloadN X5.here hx rfl (hb hby at_39) rfl rfl ?_
      show Steps p.tables e below (T5.setTop (mkF m 40 #[.val (.int p1), .val (.int ((p1 &&& (2147483647 : Int32)) % (3 : Int32))), .val (.ref w_CreditKind_DEFERRAL), .val (.ref w_MovementKind_DEFERRAL)] [(.ref w_MovementKind_DEFERRAL)])) _
      refine XS.ifnonnullYes X5.here hx rfl (pc0 := 40) (pc' := 45) rfl (hb hby at_40) rfl (by decide) (by decide) ?_
      show Steps p.tables e below (T5.setTop (mkF m 45 #[.val (.int p1), .val (.int ((p1 &&& (2147483647 : Int32)) % (3 : Int32))), .val (.ref w_CreditKind_DEFERRAL), .val (.ref w_MovementKind_DEFERRAL)] [])) _
      refine XS.aloadN X5.here hx rfl (hb hby at_45) rfl rfl ?_
      show Steps p.tables e below (T5.setTop (mkF m 46 #[.val (.int p1), .val (.int ((p1 &&& (2147483647 : Int32)) % (3 : Int32))), .val (.ref w_CreditKind_DEFERRAL), .val (.ref w_MovementKind_DEFERRAL)] [(.ref w_MovementKind_DEFERRAL)])) _
      refine st6.trans ?_
      show Steps p.tables e below (T6.setTop (mkF m 49 #[.val (.int p1), .val (.int ((p1 &&& (2147483647 : Int32)) % (3 : Int32))), .val (.ref w_CreditKind_DEFERRAL), .val (.ref w_MovementKind_DEFERRAL)] [(.ref w_MovementKind_DEFERRAL_keyword)])) _
      refine XS.aloadN X6.here hx rfl (hb hby at_49) rfl rfl ?_
      show Steps p.tables e below (T6.setTop (mkF m 50 #[.val (.int p1), .val (.int ((p1 &&& (2147483647 : Int32)) % (3 : Int32))), .val (.ref w_CreditKind_DEFERRAL), .val (.ref w_MovementKind_DEFERRAL)] [(.ref w_CreditKind_DEFERRAL), (.ref w_MovementKind_DEFERRAL_keyword)])) _
      refine st8.trans ?_
      show Steps p.tables e below (T8.setTop (mkF m 53 #[.val (.int p1), .val (.int ((p1 &&& (2147483647 : Int32)) % (3 : Int32))), .val (.ref w_CreditKind_DEFERRAL), .val (.ref w_MovementKind_DEFERRAL)] [(.ref w_MovementKind_DEFERRAL_keyword), (.ref w_MovementKind_DEFERRAL_keyword)])) _
      refine st10.trans ?_
      show Steps p.tables e below (T10.setTop (mkF m 56 #[.val (.int p1), .val (.int ((p1 &&& (2147483647 : Int32)) % (3 : Int32))), .val (.ref w_CreditKind_DEFERRAL), .val (.ref w_MovementKind_DEFERRAL)] [(.int (1 : Int32))])) _
      exact Jvm.RoadKit.retOut X10 hx Bd.returns rfl (Or.inl ⟨rfl, by simp, _, rfl⟩) (hb hby at_56) hr
    · show Q_rm0 Z p1 w_CreditKind_MATCH w_CreditKind_DEFERRAL w_MovementKind_MATCH w_MovementKind_DEFERRAL w_1__SwitchMap_com_example_vestwright_vestwright_CreditKind w_CreditKind_EMPLOYER_CONTRIBUTION w_MovementKind_EMPLOYER_CONTRIBUTION w_MovementKind_MATCH_keyword w_MovementKind_DEFERRAL_keyword w_MovementKind_EMPLOYER_CONTRIBUTION_keyword k_w_1__SwitchMap_com_example_vestwright_vestwright_CreditKind h0 n0 _ T10.heap _
      rw [e10]
      unfold Q_rm0
      exact ⟨rfl, N10, rfl⟩
  · have S13 : ∀ t, Steps p.tables e below (s₁.setTop (mkF m 20 #[.val (.int p1), .val (.int ((p1 &&& (2147483647 : Int32)) % (3 : Int32))), .unset, .unset] [(.int (1 : Int32)), (.int ((p1 &&& (2147483647 : Int32)) % (3 : Int32)))])) t → Steps p.tables e below (s₁.setTop (entryFrame m #[(.int p1)] maxLocals)) t := fun t k => by
      refine S2 t ?_
      show Steps p.tables e below (s₁.setTop (mkF m 8 #[.val (.int p1), .val (.int ((p1 &&& (2147483647 : Int32)) % (3 : Int32))), .unset, .unset] [(.int ((p1 &&& (2147483647 : Int32)) % (3 : Int32)))])) _
      refine XS.ifYes X0.here hx rfl (pc0 := 8) (pc' := 18) rfl (hb hby at_8) rfl ((if0 _ _).trans (feq hc1).2) (by decide) (by decide) ?_
      show Steps p.tables e below (s₁.setTop (mkF m 18 #[.val (.int p1), .val (.int ((p1 &&& (2147483647 : Int32)) % (3 : Int32))), .unset, .unset] [])) _
      refine XS.iloadN X0.here hx rfl (hb hby at_18) rfl ?_
      show Steps p.tables e below (s₁.setTop (mkF m 19 #[.val (.int p1), .val (.int ((p1 &&& (2147483647 : Int32)) % (3 : Int32))), .unset, .unset] [(.int ((p1 &&& (2147483647 : Int32)) % (3 : Int32)))])) _
      refine XS.iconst X0.here hx rfl (hb hby at_19) ?_
      exact k
    by_cases hc12 : ((p1 &&& (2147483647 : Int32)) % (3 : Int32)) = (1 : Int32)
    · have c14 : Sta Z h0 "com/example/vestwright/vestwright/CreditKind" "MATCH" "Lcom/example/vestwright/vestwright/CreditKind;" (.ref w_CreditKind_MATCH) := Sta.ext (O0).2 S_CreditKind_MATCH
      obtain ⟨T15, X15, e15, st15⟩ := getS2 X0 hx hZ hown (host := "") (Or.inl (hwk hw 46 rfl)) Via.refl e0 c14 (g := (mkF m 23 #[.val (.int p1), .val (.int ((p1 &&& (2147483647 : Int32)) % (3 : Int32))), .unset, .unset] [])) rfl (hb hby at_23)
      obtain ⟨_, _, ⟨T16, L16, k16, n16⟩, -, X16, ⟨Lc16, hQ16, l16, y16, z16⟩, st16⟩ := Jvm.LawKit.callS X15 hx (y := (⟨"com/example/vestwright/vestwright/MovementKind", "of", "(Lcom/example/vestwright/vestwright/CreditKind;)Lcom/example/vestwright/vestwright/MovementKind;"⟩ : MethodName)) hown (mvT hZ (hwk hw 4 rfl)) (mvT hZ (hwk hw 5 rfl)) (mvT hZ (hwk hw 6 rfl)) (mvT hZ (hwk hw 7 rfl)) (by decide) (backOf (W := 0) (rm1_1 l Z a0 hw [] w_CreditKind_MATCH w_1__SwitchMap_com_example_vestwright_vestwright_CreditKind k_w_1__SwitchMap_com_example_vestwright_vestwright_CreditKind w_MovementKind_MATCH h0 n0 O0 E_w_CreditKind_MATCH F_w_CreditKind_MATCH_ordinal S_1__SwitchMap_com_example_vestwright_vestwright_CreditKind V_w_1__SwitchMap_com_example_vestwright_vestwright_CreditKind S_MovementKind_MATCH) hZ (hwk hw 7 rfl) (hwk hw 6 rfl) (by decide) (by decide)) (g := (mkF m 35 #[.val (.int p1), .val (.int ((p1 &&& (2147483647 : Int32)) % (3 : Int32))), .val (.ref w_CreditKind_MATCH), .unset] [(.ref w_CreditKind_MATCH)])) rfl (by rw [hml]; rfl) (argsL := [(.ref w_CreditKind_MATCH)]) (rest := []) (lenOf pd_1 rfl) rfl (by show 2 * 0 + _ ≤ _; exact Nat.le_of_eq rfl) (hb hby at_35) (fun _ _ => ⟨rfl, e15, (by decide : 0 + 0 ≤ _), (by decide : 0 + 0 ≤ _)⟩)
      dsimp only [Pt.U, Pt.locs, Pt.cells, Pt.slots] at X16 l16 y16 z16 st16 hQ16
      subst l16 y16 z16
      unfold Q_rm1_1 at hQ16
      obtain ⟨rfl, N16q, e16⟩ := hQ16
      have N16 := Fr.app N0 N16q
      have c18 : Exa Z h0 w_MovementKind_MATCH "com/example/vestwright/vestwright/MovementKind" := Exa.ext (O0).2 E_w_MovementKind_MATCH
      obtain ⟨cq17, kq17, q17a, q17b, q17c⟩ := isOf hZ e16 c18
      obtain ⟨_, _, ⟨T17, L17, k17, n17⟩, -, X17, ⟨Lc17, hQ17, l17, y17, z17⟩, st17⟩ := X16.virtualBack hx (y := (⟨"com/example/vestwright/vestwright/MovementKind", "keyword", "()Ljava/lang/String;"⟩ : MethodName)) (z := (⟨"com/example/vestwright/vestwright/MovementKind", "keyword", "()Ljava/lang/String;"⟩ : MethodName)) hown (mvT hZ (hwk hw 22 rfl)) (mvT hZ (hwk hw 23 rfl)) (notFace_of_selects (args := #[]) (mvT hZ (hwk hw 25 rfl))) (mvT hZ (hwk hw 25 rfl)) (mvT hZ (hwk hw 24 rfl)) (by decide) (backOf (W := 0) (rm3 l Z a0 hw [] w_MovementKind_MATCH w_MovementKind_MATCH_keyword h0 n0 O0 F_w_MovementKind_MATCH_keyword) hZ (hwk hw 26 rfl) (hwk hw 6 rfl) (by decide) (by decide)) q17a q17c (g := (mkF m 46 #[.val (.int p1), .val (.int ((p1 &&& (2147483647 : Int32)) % (3 : Int32))), .val (.ref w_CreditKind_MATCH), .val (.ref w_MovementKind_MATCH)] [(.ref w_MovementKind_MATCH)])) rfl (by rw [hml]; rfl) (Steps.refl _) (argsL := []) (rest := []) (lenOf pd_2 rfl) rfl (by show 2 * 0 + _ ≤ _; exact Nat.le_of_eq rfl) (hb hby at_46) (fun _ _ => ⟨rfl, e16, (by decide : 0 + 0 ≤ _), (by decide : 0 + 0 ≤ _)⟩)
      dsimp only [Pt.U, Pt.locs, Pt.cells, Pt.slots] at X17 l17 y17 z17 st17 hQ17
      subst l17 y17 z17
      unfold Q_rm3 at hQ17
      obtain ⟨rfl, N17q, e17⟩ := hQ17
      have N17 := Fr.app N16 N17q
      have c20 : Exa Z h0 w_CreditKind_MATCH "com/example/vestwright/vestwright/CreditKind" := Exa.ext (O0).2 E_w_CreditKind_MATCH
      obtain ⟨cq19, kq19, q19a, q19b, q19c⟩ := isOf hZ e17 c20
      obtain ⟨_, _, ⟨T19, L19, k19, n19⟩, -, X19, ⟨Lc19, hQ19, l19, y19, z19⟩, st19⟩ := X17.virtualBack hx (y := (⟨"com/example/vestwright/vestwright/CreditKind", "keyword", "()Ljava/lang/String;"⟩ : MethodName)) (z := (⟨"com/example/vestwright/vestwright/CreditKind", "keyword", "()Ljava/lang/String;"⟩ : MethodName)) hown (mvT hZ (hwk hw 29 rfl)) (mvT hZ (hwk hw 30 rfl)) (notFace_of_selects (args := #[]) (mvT hZ (hwk hw 32 rfl))) (mvT hZ (hwk hw 32 rfl)) (mvT hZ (hwk hw 31 rfl)) (by decide) (backOf (W := 1) (rm4 l Z a0 hw [] w_CreditKind_MATCH w_MovementKind_MATCH_keyword h0 n0 O0 F_w_CreditKind_MATCH_keyword) hZ (hwk hw 33 rfl) (hwk hw 2 rfl) (by decide) (by decide)) q19a q19c (g := (mkF m 50 #[.val (.int p1), .val (.int ((p1 &&& (2147483647 : Int32)) % (3 : Int32))), .val (.ref w_CreditKind_MATCH), .val (.ref w_MovementKind_MATCH)] [(.ref w_CreditKind_MATCH), (.ref w_MovementKind_MATCH_keyword)])) rfl (by rw [hml]; rfl) (Steps.refl _) (argsL := []) (rest := [(.ref w_MovementKind_MATCH_keyword)]) (lenOf pd_2 rfl) rfl (by show 2 * 0 + _ ≤ _; exact Nat.le_of_eq rfl) (hb hby at_50) (fun _ _ => ⟨rfl, e17, (by decide : 0 + 0 ≤ _), (by decide : 0 + 0 ≤ _)⟩)
      dsimp only [Pt.U, Pt.locs, Pt.cells, Pt.slots] at X19 l19 y19 z19 st19 hQ19
      subst l19 y19 z19
      unfold Q_rm4 at hQ19
      obtain ⟨rfl, N19q, e19⟩ := hQ19
      have N19 := Fr.app N17 N19q
      have c22 : Exa Z h0 w_MovementKind_MATCH_keyword "java/lang/String" := Exa.ext (O0).2 E_w_MovementKind_MATCH_keyword
      obtain ⟨cq21, kq21, q21a, q21b, q21c⟩ := isOf hZ e19 c22
      obtain ⟨_, _, ⟨T21, L21, k21, n21⟩, -, X21, ⟨Lc21, hQ21, l21, y21, z21⟩, st21⟩ := X19.virtualBack hx (y := (⟨"java/lang/String", "equals", "(Ljava/lang/Object;)Z"⟩ : MethodName)) (z := (⟨"java/lang/String", "equals", "(Ljava/lang/Object;)Z"⟩ : MethodName)) hown (mvT hZ (hwk hw 36 rfl)) (mvT hZ (hwk hw 37 rfl)) (notFace_of_selects (args := #[]) (mvT hZ (hwk hw 39 rfl))) (mvT hZ (hwk hw 39 rfl)) (mvT hZ (hwk hw 38 rfl)) (by decide) (backOf (W := 0) (rm5 l Z a0 hw [] w_MovementKind_MATCH_keyword h0 n0 O0 ) hZ (hwk hw 41 rfl) (hwk hw 40 rfl) (by decide) (by decide)) q21a q21c (g := (mkF m 53 #[.val (.int p1), .val (.int ((p1 &&& (2147483647 : Int32)) % (3 : Int32))), .val (.ref w_CreditKind_MATCH), .val (.ref w_MovementKind_MATCH)] [(.ref w_MovementKind_MATCH_keyword), (.ref w_MovementKind_MATCH_keyword)])) rfl (by rw [hml]; rfl) (Steps.refl _) (argsL := [(.ref w_MovementKind_MATCH_keyword)]) (rest := []) (lenOf pd_3 rfl) rfl (by show 2 * 0 + _ ≤ _; exact Nat.le_of_eq rfl) (hb hby at_53) (fun _ _ => ⟨rfl, e19, (by decide : 0 + 0 ≤ _), (by decide : 0 + 0 ≤ _)⟩)
      dsimp only [Pt.U, Pt.locs, Pt.cells, Pt.slots] at X21 l21 y21 z21 st21 hQ21
      subst l21 y21 z21
      unfold Q_rm5 at hQ21
      obtain ⟨rfl, N21q, e21⟩ := hQ21
      have N21 := Fr.app N19 N21q
      obtain ⟨fs, hr, hrun, hended, hW, hsame⟩ := X21.leave (v := some (.int (1 : Int32))) (fun h => by rw [Bd.returns] at h; cases h)
      refine ⟨_, _, S13 _ ?_, hrun, hended, _, _, rfl, ?_, ⟨_, rfl⟩, hW, hsame.mono (by decide) (by decide)⟩
      · show Steps p.tables e below (s₁.setTop (mkF m 20 #[.val (.int p1), .val (.int ((p1 &&& (2147483647 : Int32)) % (3 : Int32))), .unset, .unset] [(.int (1 : Int32)), (.int ((p1 &&& (2147483647 : Int32)) % (3 : Int32)))])) _
        refine XS.icmpNo X0.here hx rfl (hb hby at_20) rfl (teq hc12).2 ?_
        show Steps p.tables e below (s₁.setTop (mkF m 23 #[.val (.int p1), .val (.int ((p1 &&& (2147483647 : Int32)) % (3 : Int32))), .unset, .unset] [])) _
        refine st15 _ ?_
        show Steps p.tables e below (T15.setTop (mkF m 26 #[.val (.int p1), .val (.int ((p1 &&& (2147483647 : Int32)) % (3 : Int32))), .unset, .unset] [(.ref w_CreditKind_MATCH)])) _
        refine XS.astoreN X15.here hx rfl (hb hby at_26) rfl rfl (l' := #[.val (.int p1), .val (.int ((p1 &&& (2147483647 : Int32)) % (3 : Int32))), .val (.ref w_CreditKind_MATCH), .unset]) rfl ?_
        show Steps p.tables e below (T15.setTop (mkF m 27 #[.val (.int p1), .val (.int ((p1 &&& (2147483647 : Int32)) % (3 : Int32))), .val (.ref w_CreditKind_MATCH), .unset] [])) _
        refine XS.goto X15.here hx rfl (pc0 := 27) (pc' := 34) rfl (hb hby at_27) (by decide) (by decide) ?_
        show Steps p.tables e below (T15.setTop (mkF m 34 #[.val (.int p1), .val (.int ((p1 &&& (2147483647 : Int32)) % (3 : Int32))), .val (.ref w_CreditKind_MATCH), .unset] [])) _
        refine XS.aloadN X15.here hx rfl (hb hby at_34) rfl rfl ?_
        show Steps p.tables e below (T15.setTop (mkF m 35 #[.val (.int p1), .val (.int ((p1 &&& (2147483647 : Int32)) % (3 : Int32))), .val (.ref w_CreditKind_MATCH), .unset] [(.ref w_CreditKind_MATCH)])) _
        refine st16 _ ?_
        show Steps p.tables e below (T16.setTop (mkF m 38 #[.val (.int p1), .val (.int ((p1 &&& (2147483647 : Int32)) % (3 : Int32))), .val (.ref w_CreditKind_MATCH), .unset] [(.ref w_MovementKind_MATCH)])) _
        refine XS.astoreN X16.here hx rfl (hb hby at_38) rfl rfl (l' := #[.val (.int p1), .val (.int ((p1 &&& (2147483647 : Int32)) % (3 : Int32))), .val (.ref w_CreditKind_MATCH), .val (.ref w_MovementKind_MATCH)]) rfl ?_
        show Steps p.tables e below (T16.setTop (mkF m 39 #[.val (.int p1), .val (.int ((p1 &&& (2147483647 : Int32)) % (3 : Int32))), .val (.ref w_CreditKind_MATCH), .val (.ref w_MovementKind_MATCH)] [])) _
        refine XS.aloadN X16.here hx rfl (hb hby at_39) rfl rfl ?_
        show Steps p.tables e below (T16.setTop (mkF m 40 #[.val (.int p1), .val (.int ((p1 &&& (2147483647 : Int32)) % (3 : Int32))), .val (.ref w_CreditKind_MATCH), .val (.ref w_MovementKind_MATCH)] [(.ref w_MovementKind_MATCH)])) _
        refine XS.ifnonnullYes X16.here hx rfl (pc0 := 40) (pc' := 45) rfl (hb hby at_40) rfl (by decide) (by decide) ?_
        show Steps p.tables e below (T16.setTop (mkF m 45 #[.val (.int p1), .val (.int ((p1 &&& (2147483647 : Int32)) % (3 : Int32))), .val (.ref w_CreditKind_MATCH), .val (.ref w_MovementKind_MATCH)] [])) _
        refine XS.aloadN X16.here hx rfl (hb hby at_45) rfl rfl ?_
        show Steps p.tables e below (T16.setTop (mkF m 46 #[.val (.int p1), .val (.int ((p1 &&& (2147483647 : Int32)) % (3 : Int32))), .val (.ref w_CreditKind_MATCH), .val (.ref w_MovementKind_MATCH)] [(.ref w_MovementKind_MATCH)])) _
        refine st17.trans ?_
        show Steps p.tables e below (T17.setTop (mkF m 49 #[.val (.int p1), .val (.int ((p1 &&& (2147483647 : Int32)) % (3 : Int32))), .val (.ref w_CreditKind_MATCH), .val (.ref w_MovementKind_MATCH)] [(.ref w_MovementKind_MATCH_keyword)])) _
        refine XS.aloadN X17.here hx rfl (hb hby at_49) rfl rfl ?_
        show Steps p.tables e below (T17.setTop (mkF m 50 #[.val (.int p1), .val (.int ((p1 &&& (2147483647 : Int32)) % (3 : Int32))), .val (.ref w_CreditKind_MATCH), .val (.ref w_MovementKind_MATCH)] [(.ref w_CreditKind_MATCH), (.ref w_MovementKind_MATCH_keyword)])) _
        refine st19.trans ?_
        show Steps p.tables e below (T19.setTop (mkF m 53 #[.val (.int p1), .val (.int ((p1 &&& (2147483647 : Int32)) % (3 : Int32))), .val (.ref w_CreditKind_MATCH), .val (.ref w_MovementKind_MATCH)] [(.ref w_MovementKind_MATCH_keyword), (.ref w_MovementKind_MATCH_keyword)])) _
        refine st21.trans ?_
        show Steps p.tables e below (T21.setTop (mkF m 56 #[.val (.int p1), .val (.int ((p1 &&& (2147483647 : Int32)) % (3 : Int32))), .val (.ref w_CreditKind_MATCH), .val (.ref w_MovementKind_MATCH)] [(.int (1 : Int32))])) _
        exact Jvm.RoadKit.retOut X21 hx Bd.returns rfl (Or.inl ⟨rfl, by simp, _, rfl⟩) (hb hby at_56) hr
      · show Q_rm0 Z p1 w_CreditKind_MATCH w_CreditKind_DEFERRAL w_MovementKind_MATCH w_MovementKind_DEFERRAL w_1__SwitchMap_com_example_vestwright_vestwright_CreditKind w_CreditKind_EMPLOYER_CONTRIBUTION w_MovementKind_EMPLOYER_CONTRIBUTION w_MovementKind_MATCH_keyword w_MovementKind_DEFERRAL_keyword w_MovementKind_EMPLOYER_CONTRIBUTION_keyword k_w_1__SwitchMap_com_example_vestwright_vestwright_CreditKind h0 n0 _ T21.heap _
        rw [e21]
        unfold Q_rm0
        exact ⟨rfl, N21, rfl⟩
    · have c23 : Sta Z h0 "com/example/vestwright/vestwright/CreditKind" "EMPLOYER_CONTRIBUTION" "Lcom/example/vestwright/vestwright/CreditKind;" (.ref w_CreditKind_EMPLOYER_CONTRIBUTION) := Sta.ext (O0).2 S_CreditKind_EMPLOYER_CONTRIBUTION
      obtain ⟨T24, X24, e24, st24⟩ := getS2 X0 hx hZ hown (host := "") (Or.inl (hwk hw 42 rfl)) Via.refl e0 c23 (g := (mkF m 30 #[.val (.int p1), .val (.int ((p1 &&& (2147483647 : Int32)) % (3 : Int32))), .unset, .unset] [])) rfl (hb hby at_30)
      obtain ⟨_, _, ⟨T25, L25, k25, n25⟩, -, X25, ⟨Lc25, hQ25, l25, y25, z25⟩, st25⟩ := Jvm.LawKit.callS X24 hx (y := (⟨"com/example/vestwright/vestwright/MovementKind", "of", "(Lcom/example/vestwright/vestwright/CreditKind;)Lcom/example/vestwright/vestwright/MovementKind;"⟩ : MethodName)) hown (mvT hZ (hwk hw 4 rfl)) (mvT hZ (hwk hw 5 rfl)) (mvT hZ (hwk hw 6 rfl)) (mvT hZ (hwk hw 7 rfl)) (by decide) (backOf (W := 0) (rm1_2 l Z a0 hw [] w_CreditKind_EMPLOYER_CONTRIBUTION w_1__SwitchMap_com_example_vestwright_vestwright_CreditKind k_w_1__SwitchMap_com_example_vestwright_vestwright_CreditKind w_MovementKind_EMPLOYER_CONTRIBUTION h0 n0 O0 E_w_CreditKind_EMPLOYER_CONTRIBUTION F_w_CreditKind_EMPLOYER_CONTRIBUTION_ordinal S_1__SwitchMap_com_example_vestwright_vestwright_CreditKind V_w_1__SwitchMap_com_example_vestwright_vestwright_CreditKind S_MovementKind_EMPLOYER_CONTRIBUTION) hZ (hwk hw 7 rfl) (hwk hw 6 rfl) (by decide) (by decide)) (g := (mkF m 35 #[.val (.int p1), .val (.int ((p1 &&& (2147483647 : Int32)) % (3 : Int32))), .val (.ref w_CreditKind_EMPLOYER_CONTRIBUTION), .unset] [(.ref w_CreditKind_EMPLOYER_CONTRIBUTION)])) rfl (by rw [hml]; rfl) (argsL := [(.ref w_CreditKind_EMPLOYER_CONTRIBUTION)]) (rest := []) (lenOf pd_1 rfl) rfl (by show 2 * 0 + _ ≤ _; exact Nat.le_of_eq rfl) (hb hby at_35) (fun _ _ => ⟨rfl, e24, (by decide : 0 + 0 ≤ _), (by decide : 0 + 0 ≤ _)⟩)
      dsimp only [Pt.U, Pt.locs, Pt.cells, Pt.slots] at X25 l25 y25 z25 st25 hQ25
      subst l25 y25 z25
      unfold Q_rm1_2 at hQ25
      obtain ⟨rfl, N25q, e25⟩ := hQ25
      have N25 := Fr.app N0 N25q
      have c27 : Exa Z h0 w_MovementKind_EMPLOYER_CONTRIBUTION "com/example/vestwright/vestwright/MovementKind" := Exa.ext (O0).2 E_w_MovementKind_EMPLOYER_CONTRIBUTION
      obtain ⟨cq26, kq26, q26a, q26b, q26c⟩ := isOf hZ e25 c27
      obtain ⟨_, _, ⟨T26, L26, k26, n26⟩, -, X26, ⟨Lc26, hQ26, l26, y26, z26⟩, st26⟩ := X25.virtualBack hx (y := (⟨"com/example/vestwright/vestwright/MovementKind", "keyword", "()Ljava/lang/String;"⟩ : MethodName)) (z := (⟨"com/example/vestwright/vestwright/MovementKind", "keyword", "()Ljava/lang/String;"⟩ : MethodName)) hown (mvT hZ (hwk hw 22 rfl)) (mvT hZ (hwk hw 23 rfl)) (notFace_of_selects (args := #[]) (mvT hZ (hwk hw 25 rfl))) (mvT hZ (hwk hw 25 rfl)) (mvT hZ (hwk hw 24 rfl)) (by decide) (backOf (W := 0) (rm3 l Z a0 hw [] w_MovementKind_EMPLOYER_CONTRIBUTION w_MovementKind_EMPLOYER_CONTRIBUTION_keyword h0 n0 O0 F_w_MovementKind_EMPLOYER_CONTRIBUTION_keyword) hZ (hwk hw 26 rfl) (hwk hw 6 rfl) (by decide) (by decide)) q26a q26c (g := (mkF m 46 #[.val (.int p1), .val (.int ((p1 &&& (2147483647 : Int32)) % (3 : Int32))), .val (.ref w_CreditKind_EMPLOYER_CONTRIBUTION), .val (.ref w_MovementKind_EMPLOYER_CONTRIBUTION)] [(.ref w_MovementKind_EMPLOYER_CONTRIBUTION)])) rfl (by rw [hml]; rfl) (Steps.refl _) (argsL := []) (rest := []) (lenOf pd_2 rfl) rfl (by show 2 * 0 + _ ≤ _; exact Nat.le_of_eq rfl) (hb hby at_46) (fun _ _ => ⟨rfl, e25, (by decide : 0 + 0 ≤ _), (by decide : 0 + 0 ≤ _)⟩)
      dsimp only [Pt.U, Pt.locs, Pt.cells, Pt.slots] at X26 l26 y26 z26 st26 hQ26
      subst l26 y26 z26
      unfold Q_rm3 at hQ26
      obtain ⟨rfl, N26q, e26⟩ := hQ26
      have N26 := Fr.app N25 N26q
      have c29 : Exa Z h0 w_CreditKind_EMPLOYER_CONTRIBUTION "com/example/vestwright/vestwright/CreditKind" := Exa.ext (O0).2 E_w_CreditKind_EMPLOYER_CONTRIBUTION
      obtain ⟨cq28, kq28, q28a, q28b, q28c⟩ := isOf hZ e26 c29
      obtain ⟨_, _, ⟨T28, L28, k28, n28⟩, -, X28, ⟨Lc28, hQ28, l28, y28, z28⟩, st28⟩ := X26.virtualBack hx (y := (⟨"com/example/vestwright/vestwright/CreditKind", "keyword", "()Ljava/lang/String;"⟩ : MethodName)) (z := (⟨"com/example/vestwright/vestwright/CreditKind", "keyword", "()Ljava/lang/String;"⟩ : MethodName)) hown (mvT hZ (hwk hw 29 rfl)) (mvT hZ (hwk hw 30 rfl)) (notFace_of_selects (args := #[]) (mvT hZ (hwk hw 32 rfl))) (mvT hZ (hwk hw 32 rfl)) (mvT hZ (hwk hw 31 rfl)) (by decide) (backOf (W := 1) (rm4 l Z a0 hw [] w_CreditKind_EMPLOYER_CONTRIBUTION w_MovementKind_EMPLOYER_CONTRIBUTION_keyword h0 n0 O0 F_w_CreditKind_EMPLOYER_CONTRIBUTION_keyword) hZ (hwk hw 33 rfl) (hwk hw 2 rfl) (by decide) (by decide)) q28a q28c (g := (mkF m 50 #[.val (.int p1), .val (.int ((p1 &&& (2147483647 : Int32)) % (3 : Int32))), .val (.ref w_CreditKind_EMPLOYER_CONTRIBUTION), .val (.ref w_MovementKind_EMPLOYER_CONTRIBUTION)] [(.ref w_CreditKind_EMPLOYER_CONTRIBUTION), (.ref w_MovementKind_EMPLOYER_CONTRIBUTION_keyword)])) rfl (by rw [hml]; rfl) (Steps.refl _) (argsL := []) (rest := [(.ref w_MovementKind_EMPLOYER_CONTRIBUTION_keyword)]) (lenOf pd_2 rfl) rfl (by show 2 * 0 + _ ≤ _; exact Nat.le_of_eq rfl) (hb hby at_50) (fun _ _ => ⟨rfl, e26, (by decide : 0 + 0 ≤ _), (by decide : 0 + 0 ≤ _)⟩)
      dsimp only [Pt.U, Pt.locs, Pt.cells, Pt.slots] at X28 l28 y28 z28 st28 hQ28
      subst l28 y28 z28
      unfold Q_rm4 at hQ28
      obtain ⟨rfl, N28q, e28⟩ := hQ28
      have N28 := Fr.app N26 N28q
      have c31 : Exa Z h0 w_MovementKind_EMPLOYER_CONTRIBUTION_keyword "java/lang/String" := Exa.ext (O0).2 E_w_MovementKind_EMPLOYER_CONTRIBUTION_keyword
      obtain ⟨cq30, kq30, q30a, q30b, q30c⟩ := isOf hZ e28 c31
      obtain ⟨_, _, ⟨T30, L30, k30, n30⟩, -, X30, ⟨Lc30, hQ30, l30, y30, z30⟩, st30⟩ := X28.virtualBack hx (y := (⟨"java/lang/String", "equals", "(Ljava/lang/Object;)Z"⟩ : MethodName)) (z := (⟨"java/lang/String", "equals", "(Ljava/lang/Object;)Z"⟩ : MethodName)) hown (mvT hZ (hwk hw 36 rfl)) (mvT hZ (hwk hw 37 rfl)) (notFace_of_selects (args := #[]) (mvT hZ (hwk hw 39 rfl))) (mvT hZ (hwk hw 39 rfl)) (mvT hZ (hwk hw 38 rfl)) (by decide) (backOf (W := 0) (rm5 l Z a0 hw [] w_MovementKind_EMPLOYER_CONTRIBUTION_keyword h0 n0 O0 ) hZ (hwk hw 41 rfl) (hwk hw 40 rfl) (by decide) (by decide)) q30a q30c (g := (mkF m 53 #[.val (.int p1), .val (.int ((p1 &&& (2147483647 : Int32)) % (3 : Int32))), .val (.ref w_CreditKind_EMPLOYER_CONTRIBUTION), .val (.ref w_MovementKind_EMPLOYER_CONTRIBUTION)] [(.ref w_MovementKind_EMPLOYER_CONTRIBUTION_keyword), (.ref w_MovementKind_EMPLOYER_CONTRIBUTION_keyword)])) rfl (by rw [hml]; rfl) (Steps.refl _) (argsL := [(.ref w_MovementKind_EMPLOYER_CONTRIBUTION_keyword)]) (rest := []) (lenOf pd_3 rfl) rfl (by show 2 * 0 + _ ≤ _; exact Nat.le_of_eq rfl) (hb hby at_53) (fun _ _ => ⟨rfl, e28, (by decide : 0 + 0 ≤ _), (by decide : 0 + 0 ≤ _)⟩)
      dsimp only [Pt.U, Pt.locs, Pt.cells, Pt.slots] at X30 l30 y30 z30 st30 hQ30
      subst l30 y30 z30
      unfold Q_rm5 at hQ30
      obtain ⟨rfl, N30q, e30⟩ := hQ30
      have N30 := Fr.app N28 N30q
      obtain ⟨fs, hr, hrun, hended, hW, hsame⟩ := X30.leave (v := some (.int (1 : Int32))) (fun h => by rw [Bd.returns] at h; cases h)
      refine ⟨_, _, S13 _ ?_, hrun, hended, _, _, rfl, ?_, ⟨_, rfl⟩, hW, hsame.mono (by decide) (by decide)⟩
      · show Steps p.tables e below (s₁.setTop (mkF m 20 #[.val (.int p1), .val (.int ((p1 &&& (2147483647 : Int32)) % (3 : Int32))), .unset, .unset] [(.int (1 : Int32)), (.int ((p1 &&& (2147483647 : Int32)) % (3 : Int32)))])) _
        refine XS.icmpYes X0.here hx rfl (pc0 := 20) (pc' := 30) rfl (hb hby at_20) rfl (feq hc12).2 (by decide) (by decide) ?_
        show Steps p.tables e below (s₁.setTop (mkF m 30 #[.val (.int p1), .val (.int ((p1 &&& (2147483647 : Int32)) % (3 : Int32))), .unset, .unset] [])) _
        refine st24 _ ?_
        show Steps p.tables e below (T24.setTop (mkF m 33 #[.val (.int p1), .val (.int ((p1 &&& (2147483647 : Int32)) % (3 : Int32))), .unset, .unset] [(.ref w_CreditKind_EMPLOYER_CONTRIBUTION)])) _
        refine XS.astoreN X24.here hx rfl (hb hby at_33) rfl rfl (l' := #[.val (.int p1), .val (.int ((p1 &&& (2147483647 : Int32)) % (3 : Int32))), .val (.ref w_CreditKind_EMPLOYER_CONTRIBUTION), .unset]) rfl ?_
        show Steps p.tables e below (T24.setTop (mkF m 34 #[.val (.int p1), .val (.int ((p1 &&& (2147483647 : Int32)) % (3 : Int32))), .val (.ref w_CreditKind_EMPLOYER_CONTRIBUTION), .unset] [])) _
        refine XS.aloadN X24.here hx rfl (hb hby at_34) rfl rfl ?_
        show Steps p.tables e below (T24.setTop (mkF m 35 #[.val (.int p1), .val (.int ((p1 &&& (2147483647 : Int32)) % (3 : Int32))), .val (.ref w_CreditKind_EMPLOYER_CONTRIBUTION), .unset] [(.ref w_CreditKind_EMPLOYER_CONTRIBUTION)])) _
        refine st25 _ ?_
        show Steps p.tables e below (T25.setTop (mkF m 38 #[.val (.int p1), .val (.int ((p1 &&& (2147483647 : Int32)) % (3 : Int32))), .val (.ref w_CreditKind_EMPLOYER_CONTRIBUTION), .unset] [(.ref w_MovementKind_EMPLOYER_CONTRIBUTION)])) _
        refine XS.astoreN X25.here hx rfl (hb hby at_38) rfl rfl (l' := #[.val (.int p1), .val (.int ((p1 &&& (2147483647 : Int32)) % (3 : Int32))), .val (.ref w_CreditKind_EMPLOYER_CONTRIBUTION), .val (.ref w_MovementKind_EMPLOYER_CONTRIBUTION)]) rfl ?_
        show Steps p.tables e below (T25.setTop (mkF m 39 #[.val (.int p1), .val (.int ((p1 &&& (2147483647 : Int32)) % (3 : Int32))), .val (.ref w_CreditKind_EMPLOYER_CONTRIBUTION), .val (.ref w_MovementKind_EMPLOYER_CONTRIBUTION)] [])) _
        refine XS.aloadN X25.here hx rfl (hb hby at_39) rfl rfl ?_
        show Steps p.tables e below (T25.setTop (mkF m 40 #[.val (.int p1), .val (.int ((p1 &&& (2147483647 : Int32)) % (3 : Int32))), .val (.ref w_CreditKind_EMPLOYER_CONTRIBUTION), .val (.ref w_MovementKind_EMPLOYER_CONTRIBUTION)] [(.ref w_MovementKind_EMPLOYER_CONTRIBUTION)])) _
        refine XS.ifnonnullYes X25.here hx rfl (pc0 := 40) (pc' := 45) rfl (hb hby at_40) rfl (by decide) (by decide) ?_
        show Steps p.tables e below (T25.setTop (mkF m 45 #[.val (.int p1), .val (.int ((p1 &&& (2147483647 : Int32)) % (3 : Int32))), .val (.ref w_CreditKind_EMPLOYER_CONTRIBUTION), .val (.ref w_MovementKind_EMPLOYER_CONTRIBUTION)] [])) _
        refine XS.aloadN X25.here hx rfl (hb hby at_45) rfl rfl ?_
        show Steps p.tables e below (T25.setTop (mkF m 46 #[.val (.int p1), .val (.int ((p1 &&& (2147483647 : Int32)) % (3 : Int32))), .val (.ref w_CreditKind_EMPLOYER_CONTRIBUTION), .val (.ref w_MovementKind_EMPLOYER_CONTRIBUTION)] [(.ref w_MovementKind_EMPLOYER_CONTRIBUTION)])) _
        refine st26.trans ?_
        show Steps p.tables e below (T26.setTop (mkF m 49 #[.val (.int p1), .val (.int ((p1 &&& (2147483647 : Int32)) % (3 : Int32))), .val (.ref w_CreditKind_EMPLOYER_CONTRIBUTION), .val (.ref w_MovementKind_EMPLOYER_CONTRIBUTION)] [(.ref w_MovementKind_EMPLOYER_CONTRIBUTION_keyword)])) _
        refine XS.aloadN X26.here hx rfl (hb hby at_49) rfl rfl ?_
        show Steps p.tables e below (T26.setTop (mkF m 50 #[.val (.int p1), .val (.int ((p1 &&& (2147483647 : Int32)) % (3 : Int32))), .val (.ref w_CreditKind_EMPLOYER_CONTRIBUTION), .val (.ref w_MovementKind_EMPLOYER_CONTRIBUTION)] [(.ref w_CreditKind_EMPLOYER_CONTRIBUTION), (.ref w_MovementKind_EMPLOYER_CONTRIBUTION_keyword)])) _
        refine st28.trans ?_
        show Steps p.tables e below (T28.setTop (mkF m 53 #[.val (.int p1), .val (.int ((p1 &&& (2147483647 : Int32)) % (3 : Int32))), .val (.ref w_CreditKind_EMPLOYER_CONTRIBUTION), .val (.ref w_MovementKind_EMPLOYER_CONTRIBUTION)] [(.ref w_MovementKind_EMPLOYER_CONTRIBUTION_keyword), (.ref w_MovementKind_EMPLOYER_CONTRIBUTION_keyword)])) _
        refine st30.trans ?_
        show Steps p.tables e below (T30.setTop (mkF m 56 #[.val (.int p1), .val (.int ((p1 &&& (2147483647 : Int32)) % (3 : Int32))), .val (.ref w_CreditKind_EMPLOYER_CONTRIBUTION), .val (.ref w_MovementKind_EMPLOYER_CONTRIBUTION)] [(.int (1 : Int32))])) _
        exact Jvm.RoadKit.retOut X30 hx Bd.returns rfl (Or.inl ⟨rfl, by simp, _, rfl⟩) (hb hby at_56) hr
      · show Q_rm0 Z p1 w_CreditKind_MATCH w_CreditKind_DEFERRAL w_MovementKind_MATCH w_MovementKind_DEFERRAL w_1__SwitchMap_com_example_vestwright_vestwright_CreditKind w_CreditKind_EMPLOYER_CONTRIBUTION w_MovementKind_EMPLOYER_CONTRIBUTION w_MovementKind_MATCH_keyword w_MovementKind_DEFERRAL_keyword w_MovementKind_EMPLOYER_CONTRIBUTION_keyword k_w_1__SwitchMap_com_example_vestwright_vestwright_CreditKind h0 n0 _ T30.heap _
        rw [e30]
        unfold Q_rm0
        exact ⟨rfl, N30, rfl⟩
theorem own_evR {args : Array Value} {s : State} {a b : Term} {y : Addr} (h : (Jvm.Cond.eq a b).value args s none s [] = some true) (hb : b.eval args s none [] s = some (.ref y)) : a.eval args s none [] s = some (.ref y) := by
  obtain ⟨x, z, h1, h2, h3, h4⟩ := cmp_v (Or.inl h)
  cases h2.symm.trans hb
  have hx : x.isRef = true := h4.2
  have q := gotT (eq_R h1 hb hx rfl) h
  rw [h1, q]
theorem own_len {args : Array Value} {s : State} {t : Term} {a : Addr} {cl : Cell} {ty : FieldType} {n : Int32} (A : Arr s s.heap a cl ty) (ev : t.eval args s none [] s = some (.ref a)) (h : (Term.length t).eval args s none [] s = some (.int n)) : cl.slots.size < 2 ^ 31 ∧ cl.slots.size.toInt32 = n := by
  have ha : s.arrayAt? a = some cl := A.fin (Vm.Alike.refl _)
  have hl := SBG.length_lt ev ha h
  have q := len_f ev ha hl
  exact ⟨hl, by simpa using Option.some.inj (q.symm.trans h)⟩
theorem own_arvU {s : State} {a : Addr} {cl : Cell} {ty : FieldType} {n : Int32} {dv : Value} (hf : Fit s) (A : Arr s s.heap a cl ty) (q : cl.slots.size < 2 ^ 31) (e : cl.slots.size.toInt32 = n) (hn : ¬ n < 0) : Arv s s.heap a cl.cls ty n cl.slots.toList dv := by
  have S : cl.slots.size = n.toNatClampNeg := by rw [← e]; simp only [Int32.toNatClampNeg, len_toInt q]; rfl
  have H : Has cl cl.slots.toList dv := fun j hj => by simp [hj]
  refine ⟨cl, A, rfl, S, hn, H, fun j hj => ?_⟩
  have e1 : (Nat.toInt32 j).toNatClampNeg = j := by simp only [Int32.toNatClampNeg, len_toInt (Nat.lt_trans hj q)]; rfl
  exact elem_fits (j := Nat.toInt32 j) hf A (idx_in hj q) (by rw [e1]; exact H j hj)
set_option maxRecDepth 65536 in
set_option maxHeartbeats 40000000 in
theorem comes_1 {Post : Tables → Env → Array Value → State → Outcome → State → Prop} (hpost : ∀ tb e args s v u, (limb_1_1.after args s (.returned v) u = true ∧ limb_1_2.after args s (.returned v) u = true ∧ True) → FrameEnd s (.returned v) u (Jvm.fieldLocs frame_1_writes args s ++ Jvm.arrayLocs frame_1_arrays args s ++ Jvm.staticLocs frame_1_statics s) 0 0 → Post tb e args s (.returned v) u) :
    ArmFor flags0 classFile x code maxLocals ret World_1 tables_1 room_1 Calls_1 rest_1 Pre_1 Post := by
  intro l hfl _ _ p e ha hc hk s m args below hf hA hF happ hP
  obtain ⟨hcalls, hrest, hpre⟩ := hP
  obtain ⟨-, -, -, hnamed, -, -, -, hat⟩ := (Spec.applies_iff hf).mp happ
  obtain ⟨hg, hn⟩ := and_e (Cond.before_iff.mp (show (Jvm.Cond.and given_1 narrow_1).before args s = true from hpre))
  obtain ⟨gg1, gg2⟩ := and_e hg
  obtain ⟨w0, rfl⟩ : ∃ w0 : Value, args = #[w0] := by
    have hs : args.size = 1 := by simpa [Cond.value, given_1] using gg1
    obtain ⟨L⟩ := args
    match L, hs with
    | [w0], _ => exact ⟨w0, rfl⟩
  have hw := fun d (hd : d ∈ tables_1) => atoms_spec (ws := Jvm.Cond.code x code maxLocals ret :: tables_1) hat d (List.mem_cons_of_mem _ hd)
  have hfit : Fit s := fun {y c} hc i hi => by
    obtain ⟨ha, rfl⟩ := Array.getElem?_eq_some_iff.mp hc
    have q := List.all_eq_true.mp ((Array.all_eq_true_iff_forall_mem.mp hF) _ (Array.getElem_mem ha)) i (List.mem_range.mpr hi)
    simpa [Array.getElem?_eq_getElem hi] using q
  obtain ⟨i0, ei0⟩ := is_v gg2
  obtain rfl : w0 = (.int i0) := Option.some.inj ei0
  obtain ⟨na1, na2⟩ := and_e hn
  obtain ⟨na3, na4⟩ := and_e na2
  obtain ⟨na5, na6⟩ := and_e na4
  obtain ⟨na7, na8⟩ := and_e na6
  obtain ⟨na9, na10⟩ := and_e na8
  obtain ⟨na11, na12⟩ := and_e na10
  obtain ⟨na13, na14⟩ := and_e na12
  obtain ⟨na15, na16⟩ := and_e na14
  obtain ⟨na17, na18⟩ := and_e na16
  obtain ⟨na19, na20⟩ := and_e na18
  obtain ⟨na21, na22⟩ := and_e na20
  obtain ⟨na23, na24⟩ := and_e na22
  obtain ⟨na25, na26⟩ := and_e na24
  obtain ⟨na27, na28⟩ := and_e na26
  obtain ⟨na29, na30⟩ := and_e na28
  obtain ⟨na31, na32⟩ := and_e na30
  obtain ⟨na33, na34⟩ := and_e na32
  obtain ⟨na35, na36⟩ := and_e na34
  obtain ⟨na37, na38⟩ := and_e na36
  obtain ⟨w_CreditKind_MATCH, ev39⟩ := exa_v na29
  have S_CreditKind_MATCH : Sta s s.heap "com/example/vestwright/vestwright/CreditKind" "MATCH" "Lcom/example/vestwright/vestwright/CreditKind;" (.ref w_CreditKind_MATCH) := Sta.start ev39 (Or.inr ⟨(hwk hw 2 rfl), (hwk hw 47 rfl)⟩)
  have E_w_CreditKind_MATCH : Exa s s.heap w_CreditKind_MATCH "com/example/vestwright/vestwright/CreditKind" := Exa.start ev39 na29
  obtain ⟨w_CreditKind_DEFERRAL, ev40⟩ := exa_v na1
  have S_CreditKind_DEFERRAL : Sta s s.heap "com/example/vestwright/vestwright/CreditKind" "DEFERRAL" "Lcom/example/vestwright/vestwright/CreditKind;" (.ref w_CreditKind_DEFERRAL) := Sta.start ev40 (Or.inr ⟨(hwk hw 2 rfl), (hwk hw 3 rfl)⟩)
  have E_w_CreditKind_DEFERRAL : Exa s s.heap w_CreditKind_DEFERRAL "com/example/vestwright/vestwright/CreditKind" := Exa.start ev40 na1
  obtain ⟨w_MovementKind_MATCH, ev41⟩ := exa_v na35
  have S_MovementKind_MATCH : Sta s s.heap "com/example/vestwright/vestwright/MovementKind" "MATCH" "Lcom/example/vestwright/vestwright/MovementKind;" (.ref w_MovementKind_MATCH) := Sta.start ev41 (Or.inr ⟨(hwk hw 6 rfl), (hwk hw 49 rfl)⟩)
  have E_w_MovementKind_MATCH : Exa s s.heap w_MovementKind_MATCH "com/example/vestwright/vestwright/MovementKind" := Exa.start ev41 na35
  obtain ⟨w_MovementKind_DEFERRAL, ev42⟩ := exa_v na11
  have S_MovementKind_DEFERRAL : Sta s s.heap "com/example/vestwright/vestwright/MovementKind" "DEFERRAL" "Lcom/example/vestwright/vestwright/MovementKind;" (.ref w_MovementKind_DEFERRAL) := Sta.start ev42 (Or.inr ⟨(hwk hw 6 rfl), (hwk hw 21 rfl)⟩)
  have E_w_MovementKind_DEFERRAL : Exa s s.heap w_MovementKind_DEFERRAL "com/example/vestwright/vestwright/MovementKind" := Exa.start ev42 na11
  obtain ⟨w_1__SwitchMap_com_example_vestwright_vestwright_CreditKind, ev43⟩ := arr_v na3
  have S_1__SwitchMap_com_example_vestwright_vestwright_CreditKind : Sta s s.heap "com/example/vestwright/vestwright/MovementKind$1" "$SwitchMap$com$example$vestwright$vestwright$CreditKind" "[I" (.ref w_1__SwitchMap_com_example_vestwright_vestwright_CreditKind) := Sta.start ev43 (Or.inr ⟨(hwk hw 9 rfl), (hwk hw 10 rfl)⟩)
  obtain ⟨cl_w_1__SwitchMap_com_example_vestwright_vestwright_CreditKind, Ar_w_1__SwitchMap_com_example_vestwright_vestwright_CreditKind⟩ := Arr.start ev43 na3
  obtain ⟨w_CreditKind_EMPLOYER_CONTRIBUTION, ev44⟩ := exa_v na17
  have S_CreditKind_EMPLOYER_CONTRIBUTION : Sta s s.heap "com/example/vestwright/vestwright/CreditKind" "EMPLOYER_CONTRIBUTION" "Lcom/example/vestwright/vestwright/CreditKind;" (.ref w_CreditKind_EMPLOYER_CONTRIBUTION) := Sta.start ev44 (Or.inr ⟨(hwk hw 2 rfl), (hwk hw 43 rfl)⟩)
  have E_w_CreditKind_EMPLOYER_CONTRIBUTION : Exa s s.heap w_CreditKind_EMPLOYER_CONTRIBUTION "com/example/vestwright/vestwright/CreditKind" := Exa.start ev44 na17
  obtain ⟨w_MovementKind_EMPLOYER_CONTRIBUTION, ev45⟩ := exa_v na23
  have S_MovementKind_EMPLOYER_CONTRIBUTION : Sta s s.heap "com/example/vestwright/vestwright/MovementKind" "EMPLOYER_CONTRIBUTION" "Lcom/example/vestwright/vestwright/MovementKind;" (.ref w_MovementKind_EMPLOYER_CONTRIBUTION) := Sta.start ev45 (Or.inr ⟨(hwk hw 6 rfl), (hwk hw 45 rfl)⟩)
  have E_w_MovementKind_EMPLOYER_CONTRIBUTION : Exa s s.heap w_MovementKind_EMPLOYER_CONTRIBUTION "com/example/vestwright/vestwright/MovementKind" := Exa.start ev45 na23
  obtain ⟨w_MovementKind_MATCH_keyword, ev46⟩ := exa_v na37
  have F_w_MovementKind_MATCH_keyword : Fld s s.heap w_MovementKind_MATCH "com/example/vestwright/vestwright/MovementKind" "keyword" "Ljava/lang/String;" (.ref w_MovementKind_MATCH_keyword) := Fld.start ((fld_at ev41).symm.trans ev46)
  have E_w_MovementKind_MATCH_keyword : Exa s s.heap w_MovementKind_MATCH_keyword "java/lang/String" := Exa.start ev46 na37
  obtain ⟨w_MovementKind_DEFERRAL_keyword, ev47⟩ := exa_v na13
  have F_w_MovementKind_DEFERRAL_keyword : Fld s s.heap w_MovementKind_DEFERRAL "com/example/vestwright/vestwright/MovementKind" "keyword" "Ljava/lang/String;" (.ref w_MovementKind_DEFERRAL_keyword) := Fld.start ((fld_at ev42).symm.trans ev47)
  have E_w_MovementKind_DEFERRAL_keyword : Exa s s.heap w_MovementKind_DEFERRAL_keyword "java/lang/String" := Exa.start ev47 na13
  obtain ⟨w_MovementKind_EMPLOYER_CONTRIBUTION_keyword, ev48⟩ := exa_v na25
  have F_w_MovementKind_EMPLOYER_CONTRIBUTION_keyword : Fld s s.heap w_MovementKind_EMPLOYER_CONTRIBUTION "com/example/vestwright/vestwright/MovementKind" "keyword" "Ljava/lang/String;" (.ref w_MovementKind_EMPLOYER_CONTRIBUTION_keyword) := Fld.start ((fld_at ev45).symm.trans ev48)
  have E_w_MovementKind_EMPLOYER_CONTRIBUTION_keyword : Exa s s.heap w_MovementKind_EMPLOYER_CONTRIBUTION_keyword "java/lang/String" := Exa.start ev48 na25
  have ev49 := own_eqI na5 rfl
  have ev50 := own_eqI na7 rfl
  have F_w_CreditKind_DEFERRAL_ordinal : Fld s s.heap w_CreditKind_DEFERRAL "java/lang/Enum" "ordinal" "I" (.int (0 : Int32)) := Fld.start ((fld_at ev40).symm.trans ev50)
  have ev51 := own_eqI na9 rfl
  have ev53 := own_evR na15 ev47
  have F_w_CreditKind_DEFERRAL_keyword : Fld s s.heap w_CreditKind_DEFERRAL "com/example/vestwright/vestwright/CreditKind" "keyword" "Ljava/lang/String;" (.ref w_MovementKind_DEFERRAL_keyword) := Fld.start ((fld_at ev40).symm.trans ev53)
  have ev54 := own_eqI na19 rfl
  have F_w_CreditKind_EMPLOYER_CONTRIBUTION_ordinal : Fld s s.heap w_CreditKind_EMPLOYER_CONTRIBUTION "java/lang/Enum" "ordinal" "I" (.int (2 : Int32)) := Fld.start ((fld_at ev44).symm.trans ev54)
  have ev55 := own_eqI na21 rfl
  have ev57 := own_evR na27 ev48
  have F_w_CreditKind_EMPLOYER_CONTRIBUTION_keyword : Fld s s.heap w_CreditKind_EMPLOYER_CONTRIBUTION "com/example/vestwright/vestwright/CreditKind" "keyword" "Ljava/lang/String;" (.ref w_MovementKind_EMPLOYER_CONTRIBUTION_keyword) := Fld.start ((fld_at ev44).symm.trans ev57)
  have ev58 := own_eqI na31 rfl
  have F_w_CreditKind_MATCH_ordinal : Fld s s.heap w_CreditKind_MATCH "java/lang/Enum" "ordinal" "I" (.int (1 : Int32)) := Fld.start ((fld_at ev39).symm.trans ev58)
  have ev59 := own_eqI na33 rfl
  have ev61 := own_evR na38 ev46
  have F_w_CreditKind_MATCH_keyword : Fld s s.heap w_CreditKind_MATCH "com/example/vestwright/vestwright/CreditKind" "keyword" "Ljava/lang/String;" (.ref w_MovementKind_MATCH_keyword) := Fld.start ((fld_at ev39).symm.trans ev61)
  obtain ⟨h31_w_1__SwitchMap_com_example_vestwright_vestwright_CreditKind, hsz_w_1__SwitchMap_com_example_vestwright_vestwright_CreditKind⟩ := own_len Ar_w_1__SwitchMap_com_example_vestwright_vestwright_CreditKind ev43 ev49
  have V_w_1__SwitchMap_com_example_vestwright_vestwright_CreditKind : Arv s s.heap w_1__SwitchMap_com_example_vestwright_vestwright_CreditKind cl_w_1__SwitchMap_com_example_vestwright_vestwright_CreditKind.cls .int (3 : Int32) [(.int (1 : Int32)), (.int (2 : Int32)), (.int (3 : Int32))] (.int (0 : Int32)) := Arv.start hfit Ar_w_1__SwitchMap_com_example_vestwright_vestwright_CreditKind h31_w_1__SwitchMap_com_example_vestwright_vestwright_CreditKind hsz_w_1__SwitchMap_com_example_vestwright_vestwright_CreditKind (by decide) rfl ⟨(elem_in ev51 ev43 rfl Ar_w_1__SwitchMap_com_example_vestwright_vestwright_CreditKind.1).2, (elem_in ev59 ev43 rfl Ar_w_1__SwitchMap_com_example_vestwright_vestwright_CreditKind.1).2, (elem_in ev55 ev43 rfl Ar_w_1__SwitchMap_com_example_vestwright_vestwright_CreditKind.1).2, trivial⟩
  obtain ⟨n, o, h1, h2, h3, _, L, rfl, hQ, hq⟩ := rm0 l s _ hw tables_1 i0 w_CreditKind_MATCH w_CreditKind_DEFERRAL w_MovementKind_MATCH w_MovementKind_DEFERRAL w_1__SwitchMap_com_example_vestwright_vestwright_CreditKind w_CreditKind_EMPLOYER_CONTRIBUTION w_MovementKind_EMPLOYER_CONTRIBUTION w_MovementKind_MATCH_keyword w_MovementKind_DEFERRAL_keyword w_MovementKind_EMPLOYER_CONTRIBUTION_keyword cl_w_1__SwitchMap_com_example_vestwright_vestwright_CreditKind.cls s.heap s.heap.size (Old.start s) S_CreditKind_MATCH E_w_CreditKind_MATCH S_CreditKind_DEFERRAL E_w_CreditKind_DEFERRAL S_MovementKind_MATCH E_w_MovementKind_MATCH S_MovementKind_DEFERRAL E_w_MovementKind_DEFERRAL S_1__SwitchMap_com_example_vestwright_vestwright_CreditKind S_CreditKind_EMPLOYER_CONTRIBUTION E_w_CreditKind_EMPLOYER_CONTRIBUTION S_MovementKind_EMPLOYER_CONTRIBUTION E_w_MovementKind_EMPLOYER_CONTRIBUTION F_w_MovementKind_MATCH_keyword E_w_MovementKind_MATCH_keyword F_w_MovementKind_DEFERRAL_keyword E_w_MovementKind_DEFERRAL_keyword F_w_MovementKind_EMPLOYER_CONTRIBUTION_keyword E_w_MovementKind_EMPLOYER_CONTRIBUTION_keyword F_w_CreditKind_DEFERRAL_ordinal F_w_CreditKind_DEFERRAL_keyword F_w_CreditKind_EMPLOYER_CONTRIBUTION_ordinal F_w_CreditKind_EMPLOYER_CONTRIBUTION_keyword F_w_CreditKind_MATCH_ordinal F_w_CreditKind_MATCH_keyword V_w_1__SwitchMap_com_example_vestwright_vestwright_CreditKind p e ha hc hk s m _ below hf ((Spec.applies_iff_loose hf).mp happ).1 ⟨rfl, State.Warmed39.refl s, rfl⟩ trivial
  unfold Q_rm0 at hQ
  obtain ⟨rfl, N, -⟩ := hQ
  refine ⟨n, _, h1, h2, h3, hpost _ _ _ _ _ _ ⟨Cond.after_iff.mpr rfl, Cond.after_iff.mpr (eq_i res_at (Term.int_eval (1)) rfl), trivial⟩ ⟨hq.1, hq.2.1, (hq.2.2.sift fun y hy => Or.inr (N y hy)).mono (by decide) (by decide)⟩⟩
theorem main_1_1 : Claimed_1_1 := comes_1 fun _ _ _ _ _ _ h hF => ⟨h.1, hF⟩
theorem main_1_2 : Claimed_1_2 := comes_1 fun _ _ _ _ _ _ h hF => ⟨h.2.1, hF⟩
end Jvm.Pilot.@@N@@
namespace Jvm.Pilot.@@N@@
open Jvm Jvm.ClassFile Sem Op Lib Jvm.Free Jvm.Stand Jvm.Pilot.@@N@@.Jvm.D
/-! MADE BY PROGRAM (witnessworld.py) out of the Statement's table words and the real class files: 18 classes; the members and pool entries that the words name. The judged class is class 1, her method 1. -/
namespace start1
open Jvm.ClassFile
def u (s : String) : CpInfo := .utf8 (stringToUtf16 s)
/-- a pool by its gaps: so many unusable entries, then the entry; so many at the end -/
def gap : Nat → List CpInfo → List CpInfo
  | 0, r => r
  | n + 1, r => .unusable :: gap n r
def poolList (es : List (Nat × CpInfo)) (last : Nat) : List CpInfo := es.foldr (fun e r => gap e.1 (e.2 :: r)) (gap last [])
def pool (es : List (Nat × CpInfo)) (last : Nat) : Array CpInfo := ⟨poolList es last⟩
def fileOf (pool : Array CpInfo) (this : Nat) (attrs : Array Attribute := #[]) (ms : Array MethodInfo := #[]) (fl : Nat := 33) (sup : Nat := 0) (ifs : Array Nat := #[]) (fds : Array FieldInfo := #[]) : ClassFile where
  minorVersion := 0
  majorVersion := 65
  constantPool := pool
  accessFlags := fl
  thisClass := this
  superClass := sup
  interfaces := ifs
  fields := fds
  methods := ms
  attributes := attrs
def plain (name : String) (sup : Option ClassId) : Class where
  name := name
  kind := .ordinary
  loader := none
  accessFlags := 33
  super := sup
  interfaces := #[]
  cf := none
  fields := #[]
  methods := #[]
  instanceTypes := #[]
  staticTypes := #[]
  resolved := #[]
  callSites := []
  init := .initialized
  statics := none
  mirror := none

def pool0 : Array CpInfo := pool [(5, u "<init>"), (0, u "()V"), (1, .class_ 10), (1, u "java/lang/Object")] 113

def k0m0 : Method := { name := "<init>", desc := "()V", sig := { parameters := [], returnType := none }, accessFlags := 1, code := none }
/-- java/lang/Object -/
def k0 : Class := { plain "java/lang/Object" none with
  accessFlags := 33
  interfaces := #[]
  cf := some (fileOf pool0 8 #[] #[{ accessFlags := 1, nameIndex := 5, descriptorIndex := 6, attributes := #[] }] 33 0 #[] #[])
  fields := #[]
  methods := #[k0m0]
  instanceTypes := #[]
  staticTypes := #[]
  resolved := Array.replicate 124 none
  statics := none }

def pool1 : Array CpInfo := pool [(2, .class_ 4), (1, u "java/lang/Object"), (0, u "<init>"), (0, u "()V"), (0, .integer 2147483647), (0, .fieldref 9 10), (0, .class_ 11), (0, .nameAndType 12 13), (0, u "com/example/vestwright/vestwright/CreditKind"), (0, u "DEFERRAL"), (0, u "Lcom/example/vestwright/vestwright/CreditKind;"), (0, .fieldref 9 15), (0, .nameAndType 16 13), (0, u "MATCH"), (0, .fieldref 9 18), (0, .nameAndType 19 13), (0, u "EMPLOYER_CONTRIBUTION"), (0, .methodref 21 22), (0, .class_ 23), (0, .nameAndType 24 25), (0, u "com/example/vestwright/vestwright/MovementKind"), (0, u "of"), (0, u "(Lcom/example/vestwright/vestwright/CreditKind;)Lcom/example/vestwright/vestwright/MovementKind;"), (0, .methodref 21 27), (0, .nameAndType 28 29), (0, u "keyword"), (0, u "()Ljava/lang/String;"), (0, .methodref 9 27), (0, .methodref 32 33), (0, .class_ 34), (0, .nameAndType 35 36), (0, u "java/lang/String"), (0, u "equals"), (0, u "(Ljava/lang/Object;)Z"), (0, .class_ 38), (0, u "com/example/vestwright/vestwright/MovementKindOfPinLaw"), (2, u "law"), (0, u "(I)Z")] 3

def k1m0 : Method := { name := "<init>", desc := "()V", sig := { parameters := [], returnType := none }, accessFlags := 2, code := none }
def k1c1 : Code := { maxStack := 2, maxLocals := 4, code := code, exceptionTable := #[], attributes := #[] }
def k1m1 : Method := { name := "law", desc := "(I)Z", sig := { parameters := [.int], returnType := some .boolean }, accessFlags := 9, code := some k1c1 }
/-- com/example/vestwright/vestwright/MovementKindOfPinLaw -/
def k1 : Class := { plain "com/example/vestwright/vestwright/MovementKindOfPinLaw" (some 0) with
  accessFlags := 49
  interfaces := #[]
  cf := some (fileOf pool1 37 #[] #[{ accessFlags := 2, nameIndex := 5, descriptorIndex := 6, attributes := #[] }, { accessFlags := 9, nameIndex := 41, descriptorIndex := 42, attributes := #[] }] 49 2 #[] #[])
  fields := #[]
  methods := #[k1m0, k1m1]
  instanceTypes := #[]
  staticTypes := #[]
  resolved := Array.replicate 46 none
  statics := none }

def pool2 : Array CpInfo := pool [(1, .class_ 2), (0, u "java/lang/constant/Constable"), (0, .class_ 4), (0, u "java/lang/Object")] 6

/-- java/lang/constant/Constable -/
def k2 : Class := { plain "java/lang/constant/Constable" (some 0) with
  accessFlags := 1537
  interfaces := #[]
  cf := some (fileOf pool2 1 #[] #[] 1537 3 #[] #[])
  fields := #[]
  methods := #[]
  instanceTypes := #[]
  staticTypes := #[]
  resolved := Array.replicate 11 none
  statics := none }

def pool3 : Array CpInfo := pool [(1, .class_ 2), (0, u "java/lang/Comparable"), (0, .class_ 4), (0, u "java/lang/Object")] 7

/-- java/lang/Comparable -/
def k3 : Class := { plain "java/lang/Comparable" (some 0) with
  accessFlags := 1537
  interfaces := #[]
  cf := some (fileOf pool3 1 #[] #[] 1537 3 #[] #[])
  fields := #[]
  methods := #[]
  instanceTypes := #[]
  staticTypes := #[]
  resolved := Array.replicate 12 none
  statics := none }

def pool4 : Array CpInfo := pool [(1, .class_ 2), (0, u "java/io/Serializable"), (0, .class_ 4), (0, u "java/lang/Object")] 2

/-- java/io/Serializable -/
def k4 : Class := { plain "java/io/Serializable" (some 0) with
  accessFlags := 1537
  interfaces := #[]
  cf := some (fileOf pool4 1 #[] #[] 1537 3 #[] #[])
  fields := #[]
  methods := #[]
  instanceTypes := #[]
  staticTypes := #[]
  resolved := Array.replicate 7 none
  statics := none }

def pool5 : Array CpInfo := pool [(2, .class_ 4), (1, u "java/lang/Enum"), (0, u "name"), (0, u "Ljava/lang/String;"), (0, .fieldref 2 8), (0, .nameAndType 9 10), (0, u "ordinal"), (0, u "I"), (1, .class_ 14), (1, u "java/lang/Object"), (4, u "hash"), (86, .class_ 108), (1, u "java/lang/Enum$EnumDesc"), (2, .class_ 112), (0, u "java/lang/constant/Constable"), (0, .class_ 114), (0, u "java/lang/Comparable"), (0, .class_ 116), (0, u "java/io/Serializable"), (9, u "()I")] 77

def k5c0 : Code := { maxStack := 1, maxLocals := 1, code := jdk_37_method_2_code, exceptionTable := #[], attributes := #[] }
def k5m0 : Method := { name := "ordinal", desc := "()I", sig := { parameters := [], returnType := some .int }, accessFlags := 17, code := some k5c0 }
/-- java/lang/Enum -/
def k5 : Class := { plain "java/lang/Enum" (some 0) with
  accessFlags := 1057
  interfaces := #[2, 3, 4]
  cf := some (fileOf pool5 2 #[.nestMembers #[106]] #[{ accessFlags := 17, nameIndex := 9, descriptorIndex := 126, attributes := #[] }] 1057 12 #[111, 113, 115] #[{ accessFlags := 18, nameIndex := 5, descriptorIndex := 6, attributes := #[] }, { accessFlags := 18, nameIndex := 9, descriptorIndex := 10, attributes := #[] }, { accessFlags := 2, nameIndex := 19, descriptorIndex := 10, attributes := #[] }])
  fields := #[{ name := "name", type := (.object "java/lang/String"), accessFlags := 18, slot := 0, constantValue := 0 }, { name := "ordinal", type := .int, accessFlags := 18, slot := 1, constantValue := 0 }, { name := "hash", type := .int, accessFlags := 2, slot := 2, constantValue := 0 }]
  methods := #[k5m0]
  instanceTypes := #[(.object "java/lang/String"), .int, .int]
  staticTypes := #[]
  resolved := Array.replicate 204 none
  statics := none }

def pool6 : Array CpInfo := pool [(1, .class_ 2), (0, u "com/example/vestwright/vestwright/Keyword"), (0, .class_ 4), (0, u "java/lang/Object")] 4

/-- com/example/vestwright/vestwright/Keyword -/
def k6 : Class := { plain "com/example/vestwright/vestwright/Keyword" (some 0) with
  accessFlags := 1536
  interfaces := #[]
  cf := some (fileOf pool6 1 #[] #[] 1536 3 #[] #[])
  fields := #[]
  methods := #[]
  instanceTypes := #[]
  staticTypes := #[]
  resolved := Array.replicate 9 none
  statics := none }

def pool7 : Array CpInfo := pool [(1, .class_ 2), (0, u "com/example/vestwright/vestwright/CreditKind"), (2, u "DEFERRAL"), (0, u "Lcom/example/vestwright/vestwright/CreditKind;"), (2, u "MATCH"), (2, u "EMPLOYER_CONTRIBUTION"), (2, u "$VALUES"), (0, u "[Lcom/example/vestwright/vestwright/CreditKind;"), (6, .class_ 25), (1, u "java/lang/Enum"), (6, .fieldref 1 33), (0, .nameAndType 34 35), (0, u "keyword"), (0, u "Ljava/lang/String;"), (16, .class_ 53), (0, u "com/example/vestwright/vestwright/Keyword"), (7, u "()Ljava/lang/String;")] 5

def k7c0 : Code := { maxStack := 1, maxLocals := 1, code := prog_1_method_4_code, exceptionTable := #[], attributes := #[] }
def k7m0 : Method := { name := "keyword", desc := "()Ljava/lang/String;", sig := { parameters := [], returnType := some (.object "java/lang/String") }, accessFlags := 1, code := some k7c0 }
/-- com/example/vestwright/vestwright/CreditKind -/
def k7 : Class := { plain "com/example/vestwright/vestwright/CreditKind" (some 5) with
  accessFlags := 16433
  interfaces := #[6]
  cf := some (fileOf pool7 1 #[] #[{ accessFlags := 1, nameIndex := 34, descriptorIndex := 61, attributes := #[] }] 16433 23 #[52] #[{ accessFlags := 16409, nameIndex := 5, descriptorIndex := 6, attributes := #[] }, { accessFlags := 16409, nameIndex := 9, descriptorIndex := 6, attributes := #[] }, { accessFlags := 16409, nameIndex := 12, descriptorIndex := 6, attributes := #[] }, { accessFlags := 18, nameIndex := 34, descriptorIndex := 35, attributes := #[] }, { accessFlags := 4122, nameIndex := 15, descriptorIndex := 16, attributes := #[] }])
  fields := #[{ name := "DEFERRAL", type := (.object "com/example/vestwright/vestwright/CreditKind"), accessFlags := 16409, slot := 0, constantValue := 0 }, { name := "MATCH", type := (.object "com/example/vestwright/vestwright/CreditKind"), accessFlags := 16409, slot := 1, constantValue := 0 }, { name := "EMPLOYER_CONTRIBUTION", type := (.object "com/example/vestwright/vestwright/CreditKind"), accessFlags := 16409, slot := 2, constantValue := 0 }, { name := "keyword", type := (.object "java/lang/String"), accessFlags := 18, slot := 3, constantValue := 0 }, { name := "$VALUES", type := (.array (.object "com/example/vestwright/vestwright/CreditKind")), accessFlags := 4122, slot := 3, constantValue := 0 }]
  methods := #[k7m0]
  instanceTypes := #[(.object "java/lang/String"), .int, .int, (.object "java/lang/String")]
  staticTypes := #[(.object "com/example/vestwright/vestwright/CreditKind"), (.object "com/example/vestwright/vestwright/CreditKind"), (.object "com/example/vestwright/vestwright/CreditKind"), (.array (.object "com/example/vestwright/vestwright/CreditKind"))]
  resolved := Array.replicate 67 none
  statics := some 0 }

def pool8 : Array CpInfo := pool [(1, .class_ 2), (0, u "com/example/vestwright/vestwright/MovementKind"), (0, .fieldref 1 4), (0, .nameAndType 5 6), (0, u "DEFERRAL"), (0, u "Lcom/example/vestwright/vestwright/MovementKind;"), (0, .fieldref 1 8), (0, .nameAndType 9 6), (0, u "MATCH"), (0, .fieldref 1 11), (0, .nameAndType 12 6), (0, u "EMPLOYER_CONTRIBUTION"), (2, u "PAYMENT"), (2, u "FORFEITURE"), (2, u "JOIN"), (2, u "REALLOCATION"), (2, u "$VALUES"), (0, u "[Lcom/example/vestwright/vestwright/MovementKind;"), (6, .class_ 37), (1, u "java/lang/Enum"), (6, .fieldref 1 45), (0, .nameAndType 46 47), (0, u "keyword"), (0, u "Ljava/lang/String;"), (0, .fieldref 49 50), (0, .class_ 51), (0, .nameAndType 52 53), (0, u "com/example/vestwright/vestwright/MovementKind$1"), (0, u "$SwitchMap$com$example$vestwright$vestwright$CreditKind"), (0, u "[I"), (0, .methodref 55 56), (0, .class_ 57), (0, .nameAndType 58 59), (0, u "com/example/vestwright/vestwright/CreditKind"), (0, u "ordinal"), (0, u "()I"), (11, u "()Ljava/lang/String;"), (25, .class_ 98), (0, u "com/example/vestwright/vestwright/Keyword"), (7, u "of"), (0, u "(Lcom/example/vestwright/vestwright/CreditKind;)Lcom/example/vestwright/vestwright/MovementKind;")] 8

def k8c0 : Code := { maxStack := 1, maxLocals := 1, code := prog_15_method_4_code, exceptionTable := #[], attributes := #[] }
def k8m0 : Method := { name := "keyword", desc := "()Ljava/lang/String;", sig := { parameters := [], returnType := some (.object "java/lang/String") }, accessFlags := 1, code := some k8c0 }
def k8c1 : Code := { maxStack := 4, maxLocals := 1, code := prog_15_method_5_code, exceptionTable := #[], attributes := #[] }
def k8m1 : Method := { name := "of", desc := "(Lcom/example/vestwright/vestwright/CreditKind;)Lcom/example/vestwright/vestwright/MovementKind;", sig := { parameters := [(.object "com/example/vestwright/vestwright/CreditKind")], returnType := some (.object "com/example/vestwright/vestwright/MovementKind") }, accessFlags := 8, code := some k8c1 }
/-- com/example/vestwright/vestwright/MovementKind -/
def k8 : Class := { plain "com/example/vestwright/vestwright/MovementKind" (some 5) with
  accessFlags := 16433
  interfaces := #[6]
  cf := some (fileOf pool8 1 #[.nestMembers #[49]] #[{ accessFlags := 1, nameIndex := 46, descriptorIndex := 71, attributes := #[] }, { accessFlags := 8, nameIndex := 106, descriptorIndex := 107, attributes := #[] }] 16433 35 #[97] #[{ accessFlags := 16409, nameIndex := 5, descriptorIndex := 6, attributes := #[] }, { accessFlags := 16409, nameIndex := 9, descriptorIndex := 6, attributes := #[] }, { accessFlags := 16409, nameIndex := 12, descriptorIndex := 6, attributes := #[] }, { accessFlags := 16409, nameIndex := 15, descriptorIndex := 6, attributes := #[] }, { accessFlags := 16409, nameIndex := 18, descriptorIndex := 6, attributes := #[] }, { accessFlags := 16409, nameIndex := 21, descriptorIndex := 6, attributes := #[] }, { accessFlags := 16409, nameIndex := 24, descriptorIndex := 6, attributes := #[] }, { accessFlags := 18, nameIndex := 46, descriptorIndex := 47, attributes := #[] }, { accessFlags := 4122, nameIndex := 27, descriptorIndex := 28, attributes := #[] }])
  fields := #[{ name := "DEFERRAL", type := (.object "com/example/vestwright/vestwright/MovementKind"), accessFlags := 16409, slot := 0, constantValue := 0 }, { name := "MATCH", type := (.object "com/example/vestwright/vestwright/MovementKind"), accessFlags := 16409, slot := 1, constantValue := 0 }, { name := "EMPLOYER_CONTRIBUTION", type := (.object "com/example/vestwright/vestwright/MovementKind"), accessFlags := 16409, slot := 2, constantValue := 0 }, { name := "PAYMENT", type := (.object "com/example/vestwright/vestwright/MovementKind"), accessFlags := 16409, slot := 3, constantValue := 0 }, { name := "FORFEITURE", type := (.object "com/example/vestwright/vestwright/MovementKind"), accessFlags := 16409, slot := 4, constantValue := 0 }, { name := "JOIN", type := (.object "com/example/vestwright/vestwright/MovementKind"), accessFlags := 16409, slot := 5, constantValue := 0 }, { name := "REALLOCATION", type := (.object "com/example/vestwright/vestwright/MovementKind"), accessFlags := 16409, slot := 6, constantValue := 0 }, { name := "keyword", type := (.object "java/lang/String"), accessFlags := 18, slot := 3, constantValue := 0 }, { name := "$VALUES", type := (.array (.object "com/example/vestwright/vestwright/MovementKind")), accessFlags := 4122, slot := 7, constantValue := 0 }]
  methods := #[k8m0, k8m1]
  instanceTypes := #[(.object "java/lang/String"), .int, .int, (.object "java/lang/String")]
  staticTypes := #[(.object "com/example/vestwright/vestwright/MovementKind"), (.object "com/example/vestwright/vestwright/MovementKind"), (.object "com/example/vestwright/vestwright/MovementKind"), (.object "com/example/vestwright/vestwright/MovementKind"), (.object "com/example/vestwright/vestwright/MovementKind"), (.object "com/example/vestwright/vestwright/MovementKind"), (.object "com/example/vestwright/vestwright/MovementKind"), (.array (.object "com/example/vestwright/vestwright/MovementKind"))]
  resolved := Array.replicate 116 none
  statics := some 1 }

def pool9 : Array CpInfo := pool [(8, .class_ 10), (1, u "com/example/vestwright/vestwright/MovementKind$1"), (0, u "$SwitchMap$com$example$vestwright$vestwright$CreditKind"), (0, u "[I"), (16, .class_ 30), (0, u "java/lang/Object"), (8, .class_ 40), (0, u "com/example/vestwright/vestwright/MovementKind")] 2

/-- com/example/vestwright/vestwright/MovementKind$1 -/
def k9 : Class := { plain "com/example/vestwright/vestwright/MovementKind$1" (some 0) with
  accessFlags := 4128
  interfaces := #[]
  cf := some (fileOf pool9 8 #[.nestHost 39] #[] 4128 29 #[] #[{ accessFlags := 4120, nameIndex := 11, descriptorIndex := 12, attributes := #[] }])
  fields := #[{ name := "$SwitchMap$com$example$vestwright$vestwright$CreditKind", type := (.array .int), accessFlags := 4120, slot := 0, constantValue := 0 }]
  methods := #[]
  instanceTypes := #[]
  staticTypes := #[(.array .int)]
  resolved := Array.replicate 43 none
  statics := some 2 }

def pool10 : Array CpInfo := pool [(2, .class_ 4), (1, u "java/lang/CharSequence"), (42, .class_ 48), (0, u "java/lang/CharSequence$1CodePointIterator"), (10, .class_ 60), (0, u "java/lang/CharSequence$1CharIterator"), (5, .class_ 67), (0, u "java/lang/Object")] 63

/-- java/lang/CharSequence -/
def k10 : Class := { plain "java/lang/CharSequence" (some 0) with
  accessFlags := 1537
  interfaces := #[]
  cf := some (fileOf pool10 2 #[.nestMembers #[47, 59]] #[] 1537 66 #[] #[])
  fields := #[]
  methods := #[]
  instanceTypes := #[]
  staticTypes := #[]
  resolved := Array.replicate 131 none
  statics := none }

def pool11 : Array CpInfo := pool [(1, .class_ 2), (0, u "java/lang/constant/ConstantDesc"), (0, .class_ 4), (0, u "java/lang/Object")] 32

/-- java/lang/constant/ConstantDesc -/
def k11 : Class := { plain "java/lang/constant/ConstantDesc" (some 0) with
  accessFlags := 1537
  interfaces := #[]
  cf := some (fileOf pool11 1 #[] #[] 1537 3 #[] #[])
  fields := #[]
  methods := #[]
  instanceTypes := #[]
  staticTypes := #[]
  resolved := Array.replicate 37 none
  statics := none }

def pool12 : Array CpInfo := pool [(2, .class_ 4), (1, u "java/lang/Object"), (0, u "<init>"), (0, u "()V"), (3, .class_ 12), (1, u "java/lang/String"), (0, u "value"), (0, u "[B"), (2, u "coder"), (0, u "B"), (2, u "hash"), (0, u "I"), (2, u "hashIsZero"), (0, u "Z"), (13, u "COMPACT_STRINGS"), (502, u "equals"), (29, u "(Ljava/lang/Object;)Z"), (1, .class_ 576), (0, u "java/lang/CharSequence"), (22, u "CASE_INSENSITIVE_ORDER"), (0, u "Ljava/util/Comparator;"), (500, u "serialPersistentFields"), (0, u "[Ljava/io/ObjectStreamField;"), (0, .class_ 1104), (0, u "java/lang/String$CaseInsensitiveComparator"), (1, .class_ 1107), (0, u "java/io/Serializable"), (0, .class_ 1109), (0, u "java/lang/Comparable"), (0, .class_ 1111), (0, u "java/lang/constant/Constable"), (0, .class_ 1113), (0, u "java/lang/constant/ConstantDesc"), (2, u "serialVersionUID"), (0, u "J"), (3, u "REPL"), (0, u "C"), (2, u "LATIN1"), (1, u "UTF16")] 323

def k12m0 : Method := { name := "<init>", desc := "()V", sig := { parameters := [], returnType := none }, accessFlags := 1, code := none }
def k12c1 : Code := { maxStack := 2, maxLocals := 3, code := jdk_42_method_66_code, exceptionTable := #[], attributes := #[] }
def k12m1 : Method := { name := "equals", desc := "(Ljava/lang/Object;)Z", sig := { parameters := [(.object "java/lang/Object")], returnType := some .boolean }, accessFlags := 1, code := some k12c1 }
/-- java/lang/String -/
def k12 : Class := { plain "java/lang/String" (some 0) with
  accessFlags := 49
  interfaces := #[4, 3, 10, 2, 11]
  cf := some (fileOf pool12 10 #[.nestMembers #[1103]] #[{ accessFlags := 1, nameIndex := 5, descriptorIndex := 6, attributes := #[] }, { accessFlags := 1, nameIndex := 543, descriptorIndex := 573, attributes := #[] }] 49 2 #[1106, 1108, 575, 1110, 1112] #[{ accessFlags := 18, nameIndex := 13, descriptorIndex := 14, attributes := #[] }, { accessFlags := 18, nameIndex := 17, descriptorIndex := 18, attributes := #[] }, { accessFlags := 2, nameIndex := 21, descriptorIndex := 22, attributes := #[] }, { accessFlags := 2, nameIndex := 25, descriptorIndex := 26, attributes := #[] }, { accessFlags := 26, nameIndex := 1116, descriptorIndex := 1117, attributes := #[] }, { accessFlags := 24, nameIndex := 40, descriptorIndex := 26, attributes := #[] }, { accessFlags := 26, nameIndex := 1101, descriptorIndex := 1102, attributes := #[] }, { accessFlags := 26, nameIndex := 1121, descriptorIndex := 1122, attributes := #[] }, { accessFlags := 25, nameIndex := 599, descriptorIndex := 600, attributes := #[] }, { accessFlags := 24, nameIndex := 1125, descriptorIndex := 18, attributes := #[] }, { accessFlags := 24, nameIndex := 1127, descriptorIndex := 18, attributes := #[] }])
  fields := #[{ name := "value", type := (.array .byte), accessFlags := 18, slot := 0, constantValue := 0 }, { name := "coder", type := .byte, accessFlags := 18, slot := 1, constantValue := 0 }, { name := "hash", type := .int, accessFlags := 2, slot := 2, constantValue := 0 }, { name := "hashIsZero", type := .boolean, accessFlags := 2, slot := 3, constantValue := 0 }, { name := "serialVersionUID", type := .long, accessFlags := 26, slot := 0, constantValue := 0 }, { name := "COMPACT_STRINGS", type := .boolean, accessFlags := 24, slot := 1, constantValue := 0 }, { name := "serialPersistentFields", type := (.array (.object "java/io/ObjectStreamField")), accessFlags := 26, slot := 2, constantValue := 0 }, { name := "REPL", type := .char, accessFlags := 26, slot := 3, constantValue := 0 }, { name := "CASE_INSENSITIVE_ORDER", type := (.object "java/util/Comparator"), accessFlags := 25, slot := 4, constantValue := 0 }, { name := "LATIN1", type := .byte, accessFlags := 24, slot := 5, constantValue := 0 }, { name := "UTF16", type := .byte, accessFlags := 24, slot := 6, constantValue := 0 }]
  methods := #[k12m0, k12m1]
  instanceTypes := #[(.array .byte), .byte, .int, .boolean]
  staticTypes := #[.long, .boolean, (.array (.object "java/io/ObjectStreamField")), .char, (.object "java/util/Comparator"), .byte, .byte]
  resolved := Array.replicate 1451 none
  statics := none }

def pool13 : Array CpInfo := pool [(1, u "java/lang/Cloneable"), (0, .class_ 1), (0, u "java/lang/Object"), (0, .class_ 3)] 3

/-- java/lang/Cloneable -/
def k13 : Class := { plain "java/lang/Cloneable" (some 0) with
  accessFlags := 1537
  interfaces := #[]
  cf := some (fileOf pool13 2 #[] #[] 1537 4 #[] #[])
  fields := #[]
  methods := #[]
  instanceTypes := #[]
  staticTypes := #[]
  resolved := Array.replicate 8 none
  statics := none }

/-- the primitive byte -/
def k14 : Class := { plain "byte" none with kind := .primitive 'B', accessFlags := 0x411 }
/-- [B -/
def k15 : Class := { plain "[B" (some 0) with kind := .array 14 .byte, interfaces := #[13, 4], accessFlags := 1041 }

/-- the primitive int -/
def k16 : Class := { plain "int" none with kind := .primitive 'I', accessFlags := 0x411 }
/-- [I -/
def k17 : Class := { plain "[I" (some 0) with kind := .array 16 .int, interfaces := #[13, 4], accessFlags := 1041 }

def heap : Heap := #[{ cls := 7, slots := #[.ref 4, .ref 7, .ref 10, .null], vm := .statics 7 },
  { cls := 8, slots := #[.ref 5, .ref 8, .ref 11, .null, .null, .null, .null, .null], vm := .statics 8 },
  { cls := 9, slots := #[.ref 12], vm := .statics 9 },
  { cls := 12, slots := #[.null, .int 0, .int 0, .int 0], vm := .none },
  { cls := 7, slots := #[.null, .int 0, .int 0, .ref 3], vm := .none },
  { cls := 8, slots := #[.null, .int 0, .int 0, .ref 3], vm := .none },
  { cls := 12, slots := #[.null, .int 0, .int 0, .int 0], vm := .none },
  { cls := 7, slots := #[.null, .int 1, .int 0, .ref 6], vm := .none },
  { cls := 8, slots := #[.null, .int 1, .int 0, .ref 6], vm := .none },
  { cls := 12, slots := #[.null, .int 0, .int 0, .int 0], vm := .none },
  { cls := 7, slots := #[.null, .int 2, .int 0, .ref 9], vm := .none },
  { cls := 8, slots := #[.null, .int 2, .int 0, .ref 9], vm := .none },
  { cls := 17, slots := #[.int 1, .int 2, .int 3], vm := .none }]
def classes : Array Class := #[k0, k1, k2, k3, k4, k5, k6, k7, k8, k9, k10, k11, k12, k13, k14, k15, k16, k17]
def interned : List (Array UInt16 × Addr) := []
def slotsUsed : Nat := 52
def theMethod : MethodId := ⟨1, 1⟩
def args0 : Array Value := #[.int 5]
def aboutOver (below : List Frame) : State where
  vm := { classes := classes, interned := interned.toArray }
  heap := heap
  slotsUsed := slotsUsed
  threads := #[{ frames := .invoking theMethod args0 :: below }]
def below0 : List Frame := [.native { method := ⟨0, 0⟩, args := #[] }]
def about1 : State := aboutOver below0
def p0 : Program := .bare "" "" ""
def e0 : Env := launch0.env 0 0 0
theorem w_frames : about1.frames = Frame.invoking theMethod args0 :: below0 := rfl
set_option maxRecDepth 65536 in
theorem w_args : argsFit about1.vm theMethod args0 = true := by decide +kernel
set_option maxRecDepth 65536 in
theorem w_heap : heapFits about1 = true := by decide +kernel
set_option maxRecDepth 65536 in
theorem w_runnable : about1.curStatus? = some .runnable := by decide +kernel
set_option maxRecDepth 65536 in
theorem w_alone : about1.alone = true := by decide +kernel
set_option maxRecDepth 65536 in
theorem w_named : about1.methodNamed? x = some theMethod := by decide +kernel
set_option maxRecDepth 65536 in
theorem w_hears : about1.hears theMethod below0 = true := by decide +kernel
set_option maxRecDepth 65536 in
theorem w_ripe : about1.ripe theMethod args0 below0 = true := by decide +kernel
theorem w_running : about1.status = .running := rfl
set_option maxRecDepth 65536 in
theorem w_room : about1.hasRoom e0.platform room_1 = true :=
  launch0.hasRoom_least _ room_1 (by decide +kernel) (by decide +kernel) (by decide +kernel) (by decide +kernel) (by decide +kernel) (by decide +kernel)
theorem allAtoms_all (ts : List Jvm.Cond) (a : Array Jvm.Value) (st : Jvm.State) : (allAtoms ts).before a st = ts.all (fun c => c.before a st) := by
  induction ts with
  | nil => rfl
  | cons c t ih =>
    show (Jvm.Cond.and c (allAtoms t)).before a st = _
    rw [Jvm.Cond.before_and, ih, List.all_cons]
def words1 : List Jvm.Cond := Jvm.Cond.code x code maxLocals ret :: tables_1
/-- a 'code' word, met by the world's own term for the bytes: nothing is compared byte by byte -/
theorem code_word {y : MethodName} {bytes : ByteArray} {mx : Nat} {rt : Option FieldType} {a : Array Value} {s : State} {m : MethodId} {meth : Method} {c : Code} (h1 : s.methodNamed? y = some m) (h2 : s.vm.method? m = some meth) (h3 : meth.code = some c) (h4 : c.code = bytes)
    (h5 : (c.maxLocals == mx && c.exceptionTable.isEmpty && decide (c.maxStack ≤ mostOperands) && decide (meth.sig.returnType = rt) && !meth.locks && decide (parseMethodDescriptor y.desc = some meth.sig)) = true) : (Jvm.Cond.code y bytes mx rt).before a s = true := by
  simp only [Bool.and_eq_true, beq_iff_eq, Bool.not_eq_true', decide_eq_true_eq] at h5
  obtain ⟨⟨⟨⟨⟨g1, g2⟩, g3⟩, g4⟩, g5⟩, g6⟩ := h5
  simp [Cond.before, Cond.holds, Cond.value, h1, h2, h3, h4, g1, g2, g3, g4, g5, g6]
def isCode : Jvm.Cond → Bool
  | .code _ _ _ _ => true
  | _ => false
theorem all_split {L : List Jvm.Cond} {P : Jvm.Cond → Bool} (h1 : L.all (fun c => isCode c || P c) = true) (h2 : ∀ c ∈ L.filter isCode, P c = true) : L.all P = true := by
  refine List.all_eq_true.mpr fun c hc => ?_
  have h := List.all_eq_true.mp h1 c hc
  rcases Bool.eq_false_or_eq_true (isCode c) with hi | hi
  · exact h2 c (List.mem_filter.mpr ⟨hc, hi⟩)
  · simpa [hi] using h
set_option maxRecDepth 65536 in
theorem w_c0 : (Jvm.Cond.code x code maxLocals ret).before args0 about1 = true := code_word (m := ⟨1, 1⟩) (meth := k1m1) (c := k1c1) (by decide +kernel) rfl rfl rfl (by decide +kernel)
set_option maxRecDepth 65536 in
theorem w_c1 : (Jvm.Cond.code ({ cls := "com/example/vestwright/vestwright/MovementKind", name := "of", desc := "(Lcom/example/vestwright/vestwright/CreditKind;)Lcom/example/vestwright/vestwright/MovementKind;" } : Jvm.MethodName) prog_15_method_5_code (1 : Nat) (Option.some (Jvm.ClassFile.FieldType.object "com/example/vestwright/vestwright/MovementKind"))).before args0 about1 = true := code_word (m := ⟨8, 1⟩) (meth := k8m1) (c := k8c1) (by decide +kernel) rfl rfl rfl (by decide +kernel)
set_option maxRecDepth 65536 in
theorem w_c2 : (Jvm.Cond.code ({ cls := "java/lang/Enum", name := "ordinal", desc := "()I" } : Jvm.MethodName) jdk_37_method_2_code (1 : Nat) (Option.some Jvm.ClassFile.FieldType.int)).before args0 about1 = true := code_word (m := ⟨5, 0⟩) (meth := k5m0) (c := k5c0) (by decide +kernel) rfl rfl rfl (by decide +kernel)
set_option maxRecDepth 65536 in
theorem w_c3 : (Jvm.Cond.code ({ cls := "com/example/vestwright/vestwright/MovementKind", name := "keyword", desc := "()Ljava/lang/String;" } : Jvm.MethodName) prog_15_method_4_code (1 : Nat) (Option.some (Jvm.ClassFile.FieldType.object "java/lang/String"))).before args0 about1 = true := code_word (m := ⟨8, 0⟩) (meth := k8m0) (c := k8c0) (by decide +kernel) rfl rfl rfl (by decide +kernel)
set_option maxRecDepth 65536 in
theorem w_c4 : (Jvm.Cond.code ({ cls := "com/example/vestwright/vestwright/CreditKind", name := "keyword", desc := "()Ljava/lang/String;" } : Jvm.MethodName) prog_1_method_4_code (1 : Nat) (Option.some (Jvm.ClassFile.FieldType.object "java/lang/String"))).before args0 about1 = true := code_word (m := ⟨7, 0⟩) (meth := k7m0) (c := k7c0) (by decide +kernel) rfl rfl rfl (by decide +kernel)
set_option maxRecDepth 65536 in
theorem w_c5 : (Jvm.Cond.code ({ cls := "java/lang/String", name := "equals", desc := "(Ljava/lang/Object;)Z" } : Jvm.MethodName) jdk_42_method_66_code (3 : Nat) (Option.some Jvm.ClassFile.FieldType.boolean)).before args0 about1 = true := code_word (m := ⟨12, 1⟩) (meth := k12m1) (c := k12c1) (by decide +kernel) rfl rfl rfl (by decide +kernel)
def codes1 : List Jvm.Cond := [Jvm.Cond.code x code maxLocals ret, Jvm.Cond.code ({ cls := "com/example/vestwright/vestwright/MovementKind", name := "of", desc := "(Lcom/example/vestwright/vestwright/CreditKind;)Lcom/example/vestwright/vestwright/MovementKind;" } : Jvm.MethodName) prog_15_method_5_code (1 : Nat) (Option.some (Jvm.ClassFile.FieldType.object "com/example/vestwright/vestwright/MovementKind")), Jvm.Cond.code ({ cls := "java/lang/Enum", name := "ordinal", desc := "()I" } : Jvm.MethodName) jdk_37_method_2_code (1 : Nat) (Option.some Jvm.ClassFile.FieldType.int), Jvm.Cond.code ({ cls := "com/example/vestwright/vestwright/MovementKind", name := "keyword", desc := "()Ljava/lang/String;" } : Jvm.MethodName) prog_15_method_4_code (1 : Nat) (Option.some (Jvm.ClassFile.FieldType.object "java/lang/String")), Jvm.Cond.code ({ cls := "com/example/vestwright/vestwright/CreditKind", name := "keyword", desc := "()Ljava/lang/String;" } : Jvm.MethodName) prog_1_method_4_code (1 : Nat) (Option.some (Jvm.ClassFile.FieldType.object "java/lang/String")), Jvm.Cond.code ({ cls := "java/lang/String", name := "equals", desc := "(Ljava/lang/Object;)Z" } : Jvm.MethodName) jdk_42_method_66_code (3 : Nat) (Option.some Jvm.ClassFile.FieldType.boolean)]
set_option maxRecDepth 65536 in
theorem codes_eq : words1.filter isCode = codes1 := rfl
theorem w_codes : ∀ c ∈ words1.filter isCode, c.before args0 about1 = true := by
  rw [codes_eq]
  intro c hc
  simp only [codes1, List.mem_cons, List.not_mem_nil, or_false] at hc
  rcases hc with rfl | rfl | rfl | rfl | rfl | rfl
  · exact w_c0
  · exact w_c1
  · exact w_c2
  · exact w_c3
  · exact w_c4
  · exact w_c5
set_option maxRecDepth 65536 in
theorem w_t1 : (words1.take 24).all (fun c => isCode c || c.before args0 about1) = true := by decide +kernel
set_option maxRecDepth 65536 in
theorem w_t2 : ((words1.drop 24).take 24).all (fun c => isCode c || c.before args0 about1) = true := by decide +kernel
set_option maxRecDepth 65536 in
theorem w_t3 : ((words1.drop 24).drop 24).all (fun c => isCode c || c.before args0 about1) = true := by decide +kernel
theorem w_tables : (allAtoms (Jvm.Cond.code x code maxLocals ret :: tables_1)).before args0 about1 = true := by
  rw [allAtoms_all]
  show words1.all (fun c => c.before args0 about1) = true
  refine all_split ?_ w_codes
  rw [← List.take_append_drop 24 words1, List.all_append, w_t1, ← List.take_append_drop 24 (words1.drop 24), List.all_append, w_t2, w_t3]
  rfl
set_option maxRecDepth 65536 in
theorem w_case : (Jvm.Cond.and given_1 narrow_1).before args0 about1 = true := by decide +kernel
theorem w_applies : (headSpec (Jvm.Cond.code x code maxLocals ret :: tables_1) room_1).applies x e0.platform about1 = true :=
  (Spec.applies_iff w_frames).mpr ⟨w_running, w_runnable, w_alone, w_named, w_hears, w_ripe, w_room, w_tables⟩
theorem atStart : AtStart classFile x code maxLocals ret World_1 tables_1 room_1 Calls_1 rest_1 Pre_1 launch0 p0 e0 about1 theMethod args0 below0 :=
  ⟨lists_1, trivial, launch0.admits_env _ _ _, launch0.least_env, fairChoices_fair.cas, fairChoices_fair.clock, w_frames, w_args, w_heap, w_applies, trivial, trivial, w_case⟩
end start1
theorem witness_1 : WitnessClaimed_1 := ⟨start1.p0, start1.e0, start1.about1, start1.theMethod, start1.args0, start1.below0, start1.atStart⟩
end Jvm.Pilot.@@N@@

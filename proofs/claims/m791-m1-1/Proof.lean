import JvmDerived
import JvmDerived.Pilot.@@N@@Statement
import JvmDerived.Pilot.@@N@@Code
set_option linter.unusedVariables false
set_option linter.unusedSimpArgs false
namespace Jvm.Pilot.@@N@@
open Jvm Jvm.ClassFile Sem Op Lib Jvm.Free Jvm.Stand Jvm.LawKit Jvm.RoadKit Bundle Jvm.Pilot.@@N@@.Jvm.D
theorem hwk {ts : List Jvm.Cond} {a0 : Array Value} {Z : State} (hw : ∀ d ∈ ts, d.before a0 Z = true) (i : Nat) {d : Jvm.Cond} (h : ts[i]? = some d) : d.before a0 Z = true := hw d (List.mem_of_getElem? h)
theorem old_le {Z : State} {n0 : Nat} {h : Heap} (O : Old Z n0 h) : n0 ≤ h.size := O.1 ▸ O.2.1
theorem narrow_refV {t : FieldType} {v : Value} (ht : t.isReference = true) (hv : v.isRef = true) : narrow t v = v := by rcases ref_cases hv with rfl | ⟨a, rfl⟩ <;> cases t <;> first | rfl | cases ht
theorem fits_refV {t : FieldType} {v : Value} (ht : t.isReference = true) (hv : v.isRef = true) : fits t v = true := by rcases ref_cases hv with rfl | ⟨a, rfl⟩ <;> cases t <;> first | rfl | cases ht
def SameStand {p : Program} {l : Launch} {e : Env} {R : Room} {s : State} {m : MethodId} {args : Array Value} {below : List Frame} {meth : Method} {c : Code} {T : State} {locs : List Loc} {cells slots : Nat} (_ : Stand p l e R s m args below meth c T locs cells slots) (T' : State) : Prop := Stand p l e R s m args below meth c T' locs cells slots
def WideStand {p : Program} {l : Launch} {e : Env} {R : Room} {s : State} {m : MethodId} {args : Array Value} {below : List Frame} {meth : Method} {c : Code} {T : State} {locs : List Loc} {cells slots : Nat} (_ : Stand p l e R s m args below meth c T locs cells slots) (s' T' : State) (dc ds : Nat) : Prop := Stand p l e R s' m args below meth c T' locs (cells + dc) (slots + ds)
def JoinStand {p : Program} {l : Launch} {e : Env} {R : Room} {s : State} {m : MethodId} {args : Array Value} {below : List Frame} {meth : Method} {c : Code} {T : State} {locs : List Loc} {cells slots : Nat} (_ : Stand p l e R s m args below meth c T locs cells slots) (s' T' : State) (L' : List Loc) (dc ds : Nat) : Prop := Stand p l e R s' m args below meth c T' (locs ++ L') (cells + dc) (slots + ds)
theorem own_jn {p : Program} {l : Launch} {e : Env} {R : Room} {s : State} {m : MethodId} {args : Array Value} {below : List Frame} {meth : Method} {c : Code} {T : State} {locs : List Loc} {cells slots : Nat} (X : Stand p l e R s m args below meth c T locs cells slots) : Stand p l e R s m args below meth c T (locs ++ []) cells slots := by rw [List.append_nil]; exact X
theorem own_ext {h h' h'' : Heap} (a : Ext h h') (b : Ext h' h'') : Ext h h'' := ⟨Nat.le_trans a.1 b.1, fun x c q => b.2 x c (a.2 x c q)⟩
theorem own_ite {c : Prop} [Decidable c] {a b : Value} (ha : a.isRef = true) (hb : b.isRef = true) : (if c then a else b).isRef = true := by split <;> assumption
theorem own_eqI {args : Array Value} {s : State} {a b : Term} {n : Int32} (h : (Jvm.Cond.eq a b).value args s none s [] = some true) (hb : b.eval args s none [] s = some (.int n)) : a.eval args s none [] s = some (.int n) := by
  obtain ⟨x, y, h1, h2, h3, h4⟩ := cmp_v (Or.inl h)
  cases h2.symm.trans hb
  obtain ⟨z, rfl⟩ := h4
  have q := gotT (Jvm.Cond.eq_ints h1 hb) h
  rw [h1, q]
theorem own_eqR {args : Array Value} {s : State} {a b : Term} {x y : Value} (h : (Jvm.Cond.eq a b).value args s none s [] = some true) (ha : a.eval args s none [] s = some x) (hb : b.eval args s none [] s = some y) (hx : x.isRef = true) (hy : y.isRef = true) : x = y := gotT (eq_R ha hb hx hy) h
theorem own_neR {args : Array Value} {s : State} {a b : Term} {x y : Value} (h : (Jvm.Cond.not (Jvm.Cond.eq a b)).value args s none s [] = some true) (ha : a.eval args s none [] s = some x) (hb : b.eval args s none [] s = some y) (hx : x.isRef = true) (hy : y.isRef = true) : ¬ x = y := gotF (eq_R ha hb hx hy) (not_v h)
theorem own_str {a0 : Array Value} {Z : State} (hw : ∀ d ∈ tables_1, d.before a0 Z = true) : ∀ a ∈ Bundle.stringAtoms, a.before a0 Z = true := fun a ha => by
  simp only [Bundle.stringAtoms, List.mem_cons, List.not_mem_nil, or_false] at ha
  rcases ha with rfl | rfl | rfl | rfl | rfl | rfl | rfl
  · exact (hwk hw 19 rfl)
  · exact (hwk hw 20 rfl)
  · exact (hwk hw 21 rfl)
  · exact (hwk hw 22 rfl)
  · exact (hwk hw 23 rfl)
  · exact (hwk hw 24 rfl)
  · exact (hwk hw 25 rfl)

theorem own_rem (x m : Int32) (hm : (0 : Int32) < m) : ¬ ((x &&& (2147483647 : Int32)) % m) < (0 : Int32) ∧ ((x &&& (2147483647 : Int32)) % m) < m := by
  have h1 := (c_and x (2147483647 : Int32) (by decide)).1
  rw [Int32.lt_iff_toInt_lt] at hm ⊢
  rw [Int32.lt_iff_toInt_lt]
  have e0 : (0 : Int32).toInt = 0 := by decide
  rw [e0] at hm ⊢
  have h2 := (c_iremV (x &&& (2147483647 : Int32)) m).1 h1 hm
  omega

theorem ef_rm2 (m : MethodId) (x0 : Addr) : entryFrame m #[(.ref x0)] 1 = mkF m 0 #[.val (.ref x0)] [] := by first | (simp [entryFrame, mkF, argsToLocals, Value.category]; done) | rfl
def Q_rm2 (Z : State) (a1 : Addr) (h0 : Heap) (n0 : Nat) (v : Option Value) (h : Heap) (L : List Loc) : Prop := (v = none) ∧ (Fr n0 L) ∧ (h = h0)
theorem pn_0 : plainName "java/lang/Record" = true := by first | (simp [plainName, overriddenIn]; done) | decide +kernel
theorem d2_0 : decode jdk_30_method_1_code 0 = .ok (.aload_n 0, 1) := by decide +kernel
theorem d2_1 : decode jdk_30_method_1_code 1 = .ok (.invokespecial 1, 3) := by decide +kernel
theorem d2_4 : decode jdk_30_method_1_code 4 = .ok (.return_, 1) := by decide +kernel
set_option maxRecDepth 65536 in
set_option maxHeartbeats 40000000 in
theorem rm2 (l : Launch) (Z : State) (a0 : Array Value) (hw : ∀ d ∈ tables_1, d.before a0 Z = true) (ws : List Jvm.Cond) (a1 : Addr) (h0 : Heap) (n0 : Nat) (O0 : Old Z n0 h0)  :
    MetFree l (⟨"java/lang/Record", "<init>", "()V"⟩ : MethodName) (head1 (Jvm.Cond.code (⟨"java/lang/Record", "<init>", "()V"⟩ : MethodName) jdk_30_method_1_code 1 none :: ws) ({ frames := 1, cells := 0, slots := 0, locals := 12 } : Room)) (fun a U => a = #[(.ref a1)] ∧ Z.Warmed39 U.vm ∧ U.heap = h0) (fun _ _ _ _ _ => True) (fun _ U o U' => ∃ v L, o = .returned v ∧ Q_rm2 Z a1 h0 n0 v U'.heap L ∧ FrameEnd U o U' L ({ frames := 1, cells := 0, slots := 0, locals := 12 } : Room).cells ({ frames := 1, cells := 0, slots := 0, locals := 12 } : Room).slots) := by
  refine MetFree.of_bodySF (plainFor_of_name pn_0) hisR ?_
  intro p e s m args below meth c s₁ Bd hml0 hP hK
  obtain ⟨rfl, hZ, hh⟩ := hP
  have hx := Bd.exec
  have hby := Bd.bytes
  have hml : c.maxLocals = 1 := hml0
  have hown : s.vm.findClass "java/lang/Record" = some m.cls := findClass_of_methodNamed Bd.named
  have hnm := (name_of_methodNamed Bd.named Bd.method).1
  have X0 : Stand p l e ({ frames := 1, cells := 0, slots := 0, locals := 12 } : Room) s m #[(.ref a1)] below meth c s₁ [] 0 0 := Stand.of_body Bd
  have e0 : s₁.heap = h0 := by rw [← hh, Bd.state]; rfl
  have N0 := Fr.nil n0
  have Z0 : n0 ≤ h0.size := old_le O0
  have pre0 : ∀ t, Steps p.tables e below (s₁.setTop (mkF m 0 #[.val (.ref a1)] [])) t → Steps p.tables e below (s₁.setTop (entryFrame m #[(.ref a1)] 1)) t := fun t k => castTop (ef_rm2 m a1) k
  obtain ⟨T101, X101, e101, st101⟩ := initO X0 hx hZ hown (hwk hw 15 rfl) (hwk hw 16 rfl) (hwk hw 17 rfl) e0 (g := (mkF m 1 #[.val (.ref a1)] [(.ref a1)])) rfl (by rw [hml]; rfl) rfl (hb hby d2_1) (by decide) (W := 0) (by show 2 * 0 + _ ≤ _; exact Nat.le_of_eq rfl) (by decide)
  obtain ⟨fs, hr, hrun, hended, hW, hsame⟩ := X101.leave (v := none) (fun _ => rfl)
  refine ⟨_, _, pre0 _ ?_, hrun, hended, _, _, rfl, ?_, ⟨_, rfl⟩, hW, hsame.mono (by decide) (by decide)⟩
  · show Steps p.tables e below (s₁.setTop (mkF m 0 #[.val (.ref a1)] [])) _
    refine XS.aloadN X0.here hx rfl (hb hby d2_0) rfl rfl ?_
    show Steps p.tables e below (s₁.setTop (mkF m 1 #[.val (.ref a1)] [(.ref a1)])) _
    refine st101 _ ?_
    show Steps p.tables e below (T101.setTop (mkF m 4 #[.val (.ref a1)] [])) _
    exact X101.returnOut hx Bd.returns (hb hby d2_4) hr
  · show Q_rm2 Z a1 h0 n0 _ T101.heap _
    rw [e101]
    unfold Q_rm2
    exact ⟨rfl, N0, rfl⟩
theorem ef_rm4 (m : MethodId) (x0 : Addr) (x1 : Addr) : entryFrame m #[(.ref x0), (.ref x1)] 2 = mkF m 0 #[.val (.ref x0), .val (.ref x1)] [] := by first | (simp [entryFrame, mkF, argsToLocals, Value.category]; done) | rfl
def Q_rm4 (Z : State) (a1 : Addr) (a2 : Addr) (h0 : Heap) (n0 : Nat) (v : Option Value) (h : Heap) (L : List Loc) : Prop := (v = some (.ref a1)) ∧ (Fr n0 L) ∧ (h = h0)
theorem pn_1 : plainName "java/util/Objects" = true := by first | (simp [plainName, overriddenIn]; done) | decide +kernel
theorem d4_0 : decode jdk_31_method_11_code 0 = .ok (.aload_n 0, 1) := by decide +kernel
theorem d4_1 : decode jdk_31_method_11_code 1 = .ok (.ifnonnull 12, 3) := by decide +kernel
theorem d4_13 : decode jdk_31_method_11_code 13 = .ok (.aload_n 0, 1) := by decide +kernel
theorem d4_14 : decode jdk_31_method_11_code 14 = .ok (.areturn, 1) := by decide +kernel
set_option maxRecDepth 65536 in
set_option maxHeartbeats 40000000 in
theorem rm4 (l : Launch) (Z : State) (a0 : Array Value) (hw : ∀ d ∈ tables_1, d.before a0 Z = true) (ws : List Jvm.Cond) (a1 : Addr) (a2 : Addr) (h0 : Heap) (n0 : Nat) (O0 : Old Z n0 h0)  :
    MetFree l (⟨"java/util/Objects", "requireNonNull", "(Ljava/lang/Object;Ljava/lang/String;)Ljava/lang/Object;"⟩ : MethodName) (head1 (Jvm.Cond.code (⟨"java/util/Objects", "requireNonNull", "(Ljava/lang/Object;Ljava/lang/String;)Ljava/lang/Object;"⟩ : MethodName) jdk_31_method_11_code 2 (some (.object "java/lang/Object")) :: ws) ({ frames := 0, cells := 0, slots := 0, locals := 0 } : Room)) (fun a U => a = #[(.ref a1), (.ref a2)] ∧ Z.Warmed39 U.vm ∧ U.heap = h0) (fun _ _ _ _ _ => True) (fun _ U o U' => ∃ v L, o = .returned v ∧ Q_rm4 Z a1 a2 h0 n0 v U'.heap L ∧ FrameEnd U o U' L ({ frames := 0, cells := 0, slots := 0, locals := 0 } : Room).cells ({ frames := 0, cells := 0, slots := 0, locals := 0 } : Room).slots) := by
  refine MetFree.of_bodySF (plainFor_of_name pn_1) hisR ?_
  intro p e s m args below meth c s₁ Bd hml0 hP hK
  obtain ⟨rfl, hZ, hh⟩ := hP
  have hx := Bd.exec
  have hby := Bd.bytes
  have hml : c.maxLocals = 2 := hml0
  have hown : s.vm.findClass "java/util/Objects" = some m.cls := findClass_of_methodNamed Bd.named
  have hnm := (name_of_methodNamed Bd.named Bd.method).1
  have X0 : Stand p l e ({ frames := 0, cells := 0, slots := 0, locals := 0 } : Room) s m #[(.ref a1), (.ref a2)] below meth c s₁ [] 0 0 := Stand.of_body Bd
  have e0 : s₁.heap = h0 := by rw [← hh, Bd.state]; rfl
  have N0 := Fr.nil n0
  have Z0 : n0 ≤ h0.size := old_le O0
  have pre0 : ∀ t, Steps p.tables e below (s₁.setTop (mkF m 0 #[.val (.ref a1), .val (.ref a2)] [])) t → Steps p.tables e below (s₁.setTop (entryFrame m #[(.ref a1), (.ref a2)] 2)) t := fun t k => castTop (ef_rm4 m a1 a2) k
  obtain ⟨fs, hr, hrun, hended, hW, hsame⟩ := X0.leave (v := some (.ref a1)) (fun h => by rw [Bd.returns] at h; cases h)
  refine ⟨_, _, pre0 _ ?_, hrun, hended, _, _, rfl, ?_, ⟨_, rfl⟩, hW, hsame.mono (by decide) (by decide)⟩
  · show Steps p.tables e below (s₁.setTop (mkF m 0 #[.val (.ref a1), .val (.ref a2)] [])) _
    refine XS.aloadN X0.here hx rfl (hb hby d4_0) rfl rfl ?_
    show Steps p.tables e below (s₁.setTop (mkF m 1 #[.val (.ref a1), .val (.ref a2)] [(.ref a1)])) _
    refine XS.ifnonnullYes X0.here hx rfl (pc0 := 1) (pc' := 13) rfl (hb hby d4_1) rfl (by decide) (by decide) ?_
    show Steps p.tables e below (s₁.setTop (mkF m 13 #[.val (.ref a1), .val (.ref a2)] [])) _
    refine XS.aloadN X0.here hx rfl (hb hby d4_13) rfl rfl ?_
    show Steps p.tables e below (s₁.setTop (mkF m 14 #[.val (.ref a1), .val (.ref a2)] [(.ref a1)])) _
    exact Jvm.RoadKit.retOut X0 hx Bd.returns rfl (Or.inr (Or.inr (Or.inr (Or.inr ⟨rfl, rfl, rfl⟩)))) (hb hby d4_14) hr
  · show Q_rm4 Z a1 a2 h0 n0 _ s₁.heap _
    rw [e0]
    unfold Q_rm4
    exact ⟨rfl, N0, rfl⟩
theorem ef_rm5 (m : MethodId) (x0 : Addr) : entryFrame m #[(.ref x0)] 1 = mkF m 0 #[.val (.ref x0)] [] := by first | (simp [entryFrame, mkF, argsToLocals, Value.category]; done) | rfl
def Q_rm5 (Z : State) (a1 : Addr) (r1 : Addr) (h0 : Heap) (n0 : Nat) (v : Option Value) (h : Heap) (L : List Loc) : Prop := (v = some (.ref r1)) ∧ (Fr n0 L) ∧ (h = h0)
theorem pn_2 : plainName "com/example/syndex/syndex/Agency" = true := by first | (simp [plainName, overriddenIn]; done) | decide +kernel
theorem d5_0 : decode prog_3_method_6_code 0 = .ok (.aload_n 0, 1) := by decide +kernel
theorem d5_1 : decode prog_3_method_6_code 1 = .ok (.getfield 36, 3) := by decide +kernel
theorem d5_4 : decode prog_3_method_6_code 4 = .ok (.areturn, 1) := by decide +kernel
set_option maxRecDepth 65536 in
set_option maxHeartbeats 40000000 in
theorem rm5 (l : Launch) (Z : State) (a0 : Array Value) (hw : ∀ d ∈ tables_1, d.before a0 Z = true) (ws : List Jvm.Cond) (a1 : Addr) (r1 : Addr) (h0 : Heap) (n0 : Nat) (O0 : Old Z n0 h0) (F1 : Fld Z Z.heap a1 "com/example/syndex/syndex/Agency" "scale" "Ljava/util/List;" (.ref r1)) :
    MetFree l (⟨"com/example/syndex/syndex/Agency", "scale", "()Ljava/util/List;"⟩ : MethodName) (head1 (Jvm.Cond.code (⟨"com/example/syndex/syndex/Agency", "scale", "()Ljava/util/List;"⟩ : MethodName) prog_3_method_6_code 1 (some (.object "java/util/List")) :: ws) ({ frames := 0, cells := 0, slots := 0, locals := 0 } : Room)) (fun a U => a = #[(.ref a1)] ∧ Z.Warmed39 U.vm ∧ U.heap = h0) (fun _ _ _ _ _ => True) (fun _ U o U' => ∃ v L, o = .returned v ∧ Q_rm5 Z a1 r1 h0 n0 v U'.heap L ∧ FrameEnd U o U' L ({ frames := 0, cells := 0, slots := 0, locals := 0 } : Room).cells ({ frames := 0, cells := 0, slots := 0, locals := 0 } : Room).slots) := by
  refine MetFree.of_bodySF (plainFor_of_name pn_2) hisR ?_
  intro p e s m args below meth c s₁ Bd hml0 hP hK
  obtain ⟨rfl, hZ, hh⟩ := hP
  have hx := Bd.exec
  have hby := Bd.bytes
  have hml : c.maxLocals = 1 := hml0
  have hown : s.vm.findClass "com/example/syndex/syndex/Agency" = some m.cls := findClass_of_methodNamed Bd.named
  have hnm := (name_of_methodNamed Bd.named Bd.method).1
  have X0 : Stand p l e ({ frames := 0, cells := 0, slots := 0, locals := 0 } : Room) s m #[(.ref a1)] below meth c s₁ [] 0 0 := Stand.of_body Bd
  have e0 : s₁.heap = h0 := by rw [← hh, Bd.state]; rfl
  have N0 := Fr.nil n0
  have Z0 : n0 ≤ h0.size := old_le O0
  have pre0 : ∀ t, Steps p.tables e below (s₁.setTop (mkF m 0 #[.val (.ref a1)] [])) t → Steps p.tables e below (s₁.setTop (entryFrame m #[(.ref a1)] 1)) t := fun t k => castTop (ef_rm5 m a1) k
  have c101 : Fld Z h0 a1 "com/example/syndex/syndex/Agency" "scale" "Ljava/util/List;" (.ref r1) := Fld.ext (O0).2 F1
  obtain ⟨T102, X102, e102, st102⟩ := getF X0 hx hZ hown (host := "") (Or.inl (hwk hw 35 rfl)) Via.refl e0 c101 (g := (mkF m 1 #[.val (.ref a1)] [(.ref a1)])) rfl rfl (hb hby d5_1)
  obtain ⟨fs, hr, hrun, hended, hW, hsame⟩ := X102.leave (v := some (.ref r1)) (fun h => by rw [Bd.returns] at h; cases h)
  refine ⟨_, _, pre0 _ ?_, hrun, hended, _, _, rfl, ?_, ⟨_, rfl⟩, hW, hsame.mono (by decide) (by decide)⟩
  · show Steps p.tables e below (s₁.setTop (mkF m 0 #[.val (.ref a1)] [])) _
    refine XS.aloadN X0.here hx rfl (hb hby d5_0) rfl rfl ?_
    show Steps p.tables e below (s₁.setTop (mkF m 1 #[.val (.ref a1)] [(.ref a1)])) _
    refine st102 _ ?_
    show Steps p.tables e below (T102.setTop (mkF m 4 #[.val (.ref a1)] [(.ref r1)])) _
    exact Jvm.RoadKit.retOut X102 hx Bd.returns rfl (Or.inr (Or.inr (Or.inr (Or.inr ⟨rfl, rfl, rfl⟩)))) (hb hby d5_4) hr
  · show Q_rm5 Z a1 r1 h0 n0 _ T102.heap _
    rw [e102]
    unfold Q_rm5
    exact ⟨rfl, N0, rfl⟩
theorem ef_rm6 (m : MethodId) (x0 : Addr) : entryFrame m #[(.ref x0)] 1 = mkF m 0 #[.val (.ref x0)] [] := by first | (simp [entryFrame, mkF, argsToLocals, Value.category]; done) | rfl
def Q_rm6 (Z : State) (a1 : Addr) (e1 : Addr) (k1 : ClassId) (n1 : Int32) (vs1 : List Value) (h0 : Heap) (n0 : Nat) (v : Option Value) (h : Heap) (L : List Loc) : Prop := (v = some (.int n1)) ∧ (Fr n0 L) ∧ (h = h0)
theorem pn_3 : plainName "java/util/ImmutableCollections$ListN" = true := by first | (simp [plainName, overriddenIn]; done) | decide +kernel
theorem d6_0 : decode jdk_45_method_3_code 0 = .ok (.aload_n 0, 1) := by decide +kernel
theorem d6_1 : decode jdk_45_method_3_code 1 = .ok (.getfield 7, 3) := by decide +kernel
theorem d6_4 : decode jdk_45_method_3_code 4 = .ok (.arraylength, 1) := by decide +kernel
theorem d6_5 : decode jdk_45_method_3_code 5 = .ok (.ireturn, 1) := by decide +kernel
set_option maxRecDepth 65536 in
set_option maxHeartbeats 40000000 in
theorem rm6 (l : Launch) (Z : State) (a0 : Array Value) (hw : ∀ d ∈ tables_1, d.before a0 Z = true) (ws : List Jvm.Cond) (a1 : Addr) (e1 : Addr) (k1 : ClassId) (n1 : Int32) (vs1 : List Value) (h0 : Heap) (n0 : Nat) (O0 : Old Z n0 h0) (F2 : Fld Z Z.heap a1 "java/util/ImmutableCollections$ListN" "elements" "[Ljava/lang/Object;" (.ref e1)) (V2 : Arv Z Z.heap e1 k1 (.object "java/lang/Object") n1 vs1 .null) :
    MetFree l (⟨"java/util/ImmutableCollections$ListN", "size", "()I"⟩ : MethodName) (head1 (Jvm.Cond.code (⟨"java/util/ImmutableCollections$ListN", "size", "()I"⟩ : MethodName) jdk_45_method_3_code 1 (some .int) :: ws) ({ frames := 0, cells := 0, slots := 0, locals := 0 } : Room)) (fun a U => a = #[(.ref a1)] ∧ Z.Warmed39 U.vm ∧ U.heap = h0) (fun _ _ _ _ _ => True) (fun _ U o U' => ∃ v L, o = .returned v ∧ Q_rm6 Z a1 e1 k1 n1 vs1 h0 n0 v U'.heap L ∧ FrameEnd U o U' L ({ frames := 0, cells := 0, slots := 0, locals := 0 } : Room).cells ({ frames := 0, cells := 0, slots := 0, locals := 0 } : Room).slots) := by
  refine MetFree.of_bodySF (plainFor_of_name pn_3) hisR ?_
  intro p e s m args below meth c s₁ Bd hml0 hP hK
  obtain ⟨rfl, hZ, hh⟩ := hP
  have hx := Bd.exec
  have hby := Bd.bytes
  have hml : c.maxLocals = 1 := hml0
  have hown : s.vm.findClass "java/util/ImmutableCollections$ListN" = some m.cls := findClass_of_methodNamed Bd.named
  have hnm := (name_of_methodNamed Bd.named Bd.method).1
  have X0 : Stand p l e ({ frames := 0, cells := 0, slots := 0, locals := 0 } : Room) s m #[(.ref a1)] below meth c s₁ [] 0 0 := Stand.of_body Bd
  have e0 : s₁.heap = h0 := by rw [← hh, Bd.state]; rfl
  have N0 := Fr.nil n0
  have Z0 : n0 ≤ h0.size := old_le O0
  have pre0 : ∀ t, Steps p.tables e below (s₁.setTop (mkF m 0 #[.val (.ref a1)] [])) t → Steps p.tables e below (s₁.setTop (entryFrame m #[(.ref a1)] 1)) t := fun t k => castTop (ef_rm6 m a1) k
  have c101 : Fld Z h0 a1 "java/util/ImmutableCollections$ListN" "elements" "[Ljava/lang/Object;" (.ref e1) := Fld.ext (O0).2 F2
  obtain ⟨T102, X102, e102, st102⟩ := getF X0 hx hZ hown (host := "") (Or.inl (hwk hw 47 rfl)) Via.refl e0 c101 (g := (mkF m 1 #[.val (.ref a1)] [(.ref a1)])) rfl rfl (hb hby d6_1)
  have c103 : Arv Z h0 e1 k1 (.object "java/lang/Object") n1 vs1 .null := V2.ext O0.2
  obtain ⟨cl104, Ar104, -, Sz104, Nn104, -, -⟩ := c103
  obtain ⟨fs, hr, hrun, hended, hW, hsame⟩ := X102.leave (v := some (.int n1)) (fun h => by rw [Bd.returns] at h; cases h)
  refine ⟨_, _, pre0 _ ?_, hrun, hended, _, _, rfl, ?_, ⟨_, rfl⟩, hW, hsame.mono (by decide) (by decide)⟩
  · show Steps p.tables e below (s₁.setTop (mkF m 0 #[.val (.ref a1)] [])) _
    refine XS.aloadN X0.here hx rfl (hb hby d6_0) rfl rfl ?_
    show Steps p.tables e below (s₁.setTop (mkF m 1 #[.val (.ref a1)] [(.ref a1)])) _
    refine st102 _ ?_
    show Steps p.tables e below (T102.setTop (mkF m 4 #[.val (.ref a1)] [(.ref e1)])) _
    refine X102.arraylength hx (by rw [e102]; exact Ar104.1) (State.isArrayOf_alike hZ.alike Ar104.2.1) (g := (mkF m 4 #[.val (.ref a1)] [(.ref e1)])) rfl rfl (hb hby d6_4) _ ?_
    rw [len_of Sz104 Nn104]
    show Steps p.tables e below (T102.setTop (mkF m 5 #[.val (.ref a1)] [(.int n1)])) _
    exact Jvm.RoadKit.retOut X102 hx Bd.returns rfl (Or.inl ⟨rfl, by simp, _, rfl⟩) (hb hby d6_5) hr
  · show Q_rm6 Z a1 e1 k1 n1 vs1 h0 n0 _ T102.heap _
    rw [e102]
    unfold Q_rm6
    exact ⟨rfl, N0, rfl⟩
theorem ef_rm1 (m : MethodId) (x0 : Addr) (x1 : Addr) (x2 : Int32) : entryFrame m #[(.ref x0), (.ref x1), (.int x2)] 3 = mkF m 0 #[.val (.ref x0), .val (.ref x1), .val (.int x2)] [] := by first | (simp [entryFrame, mkF, argsToLocals, Value.category]; done) | rfl
def Q_rm1 (Z : State) (a1 : Addr) (g1 : Addr) (p2 : Int32) (s1 : Addr) (e1 : Addr) (k1 : ClassId) (n1 : Int32) (vs1 : List Value) (h0 : Heap) (n0 : Nat) (v : Option Value) (h : Heap) (L : List Loc) : Prop := (v = none) ∧ (Fr n0 L) ∧ (Keep h0 h [a1]) ∧ (Exa Z h a1 "com/example/syndex/syndex/Rating") ∧ (Fld Z h a1 "com/example/syndex/syndex/Rating" "agency" "Lcom/example/syndex/syndex/Agency;" (.ref g1)) ∧ (Fld Z h a1 "com/example/syndex/syndex/Rating" "rank" "I" (.int p2))
theorem pn_4 : plainName "com/example/syndex/syndex/Rating" = true := by first | (simp [plainName, overriddenIn]; done) | decide +kernel
theorem d1_0 : decode prog_54_method_1_code 0 = .ok (.aload_n 0, 1) := by decide +kernel
theorem d1_1 : decode prog_54_method_1_code 1 = .ok (.invokespecial 1, 3) := by decide +kernel
theorem pd_0 : parseMethodDescriptor "()V" = some ⟨[], none⟩ := by decide +kernel
theorem d1_4 : decode prog_54_method_1_code 4 = .ok (.aload_n 1, 1) := by decide +kernel
theorem d1_5 : decode prog_54_method_1_code 5 = .ok (.ldc 7, 2) := by decide +kernel
theorem d1_7 : decode prog_54_method_1_code 7 = .ok (.invokestatic 9, 3) := by decide +kernel
theorem pd_1 : parseMethodDescriptor "(Ljava/lang/Object;Ljava/lang/String;)Ljava/lang/Object;" = some ⟨[(.object "java/lang/Object"), (.object "java/lang/String")], some (.object "java/lang/Object")⟩ := by decide +kernel
theorem d1_10 : decode prog_54_method_1_code 10 = .ok (.pop, 1) := by decide +kernel
theorem d1_11 : decode prog_54_method_1_code 11 = .ok (.iload_n 2, 1) := by decide +kernel
theorem d1_12 : decode prog_54_method_1_code 12 = .ok (.ifCond .lt 16, 3) := by decide +kernel
theorem d1_15 : decode prog_54_method_1_code 15 = .ok (.iload_n 2, 1) := by decide +kernel
theorem d1_16 : decode prog_54_method_1_code 16 = .ok (.aload_n 1, 1) := by decide +kernel
theorem d1_17 : decode prog_54_method_1_code 17 = .ok (.invokevirtual 15, 3) := by decide +kernel
theorem pd_2 : parseMethodDescriptor "()Ljava/util/List;" = some ⟨[], some (.object "java/util/List")⟩ := by decide +kernel
theorem d1_20 : decode prog_54_method_1_code 20 = .ok (.invokeinterface 21 1, 5) := by decide +kernel
theorem pd_3 : parseMethodDescriptor "()I" = some ⟨[], some .int⟩ := by decide +kernel
theorem d1_25 : decode prog_54_method_1_code 25 = .ok (.if_icmp .lt 21, 3) := by decide +kernel
theorem d1_46 : decode prog_54_method_1_code 46 = .ok (.aload_n 0, 1) := by decide +kernel
theorem d1_47 : decode prog_54_method_1_code 47 = .ok (.aload_n 1, 1) := by decide +kernel
theorem d1_48 : decode prog_54_method_1_code 48 = .ok (.putfield 40, 3) := by decide +kernel
theorem d1_51 : decode prog_54_method_1_code 51 = .ok (.aload_n 0, 1) := by decide +kernel
theorem d1_52 : decode prog_54_method_1_code 52 = .ok (.iload_n 2, 1) := by decide +kernel
theorem d1_53 : decode prog_54_method_1_code 53 = .ok (.putfield 45, 3) := by decide +kernel
theorem d1_56 : decode prog_54_method_1_code 56 = .ok (.return_, 1) := by decide +kernel
set_option maxRecDepth 65536 in
set_option maxHeartbeats 40000000 in
theorem rm1 (l : Launch) (Z : State) (a0 : Array Value) (hw : ∀ d ∈ tables_1, d.before a0 Z = true) (ws : List Jvm.Cond) (a1 : Addr) (g1 : Addr) (p2 : Int32) (s1 : Addr) (e1 : Addr) (k1 : ClassId) (n1 : Int32) (vs1 : List Value) (h0 : Heap) (n0 : Nat) (O0 : Old Z n0 h0) (E1 : Exa Z h0 a1 "com/example/syndex/syndex/Rating") (ga : n0 ≤ a1) (F3 : Fld Z h0 a1 "com/example/syndex/syndex/Rating" "agency" "Lcom/example/syndex/syndex/Agency;" .null) (F4 : Fld Z h0 a1 "com/example/syndex/syndex/Rating" "rank" "I" (.int (0 : Int32))) (E2 : Exa Z Z.heap g1 "com/example/syndex/syndex/Agency") (F1 : Fld Z Z.heap g1 "com/example/syndex/syndex/Agency" "scale" "Ljava/util/List;" (.ref s1)) (E3 : Exa Z Z.heap s1 "java/util/ImmutableCollections$ListN") (F2 : Fld Z Z.heap s1 "java/util/ImmutableCollections$ListN" "elements" "[Ljava/lang/Object;" (.ref e1)) (V2 : Arv Z Z.heap e1 k1 (.object "java/lang/Object") n1 vs1 .null) (hlo : ¬ (p2 < (0 : Int32))) (hhi : p2 < n1) :
    MetFree l (⟨"com/example/syndex/syndex/Rating", "<init>", "(Lcom/example/syndex/syndex/Agency;I)V"⟩ : MethodName) (head1 (Jvm.Cond.code (⟨"com/example/syndex/syndex/Rating", "<init>", "(Lcom/example/syndex/syndex/Agency;I)V"⟩ : MethodName) prog_54_method_1_code 3 none :: ws) ({ frames := 2, cells := 2, slots := 28, locals := 24 } : Room)) (fun a U => a = #[(.ref a1), (.ref g1), (.int p2)] ∧ Z.Warmed39 U.vm ∧ U.heap = h0) (fun _ _ _ _ _ => True) (fun _ U o U' => ∃ v L, o = .returned v ∧ Q_rm1 Z a1 g1 p2 s1 e1 k1 n1 vs1 h0 n0 v U'.heap L ∧ ReturnedEndW U o U' L ({ frames := 2, cells := 2, slots := 28, locals := 24 } : Room).cells ({ frames := 2, cells := 2, slots := 28, locals := 24 } : Room).slots) := by
  refine MetFree.of_bodySF (plainFor_of_name pn_4) hisR ?_
  intro p e s m args below meth c s₁ Bd hml0 hP hK
  obtain ⟨rfl, hZ, hh⟩ := hP
  have hx := Bd.exec
  have hby := Bd.bytes
  have hml : c.maxLocals = 3 := hml0
  have hown : s.vm.findClass "com/example/syndex/syndex/Rating" = some m.cls := findClass_of_methodNamed Bd.named
  have hnm := (name_of_methodNamed Bd.named Bd.method).1
  have hS0 : s.Since s.vm h0.size := (State.WarmedH.refl s).since _
  have hstr : ∀ a ∈ Bundle.stringAtoms, a.before a0 Z = true := own_str hw
  have X0 : Stand p l e ({ frames := 2, cells := 2, slots := 28, locals := 24 } : Room) (s.setVm s.vm) m #[(.ref a1), (.ref g1), (.int p2)] below meth c s₁ [] 0 0 := Stand.of_body Bd
  have e0 : s₁.heap = h0 := by rw [← hh, Bd.state]; rfl
  have N0 := Fr.nil n0
  have Z0 : n0 ≤ h0.size := old_le O0
  have pre0 : ∀ t, Steps p.tables e below (s₁.setTop (mkF m 0 #[.val (.ref a1), .val (.ref g1), .val (.int p2)] [])) t → Steps p.tables e below (s₁.setTop (entryFrame m #[(.ref a1), (.ref g1), (.int p2)] 3)) t := fun t k => castTop (ef_rm1 m a1 g1 p2) k
  obtain ⟨_, _, ⟨T101, L101, k101, n101⟩, -, X101, ⟨Lc101, hQ101, l101, y101, z101⟩, st101⟩ := X0.specialBack hx (y := (⟨"java/lang/Record", "<init>", "()V"⟩ : MethodName)) rfl hown (mvT hZ (hwk hw 10 rfl)) (mvT hZ (hwk hw 11 rfl)) (mvT hZ (hwk hw 14 rfl)) (by decide) (backOf (W := 0) (rm2 l Z a0 hw [] a1 h0 n0 O0 ) hZ (hwk hw 14 rfl) (hwk hw 13 rfl) (by decide) (by decide)) (g := (mkF m 1 #[.val (.ref a1), .val (.ref g1), .val (.int p2)] [(.ref a1)])) rfl (by rw [hml]; rfl) (Steps.refl _) (a := a1) (argsL := []) (rest := []) (lenOf pd_0 rfl) rfl (by show 2 * 0 + _ ≤ _; exact Nat.le_of_eq rfl) (hb hby d1_1) (fun _ _ => ⟨rfl, e0, (by decide : 0 + 0 ≤ _), (by decide : 0 + 0 ≤ _)⟩)
  dsimp only [Pt.U, Pt.locs, Pt.cells, Pt.slots] at X101 l101 y101 z101 st101 hQ101
  subst l101 y101 z101
  unfold Q_rm2 at hQ101
  obtain ⟨rfl, N101q, e101⟩ := hQ101
  have N101 := Fr.app N0 N101q
  obtain ⟨a102, T102, h102, k102, X102, e102, E102, hS102, hk102, hZ102, hown102, st102⟩ := ldcS X101 hx hZ hown (hwk hw 18 rfl) hstr e101 hS0 (Nat.le_refl _) (g := (mkF m 5 #[.val (.ref a1), .val (.ref g1), .val (.int p2)] [(.ref g1)])) rfl (hb hby d1_5) (n := 24) (by decide) (by decide) (by decide) (by decide)
  have O103 : Old Z n0 h102 := Old.ext O0 E102
  obtain ⟨_, _, ⟨T104, L104, k104, n104⟩, -, X104, ⟨Lc104, hQ104, l104, y104, z104⟩, st104⟩ := Jvm.LawKit.callS X102 hx (y := (⟨"java/util/Objects", "requireNonNull", "(Ljava/lang/Object;Ljava/lang/String;)Ljava/lang/Object;"⟩ : MethodName)) hown102 (mvT hZ102 (hwk hw 26 rfl)) (mvT hZ102 (hwk hw 27 rfl)) (mvT hZ102 (hwk hw 28 rfl)) (mvT hZ102 (hwk hw 29 rfl)) (by decide) (backOf (W := 0) (rm4 l Z a0 hw [] g1 a102 h102 n0 O103 ) hZ102 (hwk hw 29 rfl) (hwk hw 28 rfl) (by decide) (by decide)) (g := (mkF m 7 #[.val (.ref a1), .val (.ref g1), .val (.int p2)] [(.ref a102), (.ref g1)])) rfl (by rw [hml]; rfl) (argsL := [(.ref g1), (.ref a102)]) (rest := []) (lenOf pd_1 rfl) rfl (by show 2 * 0 + _ ≤ _; exact Nat.le_of_eq rfl) (hb hby d1_7) (fun _ _ => ⟨rfl, e102, (by decide : 2 + 0 ≤ _), (by decide : 28 + 0 ≤ _)⟩)
  dsimp only [Pt.U, Pt.locs, Pt.cells, Pt.slots] at X104 l104 y104 z104 st104 hQ104
  subst l104 y104 z104
  unfold Q_rm4 at hQ104
  obtain ⟨rfl, N104q, e104⟩ := hQ104
  have N104 := Fr.app N101 N104q
  have c106 : Exa Z h102 g1 "com/example/syndex/syndex/Agency" := Exa.ext (O103).2 E2
  obtain ⟨cq105, kq105, q105a, q105b, q105c⟩ := isOf hZ102 e104 c106
  obtain ⟨_, _, ⟨T105, L105, k105, n105⟩, -, X105, ⟨Lc105, hQ105, l105, y105, z105⟩, st105⟩ := X104.virtualBack hx (y := (⟨"com/example/syndex/syndex/Agency", "scale", "()Ljava/util/List;"⟩ : MethodName)) (z := (⟨"com/example/syndex/syndex/Agency", "scale", "()Ljava/util/List;"⟩ : MethodName)) hown102 (mvT hZ102 (hwk hw 30 rfl)) (mvT hZ102 (hwk hw 31 rfl)) (notFace_of_selects (args := #[]) (mvT hZ102 (hwk hw 33 rfl))) (mvT hZ102 (hwk hw 33 rfl)) (mvT hZ102 (hwk hw 32 rfl)) (by decide) (backOf (W := 1) (rm5 l Z a0 hw [] g1 s1 h102 n0 O103 F1) hZ102 (hwk hw 34 rfl) (hwk hw 1 rfl) (by decide) (by decide)) q105a q105c (g := (mkF m 17 #[.val (.ref a1), .val (.ref g1), .val (.int p2)] [(.ref g1), (.int p2)])) rfl (by rw [hml]; rfl) (Steps.refl _) (argsL := []) (rest := [(.int p2)]) (lenOf pd_2 rfl) rfl (by show 2 * 0 + _ ≤ _; exact Nat.le_of_eq rfl) (hb hby d1_17) (fun _ _ => ⟨rfl, e104, (by decide : 2 + 0 ≤ _), (by decide : 28 + 0 ≤ _)⟩)
  dsimp only [Pt.U, Pt.locs, Pt.cells, Pt.slots] at X105 l105 y105 z105 st105 hQ105
  subst l105 y105 z105
  unfold Q_rm5 at hQ105
  obtain ⟨rfl, N105q, e105⟩ := hQ105
  have N105 := Fr.app N104 N105q
  have c108 : Exa Z h102 s1 "java/util/ImmutableCollections$ListN" := Exa.ext (O103).2 E3
  obtain ⟨cq107, kq107, q107a, q107b, q107c⟩ := isOf hZ102 e105 c108
  obtain ⟨_, _, ⟨T107, L107, k107, n107⟩, -, X107, ⟨Lc107, hQ107, l107, y107, z107⟩, st107⟩ := X105.interfaceBack hx (xi := (⟨"java/util/List", "size", "()I"⟩ : MethodName)) (y := (⟨"java/util/ImmutableCollections$ListN", "size", "()I"⟩ : MethodName)) hown102 (mvT hZ102 (hwk hw 37 rfl)) (mvT hZ102 (hwk hw 38 rfl)) (mvT hZ102 (hwk hw 39 rfl)) (mvT hZ102 (hwk hw 40 rfl)) (mvT hZ102 (hwk hw 41 rfl)) (mvT hZ102 (hwk hw 42 rfl)) (mvT hZ102 (hwk hw 43 rfl)) (mvT hZ102 (hwk hw 44 rfl)) (by decide) (backOf (W := 1) (rm6 l Z a0 hw [] s1 e1 k1 n1 vs1 h102 n0 O103 F2 V2) hZ102 (hwk hw 46 rfl) (hwk hw 45 rfl) (by decide) (by decide)) q107a q107b q107c (g := (mkF m 20 #[.val (.ref a1), .val (.ref g1), .val (.int p2)] [(.ref s1), (.int p2)])) rfl (by rw [hml]; rfl) (Steps.refl _) (argsL := []) (rest := [(.int p2)]) (lenOf pd_3 rfl) rfl (by show 2 * 0 + _ ≤ _; exact Nat.le_of_eq rfl) (hb hby d1_20) (fun _ _ => ⟨rfl, e105, (by decide : 2 + 0 ≤ _), (by decide : 28 + 0 ≤ _)⟩)
  dsimp only [Pt.U, Pt.locs, Pt.cells, Pt.slots] at X107 l107 y107 z107 st107 hQ107
  subst l107 y107 z107
  unfold Q_rm6 at hQ107
  obtain ⟨rfl, N107q, e107⟩ := hQ107
  have N107 := Fr.app N105 N107q
  have c109 : Exa Z h102 a1 "com/example/syndex/syndex/Rating" := (Exa.ext E102 E1)
  have c110 : Fld Z h102 a1 "com/example/syndex/syndex/Rating" "agency" "Lcom/example/syndex/syndex/Agency;" .null := (Fld.ext E102 F3)
  obtain ⟨T111, h111, X111, e111, W111, st111⟩ := putF X107 hx hZ102 hown102 (host := "") (Or.inl (hwk hw 49 rfl)) Via.refl e107 c110 c109 (Or.inr ⟨(hwk hw 50 rfl), rfl, hnm⟩) (hwk hw 5 rfl) (ty := (.object "com/example/syndex/syndex/Agency")) (by decide) rfl rfl (g := (mkF m 48 #[.val (.ref a1), .val (.ref g1), .val (.int p2)] [(.ref g1), (.ref a1)])) rfl rfl (hb hby d1_48)
  have F111 : Fld Z h111 a1 "com/example/syndex/syndex/Rating" "agency" "Lcom/example/syndex/syndex/Agency;" (.ref g1) := Fld.same W111 c110
  have N111 := Fr.snoc X111 N107 ga
  have c112 : Exa Z h111 a1 "com/example/syndex/syndex/Rating" := (Exa.wr W111 c109)
  have c113 : Fld Z h111 a1 "com/example/syndex/syndex/Rating" "rank" "I" (.int (0 : Int32)) := (Fld.other W111 (Fld.ext E102 F4) (Or.inr (slot_ne (Or.inr (hwk hw 52 rfl)) (Or.inr (hwk hw 50 rfl)) (by decide) (t := .int) (t' := (.object "com/example/syndex/syndex/Agency")) (by decide) (by decide))))
  obtain ⟨T114, h114, X114, e114, W114, st114⟩ := putF X111 hx hZ102 hown102 (host := "") (Or.inl (hwk hw 51 rfl)) Via.refl e111 c113 c112 (Or.inr ⟨(hwk hw 52 rfl), rfl, hnm⟩) (hwk hw 5 rfl) (ty := .int) (by decide) rfl rfl (g := (mkF m 53 #[.val (.ref a1), .val (.ref g1), .val (.int p2)] [(.int p2), (.ref a1)])) rfl rfl (hb hby d1_53)
  have F114 : Fld Z h114 a1 "com/example/syndex/syndex/Rating" "rank" "I" (.int p2) := Fld.same W114 c113
  have N114 := Fr.snoc X114 N111 ga
  have K115 : Keep h0 h102 [a1] := Keep.ext (Keep.refl h0 [a1]) E102
  have K116 : Keep h0 h111 [a1] := Keep.wr K115 W111 (Or.inl (List.mem_of_getElem? (i := 0) rfl))
  have K117 : Keep h0 h114 [a1] := Keep.wr K116 W114 (Or.inl (List.mem_of_getElem? (i := 0) rfl))
  have c118 : Exa Z h114 a1 "com/example/syndex/syndex/Rating" := (Exa.wr W114 c112)
  have c119 : Fld Z h114 a1 "com/example/syndex/syndex/Rating" "agency" "Lcom/example/syndex/syndex/Agency;" (.ref g1) := (Fld.other W114 F111 (Or.inr (slot_ne (Or.inr (hwk hw 50 rfl)) (Or.inr (hwk hw 52 rfl)) (by decide) (t := (.object "com/example/syndex/syndex/Agency")) (t' := .int) (by decide) (by decide))))
  obtain ⟨fs, hr, hrun, hended, hRE⟩ := X114.leaveW hS102 (show _ ≤ T114.heap.size from by rw [e114]; exact (Nat.le_trans hk102 (Nat.le_trans (Nat.le_trans (Nat.le_refl _) (Nat.le_of_eq W111.size.symm)) (Nat.le_of_eq W114.size.symm)))) (v := none) (fun _ => rfl)
  refine ⟨_, _, pre0 _ ?_, hrun, hended, _, _, rfl, ?_, hRE.1, hRE.2.1, hRE.2.2.1, hRE.2.2.2.mono (by decide) (by decide)⟩
  · show Steps p.tables e below (s₁.setTop (mkF m 0 #[.val (.ref a1), .val (.ref g1), .val (.int p2)] [])) _
    refine XS.aloadN X0.here hx rfl (hb hby d1_0) rfl rfl ?_
    show Steps p.tables e below (s₁.setTop (mkF m 1 #[.val (.ref a1), .val (.ref g1), .val (.int p2)] [(.ref a1)])) _
    refine st101.trans ?_
    show Steps p.tables e below (T101.setTop (mkF m 4 #[.val (.ref a1), .val (.ref g1), .val (.int p2)] [])) _
    refine XS.aloadN X101.here hx rfl (hb hby d1_4) rfl rfl ?_
    show Steps p.tables e below (T101.setTop (mkF m 5 #[.val (.ref a1), .val (.ref g1), .val (.int p2)] [(.ref g1)])) _
    refine st102 _ ?_
    show Steps p.tables e below (T102.setTop (mkF m 7 #[.val (.ref a1), .val (.ref g1), .val (.int p2)] [(.ref a102), (.ref g1)])) _
    refine st104 _ ?_
    show Steps p.tables e below (T104.setTop (mkF m 10 #[.val (.ref a1), .val (.ref g1), .val (.int p2)] [(.ref g1)])) _
    refine XS.pop X104.here hx rfl (hb hby d1_10) rfl rfl ?_
    show Steps p.tables e below (T104.setTop (mkF m 11 #[.val (.ref a1), .val (.ref g1), .val (.int p2)] [])) _
    refine XS.iloadN X104.here hx rfl (hb hby d1_11) rfl ?_
    show Steps p.tables e below (T104.setTop (mkF m 12 #[.val (.ref a1), .val (.ref g1), .val (.int p2)] [(.int p2)])) _
    refine XS.ifNo X104.here hx rfl (hb hby d1_12) rfl ((if0 _ _).trans (flt (hlo : ¬ (p2 < (0 : Int32)))).1) ?_
    show Steps p.tables e below (T104.setTop (mkF m 15 #[.val (.ref a1), .val (.ref g1), .val (.int p2)] [])) _
    refine XS.iloadN X104.here hx rfl (hb hby d1_15) rfl ?_
    show Steps p.tables e below (T104.setTop (mkF m 16 #[.val (.ref a1), .val (.ref g1), .val (.int p2)] [(.int p2)])) _
    refine XS.aloadN X104.here hx rfl (hb hby d1_16) rfl rfl ?_
    show Steps p.tables e below (T104.setTop (mkF m 17 #[.val (.ref a1), .val (.ref g1), .val (.int p2)] [(.ref g1), (.int p2)])) _
    refine st105.trans ?_
    show Steps p.tables e below (T105.setTop (mkF m 20 #[.val (.ref a1), .val (.ref g1), .val (.int p2)] [(.ref s1), (.int p2)])) _
    refine st107.trans ?_
    show Steps p.tables e below (T107.setTop (mkF m 25 #[.val (.ref a1), .val (.ref g1), .val (.int p2)] [(.int n1), (.int p2)])) _
    refine XS.icmpYes X107.here hx rfl (pc0 := 25) (pc' := 46) rfl (hb hby d1_25) rfl (tlt (hhi : p2 < n1)).1 (by decide) (by decide) ?_
    show Steps p.tables e below (T107.setTop (mkF m 46 #[.val (.ref a1), .val (.ref g1), .val (.int p2)] [])) _
    refine XS.aloadN X107.here hx rfl (hb hby d1_46) rfl rfl ?_
    show Steps p.tables e below (T107.setTop (mkF m 47 #[.val (.ref a1), .val (.ref g1), .val (.int p2)] [(.ref a1)])) _
    refine XS.aloadN X107.here hx rfl (hb hby d1_47) rfl rfl ?_
    show Steps p.tables e below (T107.setTop (mkF m 48 #[.val (.ref a1), .val (.ref g1), .val (.int p2)] [(.ref g1), (.ref a1)])) _
    refine st111 _ ?_
    show Steps p.tables e below (T111.setTop (mkF m 51 #[.val (.ref a1), .val (.ref g1), .val (.int p2)] [])) _
    refine XS.aloadN X111.here hx rfl (hb hby d1_51) rfl rfl ?_
    show Steps p.tables e below (T111.setTop (mkF m 52 #[.val (.ref a1), .val (.ref g1), .val (.int p2)] [(.ref a1)])) _
    refine XS.iloadN X111.here hx rfl (hb hby d1_52) rfl ?_
    show Steps p.tables e below (T111.setTop (mkF m 53 #[.val (.ref a1), .val (.ref g1), .val (.int p2)] [(.int p2), (.ref a1)])) _
    refine st114 _ ?_
    show Steps p.tables e below (T114.setTop (mkF m 56 #[.val (.ref a1), .val (.ref g1), .val (.int p2)] [])) _
    exact X114.returnOut hx Bd.returns (hb hby d1_56) hr
  · show Q_rm1 Z a1 g1 p2 s1 e1 k1 n1 vs1 h0 n0 _ T114.heap _
    rw [e114]
    unfold Q_rm1
    exact ⟨rfl, N114, K117, c118, c119, F114⟩
theorem ef_rm7 (m : MethodId) (x0 : Addr) (x1 : Addr) : entryFrame m #[(.ref x0), (.ref x1)] 2 = mkF m 0 #[.val (.ref x0), .val (.ref x1)] [] := by first | (simp [entryFrame, mkF, argsToLocals, Value.category]; done) | rfl
def V7 (p q : Int32) : Int32 := if q < p then 0 else 1
def Q_rm7 (Z : State) (a1 : Addr) (b1 : Addr) (g1 : Addr) (p1 : Int32) (p2 : Int32) (h0 : Heap) (n0 : Nat) (v : Option Value) (h : Heap) (L : List Loc) : Prop := (v = some (.int (V7 p1 p2))) ∧ (Fr n0 L) ∧ (h = h0)
theorem d7_0 : decode prog_54_method_3_code 0 = .ok (.aload_n 1, 1) := by decide +kernel
theorem d7_1 : decode prog_54_method_3_code 1 = .ok (.getfield 40, 3) := by decide +kernel
theorem d7_4 : decode prog_54_method_3_code 4 = .ok (.aload_n 0, 1) := by decide +kernel
theorem d7_5 : decode prog_54_method_3_code 5 = .ok (.getfield 40, 3) := by decide +kernel
theorem d7_8 : decode prog_54_method_3_code 8 = .ok (.if_acmp .eq 30, 3) := by decide +kernel
theorem d7_38 : decode prog_54_method_3_code 38 = .ok (.aload_n 0, 1) := by decide +kernel
theorem d7_39 : decode prog_54_method_3_code 39 = .ok (.getfield 45, 3) := by decide +kernel
theorem d7_42 : decode prog_54_method_3_code 42 = .ok (.aload_n 1, 1) := by decide +kernel
theorem d7_43 : decode prog_54_method_3_code 43 = .ok (.getfield 45, 3) := by decide +kernel
theorem d7_46 : decode prog_54_method_3_code 46 = .ok (.if_icmp .gt 7, 3) := by decide +kernel
theorem d7_53 : decode prog_54_method_3_code 53 = .ok (.iconst 0, 1) := by decide +kernel
theorem d7_54 : decode prog_54_method_3_code 54 = .ok (.ireturn, 1) := by decide +kernel
theorem d7_49 : decode prog_54_method_3_code 49 = .ok (.iconst 1, 1) := by decide +kernel
theorem d7_50 : decode prog_54_method_3_code 50 = .ok (.goto 4, 3) := by decide +kernel
set_option maxRecDepth 65536 in
set_option maxHeartbeats 40000000 in
theorem rm7 (l : Launch) (Z : State) (a0 : Array Value) (hw : ∀ d ∈ tables_1, d.before a0 Z = true) (ws : List Jvm.Cond) (a1 : Addr) (b1 : Addr) (g1 : Addr) (p1 : Int32) (p2 : Int32) (h0 : Heap) (n0 : Nat) (O0 : Old Z n0 h0) (F1 : Fld Z h0 a1 "com/example/syndex/syndex/Rating" "agency" "Lcom/example/syndex/syndex/Agency;" (.ref g1)) (F2 : Fld Z h0 b1 "com/example/syndex/syndex/Rating" "agency" "Lcom/example/syndex/syndex/Agency;" (.ref g1)) (F3 : Fld Z h0 a1 "com/example/syndex/syndex/Rating" "rank" "I" (.int p1)) (F4 : Fld Z h0 b1 "com/example/syndex/syndex/Rating" "rank" "I" (.int p2)) :
    MetFree l (⟨"com/example/syndex/syndex/Rating", "isAtLeast", "(Lcom/example/syndex/syndex/Rating;)Z"⟩ : MethodName) (head1 (Jvm.Cond.code (⟨"com/example/syndex/syndex/Rating", "isAtLeast", "(Lcom/example/syndex/syndex/Rating;)Z"⟩ : MethodName) prog_54_method_3_code 2 (some .boolean) :: ws) ({ frames := 0, cells := 0, slots := 0, locals := 0 } : Room)) (fun a U => a = #[(.ref a1), (.ref b1)] ∧ Z.Warmed39 U.vm ∧ U.heap = h0) (fun _ _ _ _ _ => True) (fun _ U o U' => ∃ v L, o = .returned v ∧ Q_rm7 Z a1 b1 g1 p1 p2 h0 n0 v U'.heap L ∧ FrameEnd U o U' L ({ frames := 0, cells := 0, slots := 0, locals := 0 } : Room).cells ({ frames := 0, cells := 0, slots := 0, locals := 0 } : Room).slots) := by
  refine MetFree.of_bodySF (plainFor_of_name pn_4) hisR ?_
  intro p e s m args below meth c s₁ Bd hml0 hP hK
  obtain ⟨rfl, hZ, hh⟩ := hP
  have hx := Bd.exec
  have hby := Bd.bytes
  have hml : c.maxLocals = 2 := hml0
  have hown : s.vm.findClass "com/example/syndex/syndex/Rating" = some m.cls := findClass_of_methodNamed Bd.named
  have hnm := (name_of_methodNamed Bd.named Bd.method).1
  have X0 : Stand p l e ({ frames := 0, cells := 0, slots := 0, locals := 0 } : Room) s m #[(.ref a1), (.ref b1)] below meth c s₁ [] 0 0 := Stand.of_body Bd
  have e0 : s₁.heap = h0 := by rw [← hh, Bd.state]; rfl
  have N0 := Fr.nil n0
  have Z0 : n0 ≤ h0.size := old_le O0
  have pre0 : ∀ t, Steps p.tables e below (s₁.setTop (mkF m 0 #[.val (.ref a1), .val (.ref b1)] [])) t → Steps p.tables e below (s₁.setTop (entryFrame m #[(.ref a1), (.ref b1)] 2)) t := fun t k => castTop (ef_rm7 m a1 b1) k
  obtain ⟨T101, X101, e101, st101⟩ := getF X0 hx hZ hown (host := "") (Or.inl (hwk hw 49 rfl)) Via.refl e0 F2 (g := (mkF m 1 #[.val (.ref a1), .val (.ref b1)] [(.ref b1)])) rfl rfl (hb hby d7_1)
  obtain ⟨T102, X102, e102, st102⟩ := getF X101 hx hZ hown (host := "") (Or.inl (hwk hw 49 rfl)) Via.refl e101 F1 (g := (mkF m 5 #[.val (.ref a1), .val (.ref b1)] [(.ref a1), (.ref g1)])) rfl rfl (hb hby d7_5)
  obtain ⟨T103, X103, e103, st103⟩ := getF X102 hx hZ hown (host := "") (Or.inl (hwk hw 51 rfl)) Via.refl e102 F3 (g := (mkF m 39 #[.val (.ref a1), .val (.ref b1)] [(.ref a1)])) rfl rfl (hb hby d7_39)
  obtain ⟨T104, X104, e104, st104⟩ := getF X103 hx hZ hown (host := "") (Or.inl (hwk hw 51 rfl)) Via.refl e103 F4 (g := (mkF m 43 #[.val (.ref a1), .val (.ref b1)] [(.ref b1), (.int p1)])) rfl rfl (hb hby d7_43)
  have S106 : ∀ t, Steps p.tables e below (T104.setTop (mkF m 46 #[.val (.ref a1), .val (.ref b1)] [(.int p2), (.int p1)])) t → Steps p.tables e below (s₁.setTop (entryFrame m #[(.ref a1), (.ref b1)] 2)) t := fun t k => by
    refine pre0 t ?_
    show Steps p.tables e below (s₁.setTop (mkF m 0 #[.val (.ref a1), .val (.ref b1)] [])) _
    refine XS.aloadN X0.here hx rfl (hb hby d7_0) rfl rfl ?_
    show Steps p.tables e below (s₁.setTop (mkF m 1 #[.val (.ref a1), .val (.ref b1)] [(.ref b1)])) _
    refine st101 _ ?_
    show Steps p.tables e below (T101.setTop (mkF m 4 #[.val (.ref a1), .val (.ref b1)] [(.ref g1)])) _
    refine XS.aloadN X101.here hx rfl (hb hby d7_4) rfl rfl ?_
    show Steps p.tables e below (T101.setTop (mkF m 5 #[.val (.ref a1), .val (.ref b1)] [(.ref a1), (.ref g1)])) _
    refine st102 _ ?_
    show Steps p.tables e below (T102.setTop (mkF m 8 #[.val (.ref a1), .val (.ref b1)] [(.ref g1), (.ref g1)])) _
    refine Jvm.RoadKit.acmp (g := (mkF m 8 #[.val (.ref a1), .val (.ref b1)] [(.ref g1), (.ref g1)])) X102 hx rfl rfl rfl (pc0 := 8) (pc' := 38) (same := true) rfl (hb hby d7_8) rfl (decide_eq_true rfl) (by decide) (by decide) ?_
    show Steps p.tables e below (T102.setTop (mkF m 38 #[.val (.ref a1), .val (.ref b1)] [])) _
    refine XS.aloadN X102.here hx rfl (hb hby d7_38) rfl rfl ?_
    show Steps p.tables e below (T102.setTop (mkF m 39 #[.val (.ref a1), .val (.ref b1)] [(.ref a1)])) _
    refine st103 _ ?_
    show Steps p.tables e below (T103.setTop (mkF m 42 #[.val (.ref a1), .val (.ref b1)] [(.int p1)])) _
    refine XS.aloadN X103.here hx rfl (hb hby d7_42) rfl rfl ?_
    show Steps p.tables e below (T103.setTop (mkF m 43 #[.val (.ref a1), .val (.ref b1)] [(.ref b1), (.int p1)])) _
    refine st104 _ ?_
    exact k
  by_cases hc105 : p2 < p1
  · obtain ⟨fs, hr, hrun, hended, hW, hsame⟩ := X104.leave (v := some (.int (0 : Int32))) (fun h => by rw [Bd.returns] at h; cases h)
    refine ⟨_, _, S106 _ ?_, hrun, hended, _, _, rfl, ?_, ⟨_, rfl⟩, hW, hsame.mono (by decide) (by decide)⟩
    · show Steps p.tables e below (T104.setTop (mkF m 46 #[.val (.ref a1), .val (.ref b1)] [(.int p2), (.int p1)])) _
      refine XS.icmpYes X104.here hx rfl (pc0 := 46) (pc' := 53) rfl (hb hby d7_46) rfl (tlt hc105).2.2.1 (by decide) (by decide) ?_
      show Steps p.tables e below (T104.setTop (mkF m 53 #[.val (.ref a1), .val (.ref b1)] [])) _
      refine XS.iconst X104.here hx rfl (hb hby d7_53) ?_
      show Steps p.tables e below (T104.setTop (mkF m 54 #[.val (.ref a1), .val (.ref b1)] [(.int (0 : Int32))])) _
      exact Jvm.RoadKit.retOut X104 hx Bd.returns rfl (Or.inl ⟨rfl, by simp, _, rfl⟩) (hb hby d7_54) hr
    · show Q_rm7 Z a1 b1 g1 p1 p2 h0 n0 _ T104.heap _
      rw [e104]
      unfold Q_rm7
      exact ⟨by simp [V7, hc105], N0, rfl⟩
  · obtain ⟨fs, hr, hrun, hended, hW, hsame⟩ := X104.leave (v := some (.int (1 : Int32))) (fun h => by rw [Bd.returns] at h; cases h)
    refine ⟨_, _, S106 _ ?_, hrun, hended, _, _, rfl, ?_, ⟨_, rfl⟩, hW, hsame.mono (by decide) (by decide)⟩
    · show Steps p.tables e below (T104.setTop (mkF m 46 #[.val (.ref a1), .val (.ref b1)] [(.int p2), (.int p1)])) _
      refine XS.icmpNo X104.here hx rfl (hb hby d7_46) rfl (flt hc105).2.2.1 ?_
      show Steps p.tables e below (T104.setTop (mkF m 49 #[.val (.ref a1), .val (.ref b1)] [])) _
      refine XS.iconst X104.here hx rfl (hb hby d7_49) ?_
      show Steps p.tables e below (T104.setTop (mkF m 50 #[.val (.ref a1), .val (.ref b1)] [(.int (1 : Int32))])) _
      refine XS.goto X104.here hx rfl (pc0 := 50) (pc' := 54) rfl (hb hby d7_50) (by decide) (by decide) ?_
      show Steps p.tables e below (T104.setTop (mkF m 54 #[.val (.ref a1), .val (.ref b1)] [(.int (1 : Int32))])) _
      exact Jvm.RoadKit.retOut X104 hx Bd.returns rfl (Or.inl ⟨rfl, by simp, _, rfl⟩) (hb hby d7_54) hr
    · show Q_rm7 Z a1 b1 g1 p1 p2 h0 n0 _ T104.heap _
      rw [e104]
      unfold Q_rm7
      exact ⟨by simp [V7, hc105], N0, rfl⟩
theorem ef_rm0 (m : MethodId) (x0 : Int32) (x1 : Int32) (x2 : Int32) : entryFrame m #[(.int x0), (.int x1), (.int x2)] maxLocals = mkF m 0 #[.val (.int x0), .val (.int x1), .val (.int x2), .unset, .unset, .unset, .unset, .unset, .unset, .unset] [] := by first | (simp [entryFrame, mkF, argsToLocals, Value.category, maxLocals]; done) | rfl
def Q_rm0 (Z : State) (p0 : Int32) (p1 : Int32) (p2 : Int32) (w_Agency_SP : Addr) (w_Agency_MOODYS : Addr) (w_Agency_SP_scale : Addr) (w_Agency_MOODYS_scale : Addr) (w_Agency_SP_scale_elements : Addr) (w_Agency_MOODYS_scale_elements : Addr) (k_w_Agency_SP_scale_elements : ClassId) (vs_w_Agency_SP_scale_elements : List Value) (k_w_Agency_MOODYS_scale_elements : ClassId) (vs_w_Agency_MOODYS_scale_elements : List Value) (h0 : Heap) (n0 : Nat) (v : Option Value) (h : Heap) (L : List Loc) : Prop := (v = some (.int (1 : Int32))) ∧ (Fr n0 L) ∧ (Keep h0 h [])
theorem pn_5 : plainName "com/example/syndex/syndex/RatingIsAtLeastPinLaw" = true := by first | (simp [plainName, overriddenIn]; done) | decide +kernel
theorem pd_4 : parseMethodDescriptor "(Lcom/example/syndex/syndex/Agency;I)V" = some ⟨[(.object "com/example/syndex/syndex/Agency"), .int], none⟩ := by decide +kernel
theorem pd_5 : parseMethodDescriptor "(Lcom/example/syndex/syndex/Rating;)Z" = some ⟨[(.object "com/example/syndex/syndex/Rating")], some .boolean⟩ := by decide +kernel
set_option maxRecDepth 65536 in
set_option maxHeartbeats 40000000 in
theorem rm0 (l : Launch) (Z : State) (a0 : Array Value) (hw : ∀ d ∈ tables_1, d.before a0 Z = true) (ws : List Jvm.Cond) (p0 : Int32) (p1 : Int32) (p2 : Int32) (w_Agency_SP : Addr) (w_Agency_MOODYS : Addr) (w_Agency_SP_scale : Addr) (w_Agency_MOODYS_scale : Addr) (w_Agency_SP_scale_elements : Addr) (w_Agency_MOODYS_scale_elements : Addr) (k_w_Agency_SP_scale_elements : ClassId) (vs_w_Agency_SP_scale_elements : List Value) (k_w_Agency_MOODYS_scale_elements : ClassId) (vs_w_Agency_MOODYS_scale_elements : List Value) (h0 : Heap) (n0 : Nat) (O0 : Old Z n0 h0) (S_Agency_SP : Sta Z Z.heap "com/example/syndex/syndex/Agency" "SP" "Lcom/example/syndex/syndex/Agency;" (.ref w_Agency_SP)) (E_w_Agency_SP : Exa Z Z.heap w_Agency_SP "com/example/syndex/syndex/Agency") (S_Agency_MOODYS : Sta Z Z.heap "com/example/syndex/syndex/Agency" "MOODYS" "Lcom/example/syndex/syndex/Agency;" (.ref w_Agency_MOODYS)) (E_w_Agency_MOODYS : Exa Z Z.heap w_Agency_MOODYS "com/example/syndex/syndex/Agency") (F_w_Agency_SP_scale : Fld Z Z.heap w_Agency_SP "com/example/syndex/syndex/Agency" "scale" "Ljava/util/List;" (.ref w_Agency_SP_scale)) (E_w_Agency_SP_scale : Exa Z Z.heap w_Agency_SP_scale "java/util/ImmutableCollections$ListN") (F_w_Agency_MOODYS_scale : Fld Z Z.heap w_Agency_MOODYS "com/example/syndex/syndex/Agency" "scale" "Ljava/util/List;" (.ref w_Agency_MOODYS_scale)) (E_w_Agency_MOODYS_scale : Exa Z Z.heap w_Agency_MOODYS_scale "java/util/ImmutableCollections$ListN") (F_w_Agency_SP_scale_elements : Fld Z Z.heap w_Agency_SP_scale "java/util/ImmutableCollections$ListN" "elements" "[Ljava/lang/Object;" (.ref w_Agency_SP_scale_elements)) (F_w_Agency_MOODYS_scale_elements : Fld Z Z.heap w_Agency_MOODYS_scale "java/util/ImmutableCollections$ListN" "elements" "[Ljava/lang/Object;" (.ref w_Agency_MOODYS_scale_elements)) (V_w_Agency_SP_scale_elements : Arv Z Z.heap w_Agency_SP_scale_elements k_w_Agency_SP_scale_elements (.object "java/lang/Object") (22 : Int32) vs_w_Agency_SP_scale_elements .null) (V_w_Agency_MOODYS_scale_elements : Arv Z Z.heap w_Agency_MOODYS_scale_elements k_w_Agency_MOODYS_scale_elements (.object "java/lang/Object") (21 : Int32) vs_w_Agency_MOODYS_scale_elements .null) :
    MetFree l x (head1 (Jvm.Cond.code x code maxLocals ret :: ws) room_1) (fun a U => a = #[(.int p0), (.int p1), (.int p2)] ∧ Z.Warmed39 U.vm ∧ U.heap = h0) (fun _ _ _ _ _ => True) (fun _ U o U' => ∃ v L, o = .returned v ∧ Q_rm0 Z p0 p1 p2 w_Agency_SP w_Agency_MOODYS w_Agency_SP_scale w_Agency_MOODYS_scale w_Agency_SP_scale_elements w_Agency_MOODYS_scale_elements k_w_Agency_SP_scale_elements vs_w_Agency_SP_scale_elements k_w_Agency_MOODYS_scale_elements vs_w_Agency_MOODYS_scale_elements h0 n0 v U'.heap L ∧ ReturnedEndW U o U' L room_1.cells room_1.slots) := by
  refine MetFree.of_bodySF (plainFor_of_name pn_5) hisR ?_
  intro p e s m args below meth c s₁ Bd hml0 hP hK
  obtain ⟨rfl, hZ, hh⟩ := hP
  have hx := Bd.exec
  have hby := Bd.bytes
  have hml : c.maxLocals = 10 := hml0
  have hown : s.vm.findClass "com/example/syndex/syndex/RatingIsAtLeastPinLaw" = some m.cls := findClass_of_methodNamed Bd.named
  have hnm := (name_of_methodNamed Bd.named Bd.method).1
  have hS0 : s.Since s.vm h0.size := (State.WarmedH.refl s).since _
  have hstr : ∀ a ∈ Bundle.stringAtoms, a.before a0 Z = true := own_str hw
  have X0 : Stand p l e room_1 (s.setVm s.vm) m #[(.int p0), (.int p1), (.int p2)] below meth c s₁ [] 0 0 := Stand.of_body Bd
  have e0 : s₁.heap = h0 := by rw [← hh, Bd.state]; rfl
  have N0 := Fr.nil n0
  have Z0 : n0 ≤ h0.size := old_le O0
  have pre0 : ∀ t, Steps p.tables e below (s₁.setTop (mkF m 0 #[.val (.int p0), .val (.int p1), .val (.int p2), .unset, .unset, .unset, .unset, .unset, .unset, .unset] [])) t → Steps p.tables e below (s₁.setTop (entryFrame m #[(.int p0), (.int p1), (.int p2)] maxLocals)) t := fun t k => castTop (ef_rm0 m p0 p1 p2) k
  have S102 : ∀ t, Steps p.tables e below (s₁.setTop (mkF m 3 #[.val (.int p0), .val (.int p1), .val (.int p2), .unset, .unset, .unset, .unset, .unset, .unset, .unset] [(.int (p0 &&& (1 : Int32)))])) t → Steps p.tables e below (s₁.setTop (entryFrame m #[(.int p0), (.int p1), (.int p2)] maxLocals)) t := fun t k => by
    refine pre0 t ?_
    show Steps p.tables e below (s₁.setTop (mkF m 0 #[.val (.int p0), .val (.int p1), .val (.int p2), .unset, .unset, .unset, .unset, .unset, .unset, .unset] [])) _
    refine XS.iloadN X0.here hx rfl (hb hby at_0) rfl ?_
    show Steps p.tables e below (s₁.setTop (mkF m 1 #[.val (.int p0), .val (.int p1), .val (.int p2), .unset, .unset, .unset, .unset, .unset, .unset, .unset] [(.int p0)])) _
    refine XS.iconst X0.here hx rfl (hb hby at_1) ?_
    show Steps p.tables e below (s₁.setTop (mkF m 2 #[.val (.int p0), .val (.int p1), .val (.int p2), .unset, .unset, .unset, .unset, .unset, .unset, .unset] [(.int (1 : Int32)), (.int p0)])) _
    refine XS.iand X0.here hx rfl (hb hby at_2) rfl ?_
    exact k
  by_cases hc101 : (p0 &&& (1 : Int32)) = (0 : Int32)
  · have c103 : Sta Z h0 "com/example/syndex/syndex/Agency" "SP" "Lcom/example/syndex/syndex/Agency;" (.ref w_Agency_SP) := Sta.ext (O0).2 S_Agency_SP
    obtain ⟨T104, X104, e104, st104⟩ := getS2 X0 hx hZ hown (host := "") (Or.inl (hwk hw 0 rfl)) Via.refl e0 c103 (g := (mkF m 22 #[.val (.int p0), .val (.int p1), .val (.int p2), .val (.int (0 : Int32)), .unset, .unset, .unset, .unset, .unset, .unset] [])) rfl (hb hby at_22)
    obtain ⟨T105, h105, X105, e105, E105, A105, D105, -, st105⟩ := newO X104 hx hZ hown (hwk hw 4 rfl) (hwk hw 5 rfl) (hwk hw 6 rfl) e104 (g := (mkF m 58 #[.val (.int p0), .val (.int p1), .val (.int p2), .val (.int (0 : Int32)), .val (.ref w_Agency_SP), .val (.int (22 : Int32)), .val (.int ((p1 &&& (2147483647 : Int32)) % (22 : Int32))), .val (.int ((p2 &&& (2147483647 : Int32)) % (22 : Int32))), .unset, .unset] [])) rfl (hb hby at_58) (by decide) (by decide)
    obtain ⟨b105, g105⟩ : ∃ z, z = h0.size := ⟨_, rfl⟩
    rw [← g105] at A105 D105 st105
    have g_b105 : n0 ≤ b105 := Nat.le_trans (old_le O0) (Nat.le_of_eq g105.symm)
    have O106 : Old Z n0 h105 := Old.ext O0 E105
    obtain ⟨_, _, ⟨T107, L107, k107, n107⟩, -, X107, hs107', hg107', ⟨Lc107, hQ107, l107, y107, z107⟩, st107⟩ := X105.specialBackS hx (y := (⟨"com/example/syndex/syndex/Rating", "<init>", "(Lcom/example/syndex/syndex/Agency;I)V"⟩ : MethodName)) rfl hown (mvT hZ (hwk hw 7 rfl)) (mvT hZ (hwk hw 8 rfl)) (mvT hZ (hwk hw 9 rfl)) (by decide) (backOfS (W := 1) (rm1 l Z a0 hw [] b105 w_Agency_SP ((p1 &&& (2147483647 : Int32)) % (22 : Int32)) w_Agency_SP_scale w_Agency_SP_scale_elements k_w_Agency_SP_scale_elements (22 : Int32) vs_w_Agency_SP_scale_elements h105 n0 O106 A105 g_b105 (show Fld Z h105 b105 "com/example/syndex/syndex/Rating" "agency" "Lcom/example/syndex/syndex/Agency;" .null from D105 (Or.inr (hwk hw 50 rfl)) (ty := (.object "com/example/syndex/syndex/Agency")) (by decide)) (show Fld Z h105 b105 "com/example/syndex/syndex/Rating" "rank" "I" (.int (0 : Int32)) from D105 (Or.inr (hwk hw 52 rfl)) (ty := .int) (by decide)) E_w_Agency_SP F_w_Agency_SP_scale E_w_Agency_SP_scale F_w_Agency_SP_scale_elements V_w_Agency_SP_scale_elements (own_rem p1 22 (by decide)).1 (own_rem p1 22 (by decide)).2) hZ (hwk hw 9 rfl) (hwk hw 6 rfl) (by decide) (by decide)) (g := (mkF m 66 #[.val (.int p0), .val (.int p1), .val (.int p2), .val (.int (0 : Int32)), .val (.ref w_Agency_SP), .val (.int (22 : Int32)), .val (.int ((p1 &&& (2147483647 : Int32)) % (22 : Int32))), .val (.int ((p2 &&& (2147483647 : Int32)) % (22 : Int32))), .unset, .unset] [(.int ((p1 &&& (2147483647 : Int32)) % (22 : Int32))), (.ref w_Agency_SP), (.ref b105), (.ref b105)])) rfl (by rw [hml]; rfl) (Steps.refl _) (a := b105) (argsL := [(.ref w_Agency_SP), (.int ((p1 &&& (2147483647 : Int32)) % (22 : Int32)))]) (rest := [(.ref b105)]) (lenOf pd_4 rfl) rfl (by show 2 * 0 + _ ≤ _; exact Nat.le_of_eq rfl) (hb hby at_66) (fun _ _ => ⟨rfl, e105, (by decide : 1 + 2 ≤ _), (by decide : 2 + 28 ≤ _)⟩)
    dsimp only [Pt.U, Pt.locs, Pt.cells, Pt.slots] at X107 l107 y107 z107 st107 hQ107 hs107' hg107'
    subst l107 y107 z107
    obtain ⟨X107b, hS107, hZ107, hown107⟩ := rebS hS0 (show _ ≤ T105.heap.size from by rw [e105]; exact (Nat.le_trans (Nat.le_refl _) (Nat.le_trans (Nat.le_refl _) E105.1))) X107 hs107' hg107' hZ hown
    unfold Q_rm1 at hQ107
    obtain ⟨rfl, N107q, K107, f107_0, f107_1, f107_2⟩ := hQ107
    have N107 := Fr.app N0 N107q
    have O108 : Old Z n0 T107.heap := Old.keep O106 K107 (allS g_b105 all0)
    obtain ⟨T109, h109, X109, e109, E109, A109, D109, -, st109⟩ := newO X107b hx hZ107 hown107 (hwk hw 4 rfl) (hwk hw 5 rfl) (hwk hw 6 rfl) (rfl : T107.heap = T107.heap) (g := (mkF m 71 #[.val (.int p0), .val (.int p1), .val (.int p2), .val (.int (0 : Int32)), .val (.ref w_Agency_SP), .val (.int (22 : Int32)), .val (.int ((p1 &&& (2147483647 : Int32)) % (22 : Int32))), .val (.int ((p2 &&& (2147483647 : Int32)) % (22 : Int32))), .val (.ref b105), .unset] [])) rfl (hb hby at_71) (by decide) (by decide)
    obtain ⟨b109, g109⟩ : ∃ z, z = T107.heap.size := ⟨_, rfl⟩
    rw [← g109] at A109 D109 st109
    have g_b109 : n0 ≤ b109 := Nat.le_trans (old_le O108) (Nat.le_of_eq g109.symm)
    have O110 : Old Z n0 h109 := Old.ext O108 E109
    obtain ⟨_, _, ⟨T111, L111, k111, n111⟩, -, X111, hs111', hg111', ⟨Lc111, hQ111, l111, y111, z111⟩, st111⟩ := X109.specialBackS hx (y := (⟨"com/example/syndex/syndex/Rating", "<init>", "(Lcom/example/syndex/syndex/Agency;I)V"⟩ : MethodName)) rfl hown107 (mvT hZ107 (hwk hw 7 rfl)) (mvT hZ107 (hwk hw 8 rfl)) (mvT hZ107 (hwk hw 9 rfl)) (by decide) (backOfS (W := 1) (rm1 l Z a0 hw [] b109 w_Agency_SP ((p2 &&& (2147483647 : Int32)) % (22 : Int32)) w_Agency_SP_scale w_Agency_SP_scale_elements k_w_Agency_SP_scale_elements (22 : Int32) vs_w_Agency_SP_scale_elements h109 n0 O110 A109 g_b109 (show Fld Z h109 b109 "com/example/syndex/syndex/Rating" "agency" "Lcom/example/syndex/syndex/Agency;" .null from D109 (Or.inr (hwk hw 50 rfl)) (ty := (.object "com/example/syndex/syndex/Agency")) (by decide)) (show Fld Z h109 b109 "com/example/syndex/syndex/Rating" "rank" "I" (.int (0 : Int32)) from D109 (Or.inr (hwk hw 52 rfl)) (ty := .int) (by decide)) E_w_Agency_SP F_w_Agency_SP_scale E_w_Agency_SP_scale F_w_Agency_SP_scale_elements V_w_Agency_SP_scale_elements (own_rem p2 22 (by decide)).1 (own_rem p2 22 (by decide)).2) hZ107 (hwk hw 9 rfl) (hwk hw 6 rfl) (by decide) (by decide)) (g := (mkF m 79 #[.val (.int p0), .val (.int p1), .val (.int p2), .val (.int (0 : Int32)), .val (.ref w_Agency_SP), .val (.int (22 : Int32)), .val (.int ((p1 &&& (2147483647 : Int32)) % (22 : Int32))), .val (.int ((p2 &&& (2147483647 : Int32)) % (22 : Int32))), .val (.ref b105), .unset] [(.int ((p2 &&& (2147483647 : Int32)) % (22 : Int32))), (.ref w_Agency_SP), (.ref b109), (.ref b109)])) rfl (by rw [hml]; rfl) (Steps.refl _) (a := b109) (argsL := [(.ref w_Agency_SP), (.int ((p2 &&& (2147483647 : Int32)) % (22 : Int32)))]) (rest := [(.ref b109)]) (lenOf pd_4 rfl) rfl (by show 2 * 0 + _ ≤ _; exact Nat.le_of_eq rfl) (hb hby at_79) (fun _ _ => ⟨rfl, e109, (by decide : 4 + 2 ≤ _), (by decide : 32 + 28 ≤ _)⟩)
    dsimp only [Pt.U, Pt.locs, Pt.cells, Pt.slots] at X111 l111 y111 z111 st111 hQ111 hs111' hg111'
    subst l111 y111 z111
    obtain ⟨X111b, hS111, hZ111, hown111⟩ := rebS hS107 (show _ ≤ T109.heap.size from by rw [e109]; exact (Nat.le_trans (Nat.le_refl _) (Nat.le_trans (Nat.le_refl _) E109.1))) X111 hs111' hg111' hZ107 hown107
    unfold Q_rm1 at hQ111
    obtain ⟨rfl, N111q, K111, f111_0, f111_1, f111_2⟩ := hQ111
    have N111 := Fr.app N107 N111q
    have c112 : Fld Z T111.heap b105 "com/example/syndex/syndex/Rating" "agency" "Lcom/example/syndex/syndex/Agency;" (.ref w_Agency_SP) := (Fld.keep (Fld.ext E109 f107_1) K111 (ninS (Nat.ne_of_lt (Nat.lt_of_lt_of_le (f107_0).lt (Nat.le_of_eq g109.symm))) nin0))
    have c113 : Fld Z T111.heap b105 "com/example/syndex/syndex/Rating" "rank" "I" (.int ((p1 &&& (2147483647 : Int32)) % (22 : Int32))) := (Fld.keep (Fld.ext E109 f107_2) K111 (ninS (Nat.ne_of_lt (Nat.lt_of_lt_of_le (f107_0).lt (Nat.le_of_eq g109.symm))) nin0))
    have O114 : Old Z n0 T111.heap := Old.keep O110 K111 (allS g_b109 all0)
    have c116 : Exa Z T111.heap b105 "com/example/syndex/syndex/Rating" := (Exa.keep (Exa.ext E109 f107_0) K111)
    obtain ⟨cq115, kq115, q115a, q115b, q115c⟩ := isOf hZ111 (rfl : T111.heap = T111.heap) c116
    obtain ⟨_, _, ⟨T115, L115, k115, n115⟩, -, X115, ⟨Lc115, hQ115, l115, y115, z115⟩, st115⟩ := X111b.virtualBack hx (y := (⟨"com/example/syndex/syndex/Rating", "isAtLeast", "(Lcom/example/syndex/syndex/Rating;)Z"⟩ : MethodName)) (z := (⟨"com/example/syndex/syndex/Rating", "isAtLeast", "(Lcom/example/syndex/syndex/Rating;)Z"⟩ : MethodName)) hown111 (mvT hZ111 (hwk hw 53 rfl)) (mvT hZ111 (hwk hw 54 rfl)) (notFace_of_selects (args := #[]) (mvT hZ111 (hwk hw 56 rfl))) (mvT hZ111 (hwk hw 56 rfl)) (mvT hZ111 (hwk hw 55 rfl)) (by decide) (backOf (W := 0) (rm7 l Z a0 hw [] b105 b109 w_Agency_SP ((p1 &&& (2147483647 : Int32)) % (22 : Int32)) ((p2 &&& (2147483647 : Int32)) % (22 : Int32)) T111.heap n0 O114 c112 f111_1 c113 f111_2) hZ111 (hwk hw 57 rfl) (hwk hw 6 rfl) (by decide) (by decide)) q115a q115c (g := (mkF m 88 #[.val (.int p0), .val (.int p1), .val (.int p2), .val (.int (0 : Int32)), .val (.ref w_Agency_SP), .val (.int (22 : Int32)), .val (.int ((p1 &&& (2147483647 : Int32)) % (22 : Int32))), .val (.int ((p2 &&& (2147483647 : Int32)) % (22 : Int32))), .val (.ref b105), .val (.ref b109)] [(.ref b109), (.ref b105)])) rfl (by rw [hml]; rfl) (Steps.refl _) (argsL := [(.ref b109)]) (rest := []) (lenOf pd_5 rfl) rfl (by show 2 * 0 + _ ≤ _; exact Nat.le_of_eq rfl) (hb hby at_88) (fun _ _ => ⟨rfl, (rfl : T111.heap = T111.heap), (by decide : 6 + 0 ≤ _), (by decide : 60 + 0 ≤ _)⟩)
    dsimp only [Pt.U, Pt.locs, Pt.cells, Pt.slots] at X115 l115 y115 z115 st115 hQ115
    subst l115 y115 z115
    unfold Q_rm7 at hQ115
    obtain ⟨rfl, N115q, e115⟩ := hQ115
    have N115 := Fr.app N111 N115q
    have S117 : ∀ t, Steps p.tables e below (T115.setTop (mkF m 95 #[.val (.int p0), .val (.int p1), .val (.int p2), .val (.int (0 : Int32)), .val (.ref w_Agency_SP), .val (.int (22 : Int32)), .val (.int ((p1 &&& (2147483647 : Int32)) % (22 : Int32))), .val (.int ((p2 &&& (2147483647 : Int32)) % (22 : Int32))), .val (.ref b105), .val (.ref b109)] [(.int ((p2 &&& (2147483647 : Int32)) % (22 : Int32))), (.int ((p1 &&& (2147483647 : Int32)) % (22 : Int32))), (.int (V7 ((p1 &&& (2147483647 : Int32)) % (22 : Int32)) ((p2 &&& (2147483647 : Int32)) % (22 : Int32))))])) t → Steps p.tables e below (s₁.setTop (entryFrame m #[(.int p0), (.int p1), (.int p2)] maxLocals)) t := fun t k => by
      refine S102 t ?_
      show Steps p.tables e below (s₁.setTop (mkF m 3 #[.val (.int p0), .val (.int p1), .val (.int p2), .unset, .unset, .unset, .unset, .unset, .unset, .unset] [(.int (p0 &&& (1 : Int32)))])) _
      refine XS.ifYes X0.here hx rfl (pc0 := 3) (pc' := 10) rfl (hb hby at_3) rfl ((if0 _ _).trans (teq hc101).1) (by decide) (by decide) ?_
      show Steps p.tables e below (s₁.setTop (mkF m 10 #[.val (.int p0), .val (.int p1), .val (.int p2), .unset, .unset, .unset, .unset, .unset, .unset, .unset] [])) _
      refine XS.iconst X0.here hx rfl (hb hby at_10) ?_
      show Steps p.tables e below (s₁.setTop (mkF m 11 #[.val (.int p0), .val (.int p1), .val (.int p2), .unset, .unset, .unset, .unset, .unset, .unset, .unset] [(.int (0 : Int32))])) _
      refine XS.istoreN X0.here hx rfl (hb hby at_11) rfl (l' := #[.val (.int p0), .val (.int p1), .val (.int p2), .val (.int (0 : Int32)), .unset, .unset, .unset, .unset, .unset, .unset]) rfl ?_
      show Steps p.tables e below (s₁.setTop (mkF m 12 #[.val (.int p0), .val (.int p1), .val (.int p2), .val (.int (0 : Int32)), .unset, .unset, .unset, .unset, .unset, .unset] [])) _
      refine XS.iloadN X0.here hx rfl (hb hby at_12) rfl ?_
      show Steps p.tables e below (s₁.setTop (mkF m 13 #[.val (.int p0), .val (.int p1), .val (.int p2), .val (.int (0 : Int32)), .unset, .unset, .unset, .unset, .unset, .unset] [(.int (0 : Int32))])) _
      refine XS.ifYes X0.here hx rfl (pc0 := 13) (pc' := 22) rfl (hb hby at_13) rfl ((if0 _ _).trans (teq (by decide : (0 : Int32) = (0 : Int32))).1) (by decide) (by decide) ?_
      show Steps p.tables e below (s₁.setTop (mkF m 22 #[.val (.int p0), .val (.int p1), .val (.int p2), .val (.int (0 : Int32)), .unset, .unset, .unset, .unset, .unset, .unset] [])) _
      refine st104 _ ?_
      show Steps p.tables e below (T104.setTop (mkF m 25 #[.val (.int p0), .val (.int p1), .val (.int p2), .val (.int (0 : Int32)), .unset, .unset, .unset, .unset, .unset, .unset] [(.ref w_Agency_SP)])) _
      refine XS.astore X104.here hx rfl (hb hby at_25) rfl rfl (l' := #[.val (.int p0), .val (.int p1), .val (.int p2), .val (.int (0 : Int32)), .val (.ref w_Agency_SP), .unset, .unset, .unset, .unset, .unset]) rfl ?_
      show Steps p.tables e below (T104.setTop (mkF m 27 #[.val (.int p0), .val (.int p1), .val (.int p2), .val (.int (0 : Int32)), .val (.ref w_Agency_SP), .unset, .unset, .unset, .unset, .unset] [])) _
      refine XS.iloadN X104.here hx rfl (hb hby at_27) rfl ?_
      show Steps p.tables e below (T104.setTop (mkF m 28 #[.val (.int p0), .val (.int p1), .val (.int p2), .val (.int (0 : Int32)), .val (.ref w_Agency_SP), .unset, .unset, .unset, .unset, .unset] [(.int (0 : Int32))])) _
      refine XS.ifYes X104.here hx rfl (pc0 := 28) (pc' := 36) rfl (hb hby at_28) rfl ((if0 _ _).trans (teq (by decide : (0 : Int32) = (0 : Int32))).1) (by decide) (by decide) ?_
      show Steps p.tables e below (T104.setTop (mkF m 36 #[.val (.int p0), .val (.int p1), .val (.int p2), .val (.int (0 : Int32)), .val (.ref w_Agency_SP), .unset, .unset, .unset, .unset, .unset] [])) _
      refine XS.bipush X104.here hx rfl (hb hby at_36) ?_
      show Steps p.tables e below (T104.setTop (mkF m 38 #[.val (.int p0), .val (.int p1), .val (.int p2), .val (.int (0 : Int32)), .val (.ref w_Agency_SP), .unset, .unset, .unset, .unset, .unset] [(.int (22 : Int32))])) _
      refine XS.istore X104.here hx rfl (hb hby at_38) rfl (l' := #[.val (.int p0), .val (.int p1), .val (.int p2), .val (.int (0 : Int32)), .val (.ref w_Agency_SP), .val (.int (22 : Int32)), .unset, .unset, .unset, .unset]) rfl ?_
      show Steps p.tables e below (T104.setTop (mkF m 40 #[.val (.int p0), .val (.int p1), .val (.int p2), .val (.int (0 : Int32)), .val (.ref w_Agency_SP), .val (.int (22 : Int32)), .unset, .unset, .unset, .unset] [])) _
      refine XS.iloadN X104.here hx rfl (hb hby at_40) rfl ?_
      show Steps p.tables e below (T104.setTop (mkF m 41 #[.val (.int p0), .val (.int p1), .val (.int p2), .val (.int (0 : Int32)), .val (.ref w_Agency_SP), .val (.int (22 : Int32)), .unset, .unset, .unset, .unset] [(.int p1)])) _
      refine X104.ldcInt hx hown (mvT hZ (hwk hw 3 rfl)) (g := (mkF m 41 #[.val (.int p0), .val (.int p1), .val (.int p2), .val (.int (0 : Int32)), .val (.ref w_Agency_SP), .val (.int (22 : Int32)), .unset, .unset, .unset, .unset] [(.int p1)])) rfl (hb hby at_41) _ ?_
      show Steps p.tables e below (T104.setTop (mkF m 43 #[.val (.int p0), .val (.int p1), .val (.int p2), .val (.int (0 : Int32)), .val (.ref w_Agency_SP), .val (.int (22 : Int32)), .unset, .unset, .unset, .unset] [(.int (2147483647 : Int32)), (.int p1)])) _
      refine XS.iand X104.here hx rfl (hb hby at_43) rfl ?_
      show Steps p.tables e below (T104.setTop (mkF m 44 #[.val (.int p0), .val (.int p1), .val (.int p2), .val (.int (0 : Int32)), .val (.ref w_Agency_SP), .val (.int (22 : Int32)), .unset, .unset, .unset, .unset] [(.int (p1 &&& (2147483647 : Int32)))])) _
      refine XS.iload X104.here hx rfl (hb hby at_44) rfl ?_
      show Steps p.tables e below (T104.setTop (mkF m 46 #[.val (.int p0), .val (.int p1), .val (.int p2), .val (.int (0 : Int32)), .val (.ref w_Agency_SP), .val (.int (22 : Int32)), .unset, .unset, .unset, .unset] [(.int (22 : Int32)), (.int (p1 &&& (2147483647 : Int32)))])) _
      refine Jvm.RoadKit.iremM (g := (mkF m 46 #[.val (.int p0), .val (.int p1), .val (.int p2), .val (.int (0 : Int32)), .val (.ref w_Agency_SP), .val (.int (22 : Int32)), .unset, .unset, .unset, .unset] [(.int (22 : Int32)), (.int (p1 &&& (2147483647 : Int32)))])) X104 hx rfl (hb hby at_46) rfl (by decide) ?_
      show Steps p.tables e below (T104.setTop (mkF m 47 #[.val (.int p0), .val (.int p1), .val (.int p2), .val (.int (0 : Int32)), .val (.ref w_Agency_SP), .val (.int (22 : Int32)), .unset, .unset, .unset, .unset] [(.int ((p1 &&& (2147483647 : Int32)) % (22 : Int32)))])) _
      refine XS.istore X104.here hx rfl (hb hby at_47) rfl (l' := #[.val (.int p0), .val (.int p1), .val (.int p2), .val (.int (0 : Int32)), .val (.ref w_Agency_SP), .val (.int (22 : Int32)), .val (.int ((p1 &&& (2147483647 : Int32)) % (22 : Int32))), .unset, .unset, .unset]) rfl ?_
      show Steps p.tables e below (T104.setTop (mkF m 49 #[.val (.int p0), .val (.int p1), .val (.int p2), .val (.int (0 : Int32)), .val (.ref w_Agency_SP), .val (.int (22 : Int32)), .val (.int ((p1 &&& (2147483647 : Int32)) % (22 : Int32))), .unset, .unset, .unset] [])) _
      refine XS.iloadN X104.here hx rfl (hb hby at_49) rfl ?_
      show Steps p.tables e below (T104.setTop (mkF m 50 #[.val (.int p0), .val (.int p1), .val (.int p2), .val (.int (0 : Int32)), .val (.ref w_Agency_SP), .val (.int (22 : Int32)), .val (.int ((p1 &&& (2147483647 : Int32)) % (22 : Int32))), .unset, .unset, .unset] [(.int p2)])) _
      refine X104.ldcInt hx hown (mvT hZ (hwk hw 3 rfl)) (g := (mkF m 50 #[.val (.int p0), .val (.int p1), .val (.int p2), .val (.int (0 : Int32)), .val (.ref w_Agency_SP), .val (.int (22 : Int32)), .val (.int ((p1 &&& (2147483647 : Int32)) % (22 : Int32))), .unset, .unset, .unset] [(.int p2)])) rfl (hb hby at_50) _ ?_
      show Steps p.tables e below (T104.setTop (mkF m 52 #[.val (.int p0), .val (.int p1), .val (.int p2), .val (.int (0 : Int32)), .val (.ref w_Agency_SP), .val (.int (22 : Int32)), .val (.int ((p1 &&& (2147483647 : Int32)) % (22 : Int32))), .unset, .unset, .unset] [(.int (2147483647 : Int32)), (.int p2)])) _
      refine XS.iand X104.here hx rfl (hb hby at_52) rfl ?_
      show Steps p.tables e below (T104.setTop (mkF m 53 #[.val (.int p0), .val (.int p1), .val (.int p2), .val (.int (0 : Int32)), .val (.ref w_Agency_SP), .val (.int (22 : Int32)), .val (.int ((p1 &&& (2147483647 : Int32)) % (22 : Int32))), .unset, .unset, .unset] [(.int (p2 &&& (2147483647 : Int32)))])) _
      refine XS.iload X104.here hx rfl (hb hby at_53) rfl ?_
      show Steps p.tables e below (T104.setTop (mkF m 55 #[.val (.int p0), .val (.int p1), .val (.int p2), .val (.int (0 : Int32)), .val (.ref w_Agency_SP), .val (.int (22 : Int32)), .val (.int ((p1 &&& (2147483647 : Int32)) % (22 : Int32))), .unset, .unset, .unset] [(.int (22 : Int32)), (.int (p2 &&& (2147483647 : Int32)))])) _
      refine Jvm.RoadKit.iremM (g := (mkF m 55 #[.val (.int p0), .val (.int p1), .val (.int p2), .val (.int (0 : Int32)), .val (.ref w_Agency_SP), .val (.int (22 : Int32)), .val (.int ((p1 &&& (2147483647 : Int32)) % (22 : Int32))), .unset, .unset, .unset] [(.int (22 : Int32)), (.int (p2 &&& (2147483647 : Int32)))])) X104 hx rfl (hb hby at_55) rfl (by decide) ?_
      show Steps p.tables e below (T104.setTop (mkF m 56 #[.val (.int p0), .val (.int p1), .val (.int p2), .val (.int (0 : Int32)), .val (.ref w_Agency_SP), .val (.int (22 : Int32)), .val (.int ((p1 &&& (2147483647 : Int32)) % (22 : Int32))), .unset, .unset, .unset] [(.int ((p2 &&& (2147483647 : Int32)) % (22 : Int32)))])) _
      refine XS.istore X104.here hx rfl (hb hby at_56) rfl (l' := #[.val (.int p0), .val (.int p1), .val (.int p2), .val (.int (0 : Int32)), .val (.ref w_Agency_SP), .val (.int (22 : Int32)), .val (.int ((p1 &&& (2147483647 : Int32)) % (22 : Int32))), .val (.int ((p2 &&& (2147483647 : Int32)) % (22 : Int32))), .unset, .unset]) rfl ?_
      show Steps p.tables e below (T104.setTop (mkF m 58 #[.val (.int p0), .val (.int p1), .val (.int p2), .val (.int (0 : Int32)), .val (.ref w_Agency_SP), .val (.int (22 : Int32)), .val (.int ((p1 &&& (2147483647 : Int32)) % (22 : Int32))), .val (.int ((p2 &&& (2147483647 : Int32)) % (22 : Int32))), .unset, .unset] [])) _
      refine st105 _ ?_
      show Steps p.tables e below (T105.setTop (mkF m 61 #[.val (.int p0), .val (.int p1), .val (.int p2), .val (.int (0 : Int32)), .val (.ref w_Agency_SP), .val (.int (22 : Int32)), .val (.int ((p1 &&& (2147483647 : Int32)) % (22 : Int32))), .val (.int ((p2 &&& (2147483647 : Int32)) % (22 : Int32))), .unset, .unset] [(.ref b105)])) _
      refine XS.dup X105.here hx rfl (hb hby at_61) rfl rfl ?_
      show Steps p.tables e below (T105.setTop (mkF m 62 #[.val (.int p0), .val (.int p1), .val (.int p2), .val (.int (0 : Int32)), .val (.ref w_Agency_SP), .val (.int (22 : Int32)), .val (.int ((p1 &&& (2147483647 : Int32)) % (22 : Int32))), .val (.int ((p2 &&& (2147483647 : Int32)) % (22 : Int32))), .unset, .unset] [(.ref b105), (.ref b105)])) _
      refine XS.aload X105.here hx rfl (hb hby at_62) rfl rfl ?_
      show Steps p.tables e below (T105.setTop (mkF m 64 #[.val (.int p0), .val (.int p1), .val (.int p2), .val (.int (0 : Int32)), .val (.ref w_Agency_SP), .val (.int (22 : Int32)), .val (.int ((p1 &&& (2147483647 : Int32)) % (22 : Int32))), .val (.int ((p2 &&& (2147483647 : Int32)) % (22 : Int32))), .unset, .unset] [(.ref w_Agency_SP), (.ref b105), (.ref b105)])) _
      refine XS.iload X105.here hx rfl (hb hby at_64) rfl ?_
      show Steps p.tables e below (T105.setTop (mkF m 66 #[.val (.int p0), .val (.int p1), .val (.int p2), .val (.int (0 : Int32)), .val (.ref w_Agency_SP), .val (.int (22 : Int32)), .val (.int ((p1 &&& (2147483647 : Int32)) % (22 : Int32))), .val (.int ((p2 &&& (2147483647 : Int32)) % (22 : Int32))), .unset, .unset] [(.int ((p1 &&& (2147483647 : Int32)) % (22 : Int32))), (.ref w_Agency_SP), (.ref b105), (.ref b105)])) _
      refine st107.trans ?_
      show Steps p.tables e below (T107.setTop (mkF m 69 #[.val (.int p0), .val (.int p1), .val (.int p2), .val (.int (0 : Int32)), .val (.ref w_Agency_SP), .val (.int (22 : Int32)), .val (.int ((p1 &&& (2147483647 : Int32)) % (22 : Int32))), .val (.int ((p2 &&& (2147483647 : Int32)) % (22 : Int32))), .unset, .unset] [(.ref b105)])) _
      refine XS.astore X107b.here hx rfl (hb hby at_69) rfl rfl (l' := #[.val (.int p0), .val (.int p1), .val (.int p2), .val (.int (0 : Int32)), .val (.ref w_Agency_SP), .val (.int (22 : Int32)), .val (.int ((p1 &&& (2147483647 : Int32)) % (22 : Int32))), .val (.int ((p2 &&& (2147483647 : Int32)) % (22 : Int32))), .val (.ref b105), .unset]) rfl ?_
      show Steps p.tables e below (T107.setTop (mkF m 71 #[.val (.int p0), .val (.int p1), .val (.int p2), .val (.int (0 : Int32)), .val (.ref w_Agency_SP), .val (.int (22 : Int32)), .val (.int ((p1 &&& (2147483647 : Int32)) % (22 : Int32))), .val (.int ((p2 &&& (2147483647 : Int32)) % (22 : Int32))), .val (.ref b105), .unset] [])) _
      refine st109 _ ?_
      show Steps p.tables e below (T109.setTop (mkF m 74 #[.val (.int p0), .val (.int p1), .val (.int p2), .val (.int (0 : Int32)), .val (.ref w_Agency_SP), .val (.int (22 : Int32)), .val (.int ((p1 &&& (2147483647 : Int32)) % (22 : Int32))), .val (.int ((p2 &&& (2147483647 : Int32)) % (22 : Int32))), .val (.ref b105), .unset] [(.ref b109)])) _
      refine XS.dup X109.here hx rfl (hb hby at_74) rfl rfl ?_
      show Steps p.tables e below (T109.setTop (mkF m 75 #[.val (.int p0), .val (.int p1), .val (.int p2), .val (.int (0 : Int32)), .val (.ref w_Agency_SP), .val (.int (22 : Int32)), .val (.int ((p1 &&& (2147483647 : Int32)) % (22 : Int32))), .val (.int ((p2 &&& (2147483647 : Int32)) % (22 : Int32))), .val (.ref b105), .unset] [(.ref b109), (.ref b109)])) _
      refine XS.aload X109.here hx rfl (hb hby at_75) rfl rfl ?_
      show Steps p.tables e below (T109.setTop (mkF m 77 #[.val (.int p0), .val (.int p1), .val (.int p2), .val (.int (0 : Int32)), .val (.ref w_Agency_SP), .val (.int (22 : Int32)), .val (.int ((p1 &&& (2147483647 : Int32)) % (22 : Int32))), .val (.int ((p2 &&& (2147483647 : Int32)) % (22 : Int32))), .val (.ref b105), .unset] [(.ref w_Agency_SP), (.ref b109), (.ref b109)])) _
      refine XS.iload X109.here hx rfl (hb hby at_77) rfl ?_
      show Steps p.tables e below (T109.setTop (mkF m 79 #[.val (.int p0), .val (.int p1), .val (.int p2), .val (.int (0 : Int32)), .val (.ref w_Agency_SP), .val (.int (22 : Int32)), .val (.int ((p1 &&& (2147483647 : Int32)) % (22 : Int32))), .val (.int ((p2 &&& (2147483647 : Int32)) % (22 : Int32))), .val (.ref b105), .unset] [(.int ((p2 &&& (2147483647 : Int32)) % (22 : Int32))), (.ref w_Agency_SP), (.ref b109), (.ref b109)])) _
      refine st111.trans ?_
      show Steps p.tables e below (T111.setTop (mkF m 82 #[.val (.int p0), .val (.int p1), .val (.int p2), .val (.int (0 : Int32)), .val (.ref w_Agency_SP), .val (.int (22 : Int32)), .val (.int ((p1 &&& (2147483647 : Int32)) % (22 : Int32))), .val (.int ((p2 &&& (2147483647 : Int32)) % (22 : Int32))), .val (.ref b105), .unset] [(.ref b109)])) _
      refine XS.astore X111b.here hx rfl (hb hby at_82) rfl rfl (l' := #[.val (.int p0), .val (.int p1), .val (.int p2), .val (.int (0 : Int32)), .val (.ref w_Agency_SP), .val (.int (22 : Int32)), .val (.int ((p1 &&& (2147483647 : Int32)) % (22 : Int32))), .val (.int ((p2 &&& (2147483647 : Int32)) % (22 : Int32))), .val (.ref b105), .val (.ref b109)]) rfl ?_
      show Steps p.tables e below (T111.setTop (mkF m 84 #[.val (.int p0), .val (.int p1), .val (.int p2), .val (.int (0 : Int32)), .val (.ref w_Agency_SP), .val (.int (22 : Int32)), .val (.int ((p1 &&& (2147483647 : Int32)) % (22 : Int32))), .val (.int ((p2 &&& (2147483647 : Int32)) % (22 : Int32))), .val (.ref b105), .val (.ref b109)] [])) _
      refine XS.aload X111b.here hx rfl (hb hby at_84) rfl rfl ?_
      show Steps p.tables e below (T111.setTop (mkF m 86 #[.val (.int p0), .val (.int p1), .val (.int p2), .val (.int (0 : Int32)), .val (.ref w_Agency_SP), .val (.int (22 : Int32)), .val (.int ((p1 &&& (2147483647 : Int32)) % (22 : Int32))), .val (.int ((p2 &&& (2147483647 : Int32)) % (22 : Int32))), .val (.ref b105), .val (.ref b109)] [(.ref b105)])) _
      refine XS.aload X111b.here hx rfl (hb hby at_86) rfl rfl ?_
      show Steps p.tables e below (T111.setTop (mkF m 88 #[.val (.int p0), .val (.int p1), .val (.int p2), .val (.int (0 : Int32)), .val (.ref w_Agency_SP), .val (.int (22 : Int32)), .val (.int ((p1 &&& (2147483647 : Int32)) % (22 : Int32))), .val (.int ((p2 &&& (2147483647 : Int32)) % (22 : Int32))), .val (.ref b105), .val (.ref b109)] [(.ref b109), (.ref b105)])) _
      refine st115.trans ?_
      show Steps p.tables e below (T115.setTop (mkF m 91 #[.val (.int p0), .val (.int p1), .val (.int p2), .val (.int (0 : Int32)), .val (.ref w_Agency_SP), .val (.int (22 : Int32)), .val (.int ((p1 &&& (2147483647 : Int32)) % (22 : Int32))), .val (.int ((p2 &&& (2147483647 : Int32)) % (22 : Int32))), .val (.ref b105), .val (.ref b109)] [(.int (V7 ((p1 &&& (2147483647 : Int32)) % (22 : Int32)) ((p2 &&& (2147483647 : Int32)) % (22 : Int32))))])) _
      refine XS.iload X115.here hx rfl (hb hby at_91) rfl ?_
      show Steps p.tables e below (T115.setTop (mkF m 93 #[.val (.int p0), .val (.int p1), .val (.int p2), .val (.int (0 : Int32)), .val (.ref w_Agency_SP), .val (.int (22 : Int32)), .val (.int ((p1 &&& (2147483647 : Int32)) % (22 : Int32))), .val (.int ((p2 &&& (2147483647 : Int32)) % (22 : Int32))), .val (.ref b105), .val (.ref b109)] [(.int ((p1 &&& (2147483647 : Int32)) % (22 : Int32))), (.int (V7 ((p1 &&& (2147483647 : Int32)) % (22 : Int32)) ((p2 &&& (2147483647 : Int32)) % (22 : Int32))))])) _
      refine XS.iload X115.here hx rfl (hb hby at_93) rfl ?_
      exact k
    have S119 : ∀ t, Steps p.tables e below (T115.setTop (mkF m 103 #[.val (.int p0), .val (.int p1), .val (.int p2), .val (.int (0 : Int32)), .val (.ref w_Agency_SP), .val (.int (22 : Int32)), .val (.int ((p1 &&& (2147483647 : Int32)) % (22 : Int32))), .val (.int ((p2 &&& (2147483647 : Int32)) % (22 : Int32))), .val (.ref b105), .val (.ref b109)] [(.int (if ((p2 &&& (2147483647 : Int32)) % (22 : Int32)) < ((p1 &&& (2147483647 : Int32)) % (22 : Int32)) then (0 : Int32) else (1 : Int32))), (.int (V7 ((p1 &&& (2147483647 : Int32)) % (22 : Int32)) ((p2 &&& (2147483647 : Int32)) % (22 : Int32))))])) t → Steps p.tables e below (s₁.setTop (entryFrame m #[(.int p0), (.int p1), (.int p2)] maxLocals)) t := by
      by_cases hc118 : ((p2 &&& (2147483647 : Int32)) % (22 : Int32)) < ((p1 &&& (2147483647 : Int32)) % (22 : Int32))
      · intro t k
        try simp only [if_pos hc118] at k
        refine S117 t ?_
        show Steps p.tables e below (T115.setTop (mkF m 95 #[.val (.int p0), .val (.int p1), .val (.int p2), .val (.int (0 : Int32)), .val (.ref w_Agency_SP), .val (.int (22 : Int32)), .val (.int ((p1 &&& (2147483647 : Int32)) % (22 : Int32))), .val (.int ((p2 &&& (2147483647 : Int32)) % (22 : Int32))), .val (.ref b105), .val (.ref b109)] [(.int ((p2 &&& (2147483647 : Int32)) % (22 : Int32))), (.int ((p1 &&& (2147483647 : Int32)) % (22 : Int32))), (.int (V7 ((p1 &&& (2147483647 : Int32)) % (22 : Int32)) ((p2 &&& (2147483647 : Int32)) % (22 : Int32))))])) _
        refine XS.icmpYes X115.here hx rfl (pc0 := 95) (pc' := 102) rfl (hb hby at_95) rfl (tlt hc118).2.2.1 (by decide) (by decide) ?_
        show Steps p.tables e below (T115.setTop (mkF m 102 #[.val (.int p0), .val (.int p1), .val (.int p2), .val (.int (0 : Int32)), .val (.ref w_Agency_SP), .val (.int (22 : Int32)), .val (.int ((p1 &&& (2147483647 : Int32)) % (22 : Int32))), .val (.int ((p2 &&& (2147483647 : Int32)) % (22 : Int32))), .val (.ref b105), .val (.ref b109)] [(.int (V7 ((p1 &&& (2147483647 : Int32)) % (22 : Int32)) ((p2 &&& (2147483647 : Int32)) % (22 : Int32))))])) _
        refine XS.iconst X115.here hx rfl (hb hby at_102) ?_
        exact k
      · intro t k
        try simp only [if_neg hc118] at k
        refine S117 t ?_
        show Steps p.tables e below (T115.setTop (mkF m 95 #[.val (.int p0), .val (.int p1), .val (.int p2), .val (.int (0 : Int32)), .val (.ref w_Agency_SP), .val (.int (22 : Int32)), .val (.int ((p1 &&& (2147483647 : Int32)) % (22 : Int32))), .val (.int ((p2 &&& (2147483647 : Int32)) % (22 : Int32))), .val (.ref b105), .val (.ref b109)] [(.int ((p2 &&& (2147483647 : Int32)) % (22 : Int32))), (.int ((p1 &&& (2147483647 : Int32)) % (22 : Int32))), (.int (V7 ((p1 &&& (2147483647 : Int32)) % (22 : Int32)) ((p2 &&& (2147483647 : Int32)) % (22 : Int32))))])) _
        refine XS.icmpNo X115.here hx rfl (hb hby at_95) rfl (flt hc118).2.2.1 ?_
        show Steps p.tables e below (T115.setTop (mkF m 98 #[.val (.int p0), .val (.int p1), .val (.int p2), .val (.int (0 : Int32)), .val (.ref w_Agency_SP), .val (.int (22 : Int32)), .val (.int ((p1 &&& (2147483647 : Int32)) % (22 : Int32))), .val (.int ((p2 &&& (2147483647 : Int32)) % (22 : Int32))), .val (.ref b105), .val (.ref b109)] [(.int (V7 ((p1 &&& (2147483647 : Int32)) % (22 : Int32)) ((p2 &&& (2147483647 : Int32)) % (22 : Int32))))])) _
        refine XS.iconst X115.here hx rfl (hb hby at_98) ?_
        show Steps p.tables e below (T115.setTop (mkF m 99 #[.val (.int p0), .val (.int p1), .val (.int p2), .val (.int (0 : Int32)), .val (.ref w_Agency_SP), .val (.int (22 : Int32)), .val (.int ((p1 &&& (2147483647 : Int32)) % (22 : Int32))), .val (.int ((p2 &&& (2147483647 : Int32)) % (22 : Int32))), .val (.ref b105), .val (.ref b109)] [(.int (1 : Int32)), (.int (V7 ((p1 &&& (2147483647 : Int32)) % (22 : Int32)) ((p2 &&& (2147483647 : Int32)) % (22 : Int32))))])) _
        refine XS.goto X115.here hx rfl (pc0 := 99) (pc' := 103) rfl (hb hby at_99) (by decide) (by decide) ?_
        exact k
    obtain ⟨cq120, kq120, q120a, q120b, q120c⟩ := isOf hZ111 e115 f111_0
    obtain ⟨_, _, ⟨T120, L120, k120, n120⟩, -, X120, ⟨Lc120, hQ120, l120, y120, z120⟩, st120⟩ := X115.virtualBack hx (y := (⟨"com/example/syndex/syndex/Rating", "isAtLeast", "(Lcom/example/syndex/syndex/Rating;)Z"⟩ : MethodName)) (z := (⟨"com/example/syndex/syndex/Rating", "isAtLeast", "(Lcom/example/syndex/syndex/Rating;)Z"⟩ : MethodName)) hown111 (mvT hZ111 (hwk hw 53 rfl)) (mvT hZ111 (hwk hw 54 rfl)) (notFace_of_selects (args := #[]) (mvT hZ111 (hwk hw 56 rfl))) (mvT hZ111 (hwk hw 56 rfl)) (mvT hZ111 (hwk hw 55 rfl)) (by decide) (backOf (W := 0) (rm7 l Z a0 hw [] b109 b105 w_Agency_SP ((p2 &&& (2147483647 : Int32)) % (22 : Int32)) ((p1 &&& (2147483647 : Int32)) % (22 : Int32)) T111.heap n0 O114 f111_1 c112 f111_2 c113) hZ111 (hwk hw 57 rfl) (hwk hw 6 rfl) (by decide) (by decide)) q120a q120c (g := (mkF m 110 #[.val (.int p0), .val (.int p1), .val (.int p2), .val (.int (0 : Int32)), .val (.ref w_Agency_SP), .val (.int (22 : Int32)), .val (.int ((p1 &&& (2147483647 : Int32)) % (22 : Int32))), .val (.int ((p2 &&& (2147483647 : Int32)) % (22 : Int32))), .val (.ref b105), .val (.ref b109)] [(.ref b105), (.ref b109)])) rfl (by rw [hml]; rfl) (Steps.refl _) (argsL := [(.ref b105)]) (rest := []) (lenOf pd_5 rfl) rfl (by show 2 * 0 + _ ≤ _; exact Nat.le_of_eq rfl) (hb hby at_110) (fun _ _ => ⟨rfl, e115, (by decide : 6 + 0 ≤ _), (by decide : 60 + 0 ≤ _)⟩)
    dsimp only [Pt.U, Pt.locs, Pt.cells, Pt.slots] at X120 l120 y120 z120 st120 hQ120
    subst l120 y120 z120
    unfold Q_rm7 at hQ120
    obtain ⟨rfl, N120q, e120⟩ := hQ120
    have N120 := Fr.app N115 N120q
    have S121 : ∀ t, Steps p.tables e below (T120.setTop (mkF m 117 #[.val (.int p0), .val (.int p1), .val (.int p2), .val (.int (0 : Int32)), .val (.ref w_Agency_SP), .val (.int (22 : Int32)), .val (.int ((p1 &&& (2147483647 : Int32)) % (22 : Int32))), .val (.int ((p2 &&& (2147483647 : Int32)) % (22 : Int32))), .val (.ref b105), .val (.ref b109)] [(.int ((p1 &&& (2147483647 : Int32)) % (22 : Int32))), (.int ((p2 &&& (2147483647 : Int32)) % (22 : Int32))), (.int (V7 ((p2 &&& (2147483647 : Int32)) % (22 : Int32)) ((p1 &&& (2147483647 : Int32)) % (22 : Int32))))])) t → Steps p.tables e below (s₁.setTop (entryFrame m #[(.int p0), (.int p1), (.int p2)] maxLocals)) t := fun t k => by
      refine S119 t ?_
      show Steps p.tables e below (T115.setTop (mkF m 103 #[.val (.int p0), .val (.int p1), .val (.int p2), .val (.int (0 : Int32)), .val (.ref w_Agency_SP), .val (.int (22 : Int32)), .val (.int ((p1 &&& (2147483647 : Int32)) % (22 : Int32))), .val (.int ((p2 &&& (2147483647 : Int32)) % (22 : Int32))), .val (.ref b105), .val (.ref b109)] [(.int (if ((p2 &&& (2147483647 : Int32)) % (22 : Int32)) < ((p1 &&& (2147483647 : Int32)) % (22 : Int32)) then (0 : Int32) else (1 : Int32))), (.int (V7 ((p1 &&& (2147483647 : Int32)) % (22 : Int32)) ((p2 &&& (2147483647 : Int32)) % (22 : Int32))))])) _
      refine XS.icmpNo X115.here hx rfl (hb hby at_103) rfl (teq (rfl : (V7 ((p1 &&& (2147483647 : Int32)) % (22 : Int32)) ((p2 &&& (2147483647 : Int32)) % (22 : Int32))) = (if ((p2 &&& (2147483647 : Int32)) % (22 : Int32)) < ((p1 &&& (2147483647 : Int32)) % (22 : Int32)) then (0 : Int32) else (1 : Int32)))).2 ?_
      show Steps p.tables e below (T115.setTop (mkF m 106 #[.val (.int p0), .val (.int p1), .val (.int p2), .val (.int (0 : Int32)), .val (.ref w_Agency_SP), .val (.int (22 : Int32)), .val (.int ((p1 &&& (2147483647 : Int32)) % (22 : Int32))), .val (.int ((p2 &&& (2147483647 : Int32)) % (22 : Int32))), .val (.ref b105), .val (.ref b109)] [])) _
      refine XS.aload X115.here hx rfl (hb hby at_106) rfl rfl ?_
      show Steps p.tables e below (T115.setTop (mkF m 108 #[.val (.int p0), .val (.int p1), .val (.int p2), .val (.int (0 : Int32)), .val (.ref w_Agency_SP), .val (.int (22 : Int32)), .val (.int ((p1 &&& (2147483647 : Int32)) % (22 : Int32))), .val (.int ((p2 &&& (2147483647 : Int32)) % (22 : Int32))), .val (.ref b105), .val (.ref b109)] [(.ref b109)])) _
      refine XS.aload X115.here hx rfl (hb hby at_108) rfl rfl ?_
      show Steps p.tables e below (T115.setTop (mkF m 110 #[.val (.int p0), .val (.int p1), .val (.int p2), .val (.int (0 : Int32)), .val (.ref w_Agency_SP), .val (.int (22 : Int32)), .val (.int ((p1 &&& (2147483647 : Int32)) % (22 : Int32))), .val (.int ((p2 &&& (2147483647 : Int32)) % (22 : Int32))), .val (.ref b105), .val (.ref b109)] [(.ref b105), (.ref b109)])) _
      refine st120.trans ?_
      show Steps p.tables e below (T120.setTop (mkF m 113 #[.val (.int p0), .val (.int p1), .val (.int p2), .val (.int (0 : Int32)), .val (.ref w_Agency_SP), .val (.int (22 : Int32)), .val (.int ((p1 &&& (2147483647 : Int32)) % (22 : Int32))), .val (.int ((p2 &&& (2147483647 : Int32)) % (22 : Int32))), .val (.ref b105), .val (.ref b109)] [(.int (V7 ((p2 &&& (2147483647 : Int32)) % (22 : Int32)) ((p1 &&& (2147483647 : Int32)) % (22 : Int32))))])) _
      refine XS.iload X120.here hx rfl (hb hby at_113) rfl ?_
      show Steps p.tables e below (T120.setTop (mkF m 115 #[.val (.int p0), .val (.int p1), .val (.int p2), .val (.int (0 : Int32)), .val (.ref w_Agency_SP), .val (.int (22 : Int32)), .val (.int ((p1 &&& (2147483647 : Int32)) % (22 : Int32))), .val (.int ((p2 &&& (2147483647 : Int32)) % (22 : Int32))), .val (.ref b105), .val (.ref b109)] [(.int ((p2 &&& (2147483647 : Int32)) % (22 : Int32))), (.int (V7 ((p2 &&& (2147483647 : Int32)) % (22 : Int32)) ((p1 &&& (2147483647 : Int32)) % (22 : Int32))))])) _
      refine XS.iload X120.here hx rfl (hb hby at_115) rfl ?_
      exact k
    have S123 : ∀ t, Steps p.tables e below (T120.setTop (mkF m 125 #[.val (.int p0), .val (.int p1), .val (.int p2), .val (.int (0 : Int32)), .val (.ref w_Agency_SP), .val (.int (22 : Int32)), .val (.int ((p1 &&& (2147483647 : Int32)) % (22 : Int32))), .val (.int ((p2 &&& (2147483647 : Int32)) % (22 : Int32))), .val (.ref b105), .val (.ref b109)] [(.int (if ((p1 &&& (2147483647 : Int32)) % (22 : Int32)) < ((p2 &&& (2147483647 : Int32)) % (22 : Int32)) then (0 : Int32) else (1 : Int32))), (.int (V7 ((p2 &&& (2147483647 : Int32)) % (22 : Int32)) ((p1 &&& (2147483647 : Int32)) % (22 : Int32))))])) t → Steps p.tables e below (s₁.setTop (entryFrame m #[(.int p0), (.int p1), (.int p2)] maxLocals)) t := by
      by_cases hc122 : ((p1 &&& (2147483647 : Int32)) % (22 : Int32)) < ((p2 &&& (2147483647 : Int32)) % (22 : Int32))
      · intro t k
        try simp only [if_pos hc122] at k
        refine S121 t ?_
        show Steps p.tables e below (T120.setTop (mkF m 117 #[.val (.int p0), .val (.int p1), .val (.int p2), .val (.int (0 : Int32)), .val (.ref w_Agency_SP), .val (.int (22 : Int32)), .val (.int ((p1 &&& (2147483647 : Int32)) % (22 : Int32))), .val (.int ((p2 &&& (2147483647 : Int32)) % (22 : Int32))), .val (.ref b105), .val (.ref b109)] [(.int ((p1 &&& (2147483647 : Int32)) % (22 : Int32))), (.int ((p2 &&& (2147483647 : Int32)) % (22 : Int32))), (.int (V7 ((p2 &&& (2147483647 : Int32)) % (22 : Int32)) ((p1 &&& (2147483647 : Int32)) % (22 : Int32))))])) _
        refine XS.icmpYes X120.here hx rfl (pc0 := 117) (pc' := 124) rfl (hb hby at_117) rfl (tlt hc122).2.2.1 (by decide) (by decide) ?_
        show Steps p.tables e below (T120.setTop (mkF m 124 #[.val (.int p0), .val (.int p1), .val (.int p2), .val (.int (0 : Int32)), .val (.ref w_Agency_SP), .val (.int (22 : Int32)), .val (.int ((p1 &&& (2147483647 : Int32)) % (22 : Int32))), .val (.int ((p2 &&& (2147483647 : Int32)) % (22 : Int32))), .val (.ref b105), .val (.ref b109)] [(.int (V7 ((p2 &&& (2147483647 : Int32)) % (22 : Int32)) ((p1 &&& (2147483647 : Int32)) % (22 : Int32))))])) _
        refine XS.iconst X120.here hx rfl (hb hby at_124) ?_
        exact k
      · intro t k
        try simp only [if_neg hc122] at k
        refine S121 t ?_
        show Steps p.tables e below (T120.setTop (mkF m 117 #[.val (.int p0), .val (.int p1), .val (.int p2), .val (.int (0 : Int32)), .val (.ref w_Agency_SP), .val (.int (22 : Int32)), .val (.int ((p1 &&& (2147483647 : Int32)) % (22 : Int32))), .val (.int ((p2 &&& (2147483647 : Int32)) % (22 : Int32))), .val (.ref b105), .val (.ref b109)] [(.int ((p1 &&& (2147483647 : Int32)) % (22 : Int32))), (.int ((p2 &&& (2147483647 : Int32)) % (22 : Int32))), (.int (V7 ((p2 &&& (2147483647 : Int32)) % (22 : Int32)) ((p1 &&& (2147483647 : Int32)) % (22 : Int32))))])) _
        refine XS.icmpNo X120.here hx rfl (hb hby at_117) rfl (flt hc122).2.2.1 ?_
        show Steps p.tables e below (T120.setTop (mkF m 120 #[.val (.int p0), .val (.int p1), .val (.int p2), .val (.int (0 : Int32)), .val (.ref w_Agency_SP), .val (.int (22 : Int32)), .val (.int ((p1 &&& (2147483647 : Int32)) % (22 : Int32))), .val (.int ((p2 &&& (2147483647 : Int32)) % (22 : Int32))), .val (.ref b105), .val (.ref b109)] [(.int (V7 ((p2 &&& (2147483647 : Int32)) % (22 : Int32)) ((p1 &&& (2147483647 : Int32)) % (22 : Int32))))])) _
        refine XS.iconst X120.here hx rfl (hb hby at_120) ?_
        show Steps p.tables e below (T120.setTop (mkF m 121 #[.val (.int p0), .val (.int p1), .val (.int p2), .val (.int (0 : Int32)), .val (.ref w_Agency_SP), .val (.int (22 : Int32)), .val (.int ((p1 &&& (2147483647 : Int32)) % (22 : Int32))), .val (.int ((p2 &&& (2147483647 : Int32)) % (22 : Int32))), .val (.ref b105), .val (.ref b109)] [(.int (1 : Int32)), (.int (V7 ((p2 &&& (2147483647 : Int32)) % (22 : Int32)) ((p1 &&& (2147483647 : Int32)) % (22 : Int32))))])) _
        refine XS.goto X120.here hx rfl (pc0 := 121) (pc' := 125) rfl (hb hby at_121) (by decide) (by decide) ?_
        exact k
    have K124 : Keep h0 h105 [] := Keep.ext (Keep.refl h0 []) E105
    have K125 : Keep h0 T107.heap [] := Keep.trans K124 K107 (allS (Or.inr (Nat.le_trans (Nat.le_refl _) (Nat.le_of_eq g105.symm))) all0)
    have K126 : Keep h0 h109 [] := Keep.ext K125 E109
    have K127 : Keep h0 T111.heap [] := Keep.trans K126 K111 (allS (Or.inr (Nat.le_trans (Nat.le_trans (Nat.le_trans (Nat.le_refl _) E105.1) K107.1) (Nat.le_of_eq g109.symm))) all0)
    obtain ⟨fs, hr, hrun, hended, hRE⟩ := X120.leaveW hS111 (show _ ≤ T120.heap.size from by rw [e120]; exact (Nat.le_refl _)) (v := some (.int (1 : Int32))) (fun h => by rw [Bd.returns] at h; cases h)
    refine ⟨_, _, S123 _ ?_, hrun, hended, _, _, rfl, ?_, hRE.1, hRE.2.1, hRE.2.2.1, hRE.2.2.2.mono (by decide) (by decide)⟩
    · show Steps p.tables e below (T120.setTop (mkF m 125 #[.val (.int p0), .val (.int p1), .val (.int p2), .val (.int (0 : Int32)), .val (.ref w_Agency_SP), .val (.int (22 : Int32)), .val (.int ((p1 &&& (2147483647 : Int32)) % (22 : Int32))), .val (.int ((p2 &&& (2147483647 : Int32)) % (22 : Int32))), .val (.ref b105), .val (.ref b109)] [(.int (if ((p1 &&& (2147483647 : Int32)) % (22 : Int32)) < ((p2 &&& (2147483647 : Int32)) % (22 : Int32)) then (0 : Int32) else (1 : Int32))), (.int (V7 ((p2 &&& (2147483647 : Int32)) % (22 : Int32)) ((p1 &&& (2147483647 : Int32)) % (22 : Int32))))])) _
      refine XS.icmpNo X120.here hx rfl (hb hby at_125) rfl (teq (rfl : (V7 ((p2 &&& (2147483647 : Int32)) % (22 : Int32)) ((p1 &&& (2147483647 : Int32)) % (22 : Int32))) = (if ((p1 &&& (2147483647 : Int32)) % (22 : Int32)) < ((p2 &&& (2147483647 : Int32)) % (22 : Int32)) then (0 : Int32) else (1 : Int32)))).2 ?_
      show Steps p.tables e below (T120.setTop (mkF m 128 #[.val (.int p0), .val (.int p1), .val (.int p2), .val (.int (0 : Int32)), .val (.ref w_Agency_SP), .val (.int (22 : Int32)), .val (.int ((p1 &&& (2147483647 : Int32)) % (22 : Int32))), .val (.int ((p2 &&& (2147483647 : Int32)) % (22 : Int32))), .val (.ref b105), .val (.ref b109)] [])) _
      refine XS.iconst X120.here hx rfl (hb hby at_128) ?_
      show Steps p.tables e below (T120.setTop (mkF m 129 #[.val (.int p0), .val (.int p1), .val (.int p2), .val (.int (0 : Int32)), .val (.ref w_Agency_SP), .val (.int (22 : Int32)), .val (.int ((p1 &&& (2147483647 : Int32)) % (22 : Int32))), .val (.int ((p2 &&& (2147483647 : Int32)) % (22 : Int32))), .val (.ref b105), .val (.ref b109)] [(.int (1 : Int32))])) _
      refine XS.goto X120.here hx rfl (pc0 := 129) (pc' := 133) rfl (hb hby at_129) (by decide) (by decide) ?_
      show Steps p.tables e below (T120.setTop (mkF m 133 #[.val (.int p0), .val (.int p1), .val (.int p2), .val (.int (0 : Int32)), .val (.ref w_Agency_SP), .val (.int (22 : Int32)), .val (.int ((p1 &&& (2147483647 : Int32)) % (22 : Int32))), .val (.int ((p2 &&& (2147483647 : Int32)) % (22 : Int32))), .val (.ref b105), .val (.ref b109)] [(.int (1 : Int32))])) _
      exact Jvm.RoadKit.retOut X120 hx Bd.returns rfl (Or.inl ⟨rfl, by simp, _, rfl⟩) (hb hby at_133) hr
    · show Q_rm0 Z p0 p1 p2 w_Agency_SP w_Agency_MOODYS w_Agency_SP_scale w_Agency_MOODYS_scale w_Agency_SP_scale_elements w_Agency_MOODYS_scale_elements k_w_Agency_SP_scale_elements vs_w_Agency_SP_scale_elements k_w_Agency_MOODYS_scale_elements vs_w_Agency_MOODYS_scale_elements h0 n0 _ T120.heap _
      rw [e120]
      unfold Q_rm0
      exact ⟨rfl, N120, K127⟩
  · have c128 : Sta Z h0 "com/example/syndex/syndex/Agency" "MOODYS" "Lcom/example/syndex/syndex/Agency;" (.ref w_Agency_MOODYS) := Sta.ext (O0).2 S_Agency_MOODYS
    obtain ⟨T129, X129, e129, st129⟩ := getS2 X0 hx hZ hown (host := "") (Or.inl (hwk hw 58 rfl)) Via.refl e0 c128 (g := (mkF m 16 #[.val (.int p0), .val (.int p1), .val (.int p2), .val (.int (1 : Int32)), .unset, .unset, .unset, .unset, .unset, .unset] [])) rfl (hb hby at_16)
    obtain ⟨T130, h130, X130, e130, E130, A130, D130, -, st130⟩ := newO X129 hx hZ hown (hwk hw 4 rfl) (hwk hw 5 rfl) (hwk hw 6 rfl) e129 (g := (mkF m 58 #[.val (.int p0), .val (.int p1), .val (.int p2), .val (.int (1 : Int32)), .val (.ref w_Agency_MOODYS), .val (.int (21 : Int32)), .val (.int ((p1 &&& (2147483647 : Int32)) % (21 : Int32))), .val (.int ((p2 &&& (2147483647 : Int32)) % (21 : Int32))), .unset, .unset] [])) rfl (hb hby at_58) (by decide) (by decide)
    obtain ⟨b130, g130⟩ : ∃ z, z = h0.size := ⟨_, rfl⟩
    rw [← g130] at A130 D130 st130
    have g_b130 : n0 ≤ b130 := Nat.le_trans (old_le O0) (Nat.le_of_eq g130.symm)
    have O131 : Old Z n0 h130 := Old.ext O0 E130
    obtain ⟨_, _, ⟨T132, L132, k132, n132⟩, -, X132, hs132', hg132', ⟨Lc132, hQ132, l132, y132, z132⟩, st132⟩ := X130.specialBackS hx (y := (⟨"com/example/syndex/syndex/Rating", "<init>", "(Lcom/example/syndex/syndex/Agency;I)V"⟩ : MethodName)) rfl hown (mvT hZ (hwk hw 7 rfl)) (mvT hZ (hwk hw 8 rfl)) (mvT hZ (hwk hw 9 rfl)) (by decide) (backOfS (W := 1) (rm1 l Z a0 hw [] b130 w_Agency_MOODYS ((p1 &&& (2147483647 : Int32)) % (21 : Int32)) w_Agency_MOODYS_scale w_Agency_MOODYS_scale_elements k_w_Agency_MOODYS_scale_elements (21 : Int32) vs_w_Agency_MOODYS_scale_elements h130 n0 O131 A130 g_b130 (show Fld Z h130 b130 "com/example/syndex/syndex/Rating" "agency" "Lcom/example/syndex/syndex/Agency;" .null from D130 (Or.inr (hwk hw 50 rfl)) (ty := (.object "com/example/syndex/syndex/Agency")) (by decide)) (show Fld Z h130 b130 "com/example/syndex/syndex/Rating" "rank" "I" (.int (0 : Int32)) from D130 (Or.inr (hwk hw 52 rfl)) (ty := .int) (by decide)) E_w_Agency_MOODYS F_w_Agency_MOODYS_scale E_w_Agency_MOODYS_scale F_w_Agency_MOODYS_scale_elements V_w_Agency_MOODYS_scale_elements (own_rem p1 21 (by decide)).1 (own_rem p1 21 (by decide)).2) hZ (hwk hw 9 rfl) (hwk hw 6 rfl) (by decide) (by decide)) (g := (mkF m 66 #[.val (.int p0), .val (.int p1), .val (.int p2), .val (.int (1 : Int32)), .val (.ref w_Agency_MOODYS), .val (.int (21 : Int32)), .val (.int ((p1 &&& (2147483647 : Int32)) % (21 : Int32))), .val (.int ((p2 &&& (2147483647 : Int32)) % (21 : Int32))), .unset, .unset] [(.int ((p1 &&& (2147483647 : Int32)) % (21 : Int32))), (.ref w_Agency_MOODYS), (.ref b130), (.ref b130)])) rfl (by rw [hml]; rfl) (Steps.refl _) (a := b130) (argsL := [(.ref w_Agency_MOODYS), (.int ((p1 &&& (2147483647 : Int32)) % (21 : Int32)))]) (rest := [(.ref b130)]) (lenOf pd_4 rfl) rfl (by show 2 * 0 + _ ≤ _; exact Nat.le_of_eq rfl) (hb hby at_66) (fun _ _ => ⟨rfl, e130, (by decide : 1 + 2 ≤ _), (by decide : 2 + 28 ≤ _)⟩)
    dsimp only [Pt.U, Pt.locs, Pt.cells, Pt.slots] at X132 l132 y132 z132 st132 hQ132 hs132' hg132'
    subst l132 y132 z132
    obtain ⟨X132b, hS132, hZ132, hown132⟩ := rebS hS0 (show _ ≤ T130.heap.size from by rw [e130]; exact (Nat.le_trans (Nat.le_refl _) (Nat.le_trans (Nat.le_refl _) E130.1))) X132 hs132' hg132' hZ hown
    unfold Q_rm1 at hQ132
    obtain ⟨rfl, N132q, K132, f132_0, f132_1, f132_2⟩ := hQ132
    have N132 := Fr.app N0 N132q
    have O133 : Old Z n0 T132.heap := Old.keep O131 K132 (allS g_b130 all0)
    obtain ⟨T134, h134, X134, e134, E134, A134, D134, -, st134⟩ := newO X132b hx hZ132 hown132 (hwk hw 4 rfl) (hwk hw 5 rfl) (hwk hw 6 rfl) (rfl : T132.heap = T132.heap) (g := (mkF m 71 #[.val (.int p0), .val (.int p1), .val (.int p2), .val (.int (1 : Int32)), .val (.ref w_Agency_MOODYS), .val (.int (21 : Int32)), .val (.int ((p1 &&& (2147483647 : Int32)) % (21 : Int32))), .val (.int ((p2 &&& (2147483647 : Int32)) % (21 : Int32))), .val (.ref b130), .unset] [])) rfl (hb hby at_71) (by decide) (by decide)
    obtain ⟨b134, g134⟩ : ∃ z, z = T132.heap.size := ⟨_, rfl⟩
    rw [← g134] at A134 D134 st134
    have g_b134 : n0 ≤ b134 := Nat.le_trans (old_le O133) (Nat.le_of_eq g134.symm)
    have O135 : Old Z n0 h134 := Old.ext O133 E134
    obtain ⟨_, _, ⟨T136, L136, k136, n136⟩, -, X136, hs136', hg136', ⟨Lc136, hQ136, l136, y136, z136⟩, st136⟩ := X134.specialBackS hx (y := (⟨"com/example/syndex/syndex/Rating", "<init>", "(Lcom/example/syndex/syndex/Agency;I)V"⟩ : MethodName)) rfl hown132 (mvT hZ132 (hwk hw 7 rfl)) (mvT hZ132 (hwk hw 8 rfl)) (mvT hZ132 (hwk hw 9 rfl)) (by decide) (backOfS (W := 1) (rm1 l Z a0 hw [] b134 w_Agency_MOODYS ((p2 &&& (2147483647 : Int32)) % (21 : Int32)) w_Agency_MOODYS_scale w_Agency_MOODYS_scale_elements k_w_Agency_MOODYS_scale_elements (21 : Int32) vs_w_Agency_MOODYS_scale_elements h134 n0 O135 A134 g_b134 (show Fld Z h134 b134 "com/example/syndex/syndex/Rating" "agency" "Lcom/example/syndex/syndex/Agency;" .null from D134 (Or.inr (hwk hw 50 rfl)) (ty := (.object "com/example/syndex/syndex/Agency")) (by decide)) (show Fld Z h134 b134 "com/example/syndex/syndex/Rating" "rank" "I" (.int (0 : Int32)) from D134 (Or.inr (hwk hw 52 rfl)) (ty := .int) (by decide)) E_w_Agency_MOODYS F_w_Agency_MOODYS_scale E_w_Agency_MOODYS_scale F_w_Agency_MOODYS_scale_elements V_w_Agency_MOODYS_scale_elements (own_rem p2 21 (by decide)).1 (own_rem p2 21 (by decide)).2) hZ132 (hwk hw 9 rfl) (hwk hw 6 rfl) (by decide) (by decide)) (g := (mkF m 79 #[.val (.int p0), .val (.int p1), .val (.int p2), .val (.int (1 : Int32)), .val (.ref w_Agency_MOODYS), .val (.int (21 : Int32)), .val (.int ((p1 &&& (2147483647 : Int32)) % (21 : Int32))), .val (.int ((p2 &&& (2147483647 : Int32)) % (21 : Int32))), .val (.ref b130), .unset] [(.int ((p2 &&& (2147483647 : Int32)) % (21 : Int32))), (.ref w_Agency_MOODYS), (.ref b134), (.ref b134)])) rfl (by rw [hml]; rfl) (Steps.refl _) (a := b134) (argsL := [(.ref w_Agency_MOODYS), (.int ((p2 &&& (2147483647 : Int32)) % (21 : Int32)))]) (rest := [(.ref b134)]) (lenOf pd_4 rfl) rfl (by show 2 * 0 + _ ≤ _; exact Nat.le_of_eq rfl) (hb hby at_79) (fun _ _ => ⟨rfl, e134, (by decide : 4 + 2 ≤ _), (by decide : 32 + 28 ≤ _)⟩)
    dsimp only [Pt.U, Pt.locs, Pt.cells, Pt.slots] at X136 l136 y136 z136 st136 hQ136 hs136' hg136'
    subst l136 y136 z136
    obtain ⟨X136b, hS136, hZ136, hown136⟩ := rebS hS132 (show _ ≤ T134.heap.size from by rw [e134]; exact (Nat.le_trans (Nat.le_refl _) (Nat.le_trans (Nat.le_refl _) E134.1))) X136 hs136' hg136' hZ132 hown132
    unfold Q_rm1 at hQ136
    obtain ⟨rfl, N136q, K136, f136_0, f136_1, f136_2⟩ := hQ136
    have N136 := Fr.app N132 N136q
    have c137 : Fld Z T136.heap b130 "com/example/syndex/syndex/Rating" "agency" "Lcom/example/syndex/syndex/Agency;" (.ref w_Agency_MOODYS) := (Fld.keep (Fld.ext E134 f132_1) K136 (ninS (Nat.ne_of_lt (Nat.lt_of_lt_of_le (f132_0).lt (Nat.le_of_eq g134.symm))) nin0))
    have c138 : Fld Z T136.heap b130 "com/example/syndex/syndex/Rating" "rank" "I" (.int ((p1 &&& (2147483647 : Int32)) % (21 : Int32))) := (Fld.keep (Fld.ext E134 f132_2) K136 (ninS (Nat.ne_of_lt (Nat.lt_of_lt_of_le (f132_0).lt (Nat.le_of_eq g134.symm))) nin0))
    have O139 : Old Z n0 T136.heap := Old.keep O135 K136 (allS g_b134 all0)
    have c141 : Exa Z T136.heap b130 "com/example/syndex/syndex/Rating" := (Exa.keep (Exa.ext E134 f132_0) K136)
    obtain ⟨cq140, kq140, q140a, q140b, q140c⟩ := isOf hZ136 (rfl : T136.heap = T136.heap) c141
    obtain ⟨_, _, ⟨T140, L140, k140, n140⟩, -, X140, ⟨Lc140, hQ140, l140, y140, z140⟩, st140⟩ := X136b.virtualBack hx (y := (⟨"com/example/syndex/syndex/Rating", "isAtLeast", "(Lcom/example/syndex/syndex/Rating;)Z"⟩ : MethodName)) (z := (⟨"com/example/syndex/syndex/Rating", "isAtLeast", "(Lcom/example/syndex/syndex/Rating;)Z"⟩ : MethodName)) hown136 (mvT hZ136 (hwk hw 53 rfl)) (mvT hZ136 (hwk hw 54 rfl)) (notFace_of_selects (args := #[]) (mvT hZ136 (hwk hw 56 rfl))) (mvT hZ136 (hwk hw 56 rfl)) (mvT hZ136 (hwk hw 55 rfl)) (by decide) (backOf (W := 0) (rm7 l Z a0 hw [] b130 b134 w_Agency_MOODYS ((p1 &&& (2147483647 : Int32)) % (21 : Int32)) ((p2 &&& (2147483647 : Int32)) % (21 : Int32)) T136.heap n0 O139 c137 f136_1 c138 f136_2) hZ136 (hwk hw 57 rfl) (hwk hw 6 rfl) (by decide) (by decide)) q140a q140c (g := (mkF m 88 #[.val (.int p0), .val (.int p1), .val (.int p2), .val (.int (1 : Int32)), .val (.ref w_Agency_MOODYS), .val (.int (21 : Int32)), .val (.int ((p1 &&& (2147483647 : Int32)) % (21 : Int32))), .val (.int ((p2 &&& (2147483647 : Int32)) % (21 : Int32))), .val (.ref b130), .val (.ref b134)] [(.ref b134), (.ref b130)])) rfl (by rw [hml]; rfl) (Steps.refl _) (argsL := [(.ref b134)]) (rest := []) (lenOf pd_5 rfl) rfl (by show 2 * 0 + _ ≤ _; exact Nat.le_of_eq rfl) (hb hby at_88) (fun _ _ => ⟨rfl, (rfl : T136.heap = T136.heap), (by decide : 6 + 0 ≤ _), (by decide : 60 + 0 ≤ _)⟩)
    dsimp only [Pt.U, Pt.locs, Pt.cells, Pt.slots] at X140 l140 y140 z140 st140 hQ140
    subst l140 y140 z140
    unfold Q_rm7 at hQ140
    obtain ⟨rfl, N140q, e140⟩ := hQ140
    have N140 := Fr.app N136 N140q
    have S142 : ∀ t, Steps p.tables e below (T140.setTop (mkF m 95 #[.val (.int p0), .val (.int p1), .val (.int p2), .val (.int (1 : Int32)), .val (.ref w_Agency_MOODYS), .val (.int (21 : Int32)), .val (.int ((p1 &&& (2147483647 : Int32)) % (21 : Int32))), .val (.int ((p2 &&& (2147483647 : Int32)) % (21 : Int32))), .val (.ref b130), .val (.ref b134)] [(.int ((p2 &&& (2147483647 : Int32)) % (21 : Int32))), (.int ((p1 &&& (2147483647 : Int32)) % (21 : Int32))), (.int (V7 ((p1 &&& (2147483647 : Int32)) % (21 : Int32)) ((p2 &&& (2147483647 : Int32)) % (21 : Int32))))])) t → Steps p.tables e below (s₁.setTop (entryFrame m #[(.int p0), (.int p1), (.int p2)] maxLocals)) t := fun t k => by
      refine S102 t ?_
      show Steps p.tables e below (s₁.setTop (mkF m 3 #[.val (.int p0), .val (.int p1), .val (.int p2), .unset, .unset, .unset, .unset, .unset, .unset, .unset] [(.int (p0 &&& (1 : Int32)))])) _
      refine XS.ifNo X0.here hx rfl (hb hby at_3) rfl ((if0 _ _).trans (feq hc101).1) ?_
      show Steps p.tables e below (s₁.setTop (mkF m 6 #[.val (.int p0), .val (.int p1), .val (.int p2), .unset, .unset, .unset, .unset, .unset, .unset, .unset] [])) _
      refine XS.iconst X0.here hx rfl (hb hby at_6) ?_
      show Steps p.tables e below (s₁.setTop (mkF m 7 #[.val (.int p0), .val (.int p1), .val (.int p2), .unset, .unset, .unset, .unset, .unset, .unset, .unset] [(.int (1 : Int32))])) _
      refine XS.goto X0.here hx rfl (pc0 := 7) (pc' := 11) rfl (hb hby at_7) (by decide) (by decide) ?_
      show Steps p.tables e below (s₁.setTop (mkF m 11 #[.val (.int p0), .val (.int p1), .val (.int p2), .unset, .unset, .unset, .unset, .unset, .unset, .unset] [(.int (1 : Int32))])) _
      refine XS.istoreN X0.here hx rfl (hb hby at_11) rfl (l' := #[.val (.int p0), .val (.int p1), .val (.int p2), .val (.int (1 : Int32)), .unset, .unset, .unset, .unset, .unset, .unset]) rfl ?_
      show Steps p.tables e below (s₁.setTop (mkF m 12 #[.val (.int p0), .val (.int p1), .val (.int p2), .val (.int (1 : Int32)), .unset, .unset, .unset, .unset, .unset, .unset] [])) _
      refine XS.iloadN X0.here hx rfl (hb hby at_12) rfl ?_
      show Steps p.tables e below (s₁.setTop (mkF m 13 #[.val (.int p0), .val (.int p1), .val (.int p2), .val (.int (1 : Int32)), .unset, .unset, .unset, .unset, .unset, .unset] [(.int (1 : Int32))])) _
      refine XS.ifNo X0.here hx rfl (hb hby at_13) rfl ((if0 _ _).trans (feq (by decide : ¬ ((1 : Int32) = (0 : Int32)))).1) ?_
      show Steps p.tables e below (s₁.setTop (mkF m 16 #[.val (.int p0), .val (.int p1), .val (.int p2), .val (.int (1 : Int32)), .unset, .unset, .unset, .unset, .unset, .unset] [])) _
      refine st129 _ ?_
      show Steps p.tables e below (T129.setTop (mkF m 19 #[.val (.int p0), .val (.int p1), .val (.int p2), .val (.int (1 : Int32)), .unset, .unset, .unset, .unset, .unset, .unset] [(.ref w_Agency_MOODYS)])) _
      refine XS.goto X129.here hx rfl (pc0 := 19) (pc' := 25) rfl (hb hby at_19) (by decide) (by decide) ?_
      show Steps p.tables e below (T129.setTop (mkF m 25 #[.val (.int p0), .val (.int p1), .val (.int p2), .val (.int (1 : Int32)), .unset, .unset, .unset, .unset, .unset, .unset] [(.ref w_Agency_MOODYS)])) _
      refine XS.astore X129.here hx rfl (hb hby at_25) rfl rfl (l' := #[.val (.int p0), .val (.int p1), .val (.int p2), .val (.int (1 : Int32)), .val (.ref w_Agency_MOODYS), .unset, .unset, .unset, .unset, .unset]) rfl ?_
      show Steps p.tables e below (T129.setTop (mkF m 27 #[.val (.int p0), .val (.int p1), .val (.int p2), .val (.int (1 : Int32)), .val (.ref w_Agency_MOODYS), .unset, .unset, .unset, .unset, .unset] [])) _
      refine XS.iloadN X129.here hx rfl (hb hby at_27) rfl ?_
      show Steps p.tables e below (T129.setTop (mkF m 28 #[.val (.int p0), .val (.int p1), .val (.int p2), .val (.int (1 : Int32)), .val (.ref w_Agency_MOODYS), .unset, .unset, .unset, .unset, .unset] [(.int (1 : Int32))])) _
      refine XS.ifNo X129.here hx rfl (hb hby at_28) rfl ((if0 _ _).trans (feq (by decide : ¬ ((1 : Int32) = (0 : Int32)))).1) ?_
      show Steps p.tables e below (T129.setTop (mkF m 31 #[.val (.int p0), .val (.int p1), .val (.int p2), .val (.int (1 : Int32)), .val (.ref w_Agency_MOODYS), .unset, .unset, .unset, .unset, .unset] [])) _
      refine XS.bipush X129.here hx rfl (hb hby at_31) ?_
      show Steps p.tables e below (T129.setTop (mkF m 33 #[.val (.int p0), .val (.int p1), .val (.int p2), .val (.int (1 : Int32)), .val (.ref w_Agency_MOODYS), .unset, .unset, .unset, .unset, .unset] [(.int (21 : Int32))])) _
      refine XS.goto X129.here hx rfl (pc0 := 33) (pc' := 38) rfl (hb hby at_33) (by decide) (by decide) ?_
      show Steps p.tables e below (T129.setTop (mkF m 38 #[.val (.int p0), .val (.int p1), .val (.int p2), .val (.int (1 : Int32)), .val (.ref w_Agency_MOODYS), .unset, .unset, .unset, .unset, .unset] [(.int (21 : Int32))])) _
      refine XS.istore X129.here hx rfl (hb hby at_38) rfl (l' := #[.val (.int p0), .val (.int p1), .val (.int p2), .val (.int (1 : Int32)), .val (.ref w_Agency_MOODYS), .val (.int (21 : Int32)), .unset, .unset, .unset, .unset]) rfl ?_
      show Steps p.tables e below (T129.setTop (mkF m 40 #[.val (.int p0), .val (.int p1), .val (.int p2), .val (.int (1 : Int32)), .val (.ref w_Agency_MOODYS), .val (.int (21 : Int32)), .unset, .unset, .unset, .unset] [])) _
      refine XS.iloadN X129.here hx rfl (hb hby at_40) rfl ?_
      show Steps p.tables e below (T129.setTop (mkF m 41 #[.val (.int p0), .val (.int p1), .val (.int p2), .val (.int (1 : Int32)), .val (.ref w_Agency_MOODYS), .val (.int (21 : Int32)), .unset, .unset, .unset, .unset] [(.int p1)])) _
      refine X129.ldcInt hx hown (mvT hZ (hwk hw 3 rfl)) (g := (mkF m 41 #[.val (.int p0), .val (.int p1), .val (.int p2), .val (.int (1 : Int32)), .val (.ref w_Agency_MOODYS), .val (.int (21 : Int32)), .unset, .unset, .unset, .unset] [(.int p1)])) rfl (hb hby at_41) _ ?_
      show Steps p.tables e below (T129.setTop (mkF m 43 #[.val (.int p0), .val (.int p1), .val (.int p2), .val (.int (1 : Int32)), .val (.ref w_Agency_MOODYS), .val (.int (21 : Int32)), .unset, .unset, .unset, .unset] [(.int (2147483647 : Int32)), (.int p1)])) _
      refine XS.iand X129.here hx rfl (hb hby at_43) rfl ?_
      show Steps p.tables e below (T129.setTop (mkF m 44 #[.val (.int p0), .val (.int p1), .val (.int p2), .val (.int (1 : Int32)), .val (.ref w_Agency_MOODYS), .val (.int (21 : Int32)), .unset, .unset, .unset, .unset] [(.int (p1 &&& (2147483647 : Int32)))])) _
      refine XS.iload X129.here hx rfl (hb hby at_44) rfl ?_
      show Steps p.tables e below (T129.setTop (mkF m 46 #[.val (.int p0), .val (.int p1), .val (.int p2), .val (.int (1 : Int32)), .val (.ref w_Agency_MOODYS), .val (.int (21 : Int32)), .unset, .unset, .unset, .unset] [(.int (21 : Int32)), (.int (p1 &&& (2147483647 : Int32)))])) _
      refine Jvm.RoadKit.iremM (g := (mkF m 46 #[.val (.int p0), .val (.int p1), .val (.int p2), .val (.int (1 : Int32)), .val (.ref w_Agency_MOODYS), .val (.int (21 : Int32)), .unset, .unset, .unset, .unset] [(.int (21 : Int32)), (.int (p1 &&& (2147483647 : Int32)))])) X129 hx rfl (hb hby at_46) rfl (by decide) ?_
      show Steps p.tables e below (T129.setTop (mkF m 47 #[.val (.int p0), .val (.int p1), .val (.int p2), .val (.int (1 : Int32)), .val (.ref w_Agency_MOODYS), .val (.int (21 : Int32)), .unset, .unset, .unset, .unset] [(.int ((p1 &&& (2147483647 : Int32)) % (21 : Int32)))])) _
      refine XS.istore X129.here hx rfl (hb hby at_47) rfl (l' := #[.val (.int p0), .val (.int p1), .val (.int p2), .val (.int (1 : Int32)), .val (.ref w_Agency_MOODYS), .val (.int (21 : Int32)), .val (.int ((p1 &&& (2147483647 : Int32)) % (21 : Int32))), .unset, .unset, .unset]) rfl ?_
      show Steps p.tables e below (T129.setTop (mkF m 49 #[.val (.int p0), .val (.int p1), .val (.int p2), .val (.int (1 : Int32)), .val (.ref w_Agency_MOODYS), .val (.int (21 : Int32)), .val (.int ((p1 &&& (2147483647 : Int32)) % (21 : Int32))), .unset, .unset, .unset] [])) _
      refine XS.iloadN X129.here hx rfl (hb hby at_49) rfl ?_
      show Steps p.tables e below (T129.setTop (mkF m 50 #[.val (.int p0), .val (.int p1), .val (.int p2), .val (.int (1 : Int32)), .val (.ref w_Agency_MOODYS), .val (.int (21 : Int32)), .val (.int ((p1 &&& (2147483647 : Int32)) % (21 : Int32))), .unset, .unset, .unset] [(.int p2)])) _
      refine X129.ldcInt hx hown (mvT hZ (hwk hw 3 rfl)) (g := (mkF m 50 #[.val (.int p0), .val (.int p1), .val (.int p2), .val (.int (1 : Int32)), .val (.ref w_Agency_MOODYS), .val (.int (21 : Int32)), .val (.int ((p1 &&& (2147483647 : Int32)) % (21 : Int32))), .unset, .unset, .unset] [(.int p2)])) rfl (hb hby at_50) _ ?_
      show Steps p.tables e below (T129.setTop (mkF m 52 #[.val (.int p0), .val (.int p1), .val (.int p2), .val (.int (1 : Int32)), .val (.ref w_Agency_MOODYS), .val (.int (21 : Int32)), .val (.int ((p1 &&& (2147483647 : Int32)) % (21 : Int32))), .unset, .unset, .unset] [(.int (2147483647 : Int32)), (.int p2)])) _
      refine XS.iand X129.here hx rfl (hb hby at_52) rfl ?_
      show Steps p.tables e below (T129.setTop (mkF m 53 #[.val (.int p0), .val (.int p1), .val (.int p2), .val (.int (1 : Int32)), .val (.ref w_Agency_MOODYS), .val (.int (21 : Int32)), .val (.int ((p1 &&& (2147483647 : Int32)) % (21 : Int32))), .unset, .unset, .unset] [(.int (p2 &&& (2147483647 : Int32)))])) _
      refine XS.iload X129.here hx rfl (hb hby at_53) rfl ?_
      show Steps p.tables e below (T129.setTop (mkF m 55 #[.val (.int p0), .val (.int p1), .val (.int p2), .val (.int (1 : Int32)), .val (.ref w_Agency_MOODYS), .val (.int (21 : Int32)), .val (.int ((p1 &&& (2147483647 : Int32)) % (21 : Int32))), .unset, .unset, .unset] [(.int (21 : Int32)), (.int (p2 &&& (2147483647 : Int32)))])) _
      refine Jvm.RoadKit.iremM (g := (mkF m 55 #[.val (.int p0), .val (.int p1), .val (.int p2), .val (.int (1 : Int32)), .val (.ref w_Agency_MOODYS), .val (.int (21 : Int32)), .val (.int ((p1 &&& (2147483647 : Int32)) % (21 : Int32))), .unset, .unset, .unset] [(.int (21 : Int32)), (.int (p2 &&& (2147483647 : Int32)))])) X129 hx rfl (hb hby at_55) rfl (by decide) ?_
      show Steps p.tables e below (T129.setTop (mkF m 56 #[.val (.int p0), .val (.int p1), .val (.int p2), .val (.int (1 : Int32)), .val (.ref w_Agency_MOODYS), .val (.int (21 : Int32)), .val (.int ((p1 &&& (2147483647 : Int32)) % (21 : Int32))), .unset, .unset, .unset] [(.int ((p2 &&& (2147483647 : Int32)) % (21 : Int32)))])) _
      refine XS.istore X129.here hx rfl (hb hby at_56) rfl (l' := #[.val (.int p0), .val (.int p1), .val (.int p2), .val (.int (1 : Int32)), .val (.ref w_Agency_MOODYS), .val (.int (21 : Int32)), .val (.int ((p1 &&& (2147483647 : Int32)) % (21 : Int32))), .val (.int ((p2 &&& (2147483647 : Int32)) % (21 : Int32))), .unset, .unset]) rfl ?_
      show Steps p.tables e below (T129.setTop (mkF m 58 #[.val (.int p0), .val (.int p1), .val (.int p2), .val (.int (1 : Int32)), .val (.ref w_Agency_MOODYS), .val (.int (21 : Int32)), .val (.int ((p1 &&& (2147483647 : Int32)) % (21 : Int32))), .val (.int ((p2 &&& (2147483647 : Int32)) % (21 : Int32))), .unset, .unset] [])) _
      refine st130 _ ?_
      show Steps p.tables e below (T130.setTop (mkF m 61 #[.val (.int p0), .val (.int p1), .val (.int p2), .val (.int (1 : Int32)), .val (.ref w_Agency_MOODYS), .val (.int (21 : Int32)), .val (.int ((p1 &&& (2147483647 : Int32)) % (21 : Int32))), .val (.int ((p2 &&& (2147483647 : Int32)) % (21 : Int32))), .unset, .unset] [(.ref b130)])) _
      refine XS.dup X130.here hx rfl (hb hby at_61) rfl rfl ?_
      show Steps p.tables e below (T130.setTop (mkF m 62 #[.val (.int p0), .val (.int p1), .val (.int p2), .val (.int (1 : Int32)), .val (.ref w_Agency_MOODYS), .val (.int (21 : Int32)), .val (.int ((p1 &&& (2147483647 : Int32)) % (21 : Int32))), .val (.int ((p2 &&& (2147483647 : Int32)) % (21 : Int32))), .unset, .unset] [(.ref b130), (.ref b130)])) _
      refine XS.aload X130.here hx rfl (hb hby at_62) rfl rfl ?_
      show Steps p.tables e below (T130.setTop (mkF m 64 #[.val (.int p0), .val (.int p1), .val (.int p2), .val (.int (1 : Int32)), .val (.ref w_Agency_MOODYS), .val (.int (21 : Int32)), .val (.int ((p1 &&& (2147483647 : Int32)) % (21 : Int32))), .val (.int ((p2 &&& (2147483647 : Int32)) % (21 : Int32))), .unset, .unset] [(.ref w_Agency_MOODYS), (.ref b130), (.ref b130)])) _
      refine XS.iload X130.here hx rfl (hb hby at_64) rfl ?_
      show Steps p.tables e below (T130.setTop (mkF m 66 #[.val (.int p0), .val (.int p1), .val (.int p2), .val (.int (1 : Int32)), .val (.ref w_Agency_MOODYS), .val (.int (21 : Int32)), .val (.int ((p1 &&& (2147483647 : Int32)) % (21 : Int32))), .val (.int ((p2 &&& (2147483647 : Int32)) % (21 : Int32))), .unset, .unset] [(.int ((p1 &&& (2147483647 : Int32)) % (21 : Int32))), (.ref w_Agency_MOODYS), (.ref b130), (.ref b130)])) _
      refine st132.trans ?_
      show Steps p.tables e below (T132.setTop (mkF m 69 #[.val (.int p0), .val (.int p1), .val (.int p2), .val (.int (1 : Int32)), .val (.ref w_Agency_MOODYS), .val (.int (21 : Int32)), .val (.int ((p1 &&& (2147483647 : Int32)) % (21 : Int32))), .val (.int ((p2 &&& (2147483647 : Int32)) % (21 : Int32))), .unset, .unset] [(.ref b130)])) _
      refine XS.astore X132b.here hx rfl (hb hby at_69) rfl rfl (l' := #[.val (.int p0), .val (.int p1), .val (.int p2), .val (.int (1 : Int32)), .val (.ref w_Agency_MOODYS), .val (.int (21 : Int32)), .val (.int ((p1 &&& (2147483647 : Int32)) % (21 : Int32))), .val (.int ((p2 &&& (2147483647 : Int32)) % (21 : Int32))), .val (.ref b130), .unset]) rfl ?_
      show Steps p.tables e below (T132.setTop (mkF m 71 #[.val (.int p0), .val (.int p1), .val (.int p2), .val (.int (1 : Int32)), .val (.ref w_Agency_MOODYS), .val (.int (21 : Int32)), .val (.int ((p1 &&& (2147483647 : Int32)) % (21 : Int32))), .val (.int ((p2 &&& (2147483647 : Int32)) % (21 : Int32))), .val (.ref b130), .unset] [])) _
      refine st134 _ ?_
      show Steps p.tables e below (T134.setTop (mkF m 74 #[.val (.int p0), .val (.int p1), .val (.int p2), .val (.int (1 : Int32)), .val (.ref w_Agency_MOODYS), .val (.int (21 : Int32)), .val (.int ((p1 &&& (2147483647 : Int32)) % (21 : Int32))), .val (.int ((p2 &&& (2147483647 : Int32)) % (21 : Int32))), .val (.ref b130), .unset] [(.ref b134)])) _
      refine XS.dup X134.here hx rfl (hb hby at_74) rfl rfl ?_
      show Steps p.tables e below (T134.setTop (mkF m 75 #[.val (.int p0), .val (.int p1), .val (.int p2), .val (.int (1 : Int32)), .val (.ref w_Agency_MOODYS), .val (.int (21 : Int32)), .val (.int ((p1 &&& (2147483647 : Int32)) % (21 : Int32))), .val (.int ((p2 &&& (2147483647 : Int32)) % (21 : Int32))), .val (.ref b130), .unset] [(.ref b134), (.ref b134)])) _
      refine XS.aload X134.here hx rfl (hb hby at_75) rfl rfl ?_
      show Steps p.tables e below (T134.setTop (mkF m 77 #[.val (.int p0), .val (.int p1), .val (.int p2), .val (.int (1 : Int32)), .val (.ref w_Agency_MOODYS), .val (.int (21 : Int32)), .val (.int ((p1 &&& (2147483647 : Int32)) % (21 : Int32))), .val (.int ((p2 &&& (2147483647 : Int32)) % (21 : Int32))), .val (.ref b130), .unset] [(.ref w_Agency_MOODYS), (.ref b134), (.ref b134)])) _
      refine XS.iload X134.here hx rfl (hb hby at_77) rfl ?_
      show Steps p.tables e below (T134.setTop (mkF m 79 #[.val (.int p0), .val (.int p1), .val (.int p2), .val (.int (1 : Int32)), .val (.ref w_Agency_MOODYS), .val (.int (21 : Int32)), .val (.int ((p1 &&& (2147483647 : Int32)) % (21 : Int32))), .val (.int ((p2 &&& (2147483647 : Int32)) % (21 : Int32))), .val (.ref b130), .unset] [(.int ((p2 &&& (2147483647 : Int32)) % (21 : Int32))), (.ref w_Agency_MOODYS), (.ref b134), (.ref b134)])) _
      refine st136.trans ?_
      show Steps p.tables e below (T136.setTop (mkF m 82 #[.val (.int p0), .val (.int p1), .val (.int p2), .val (.int (1 : Int32)), .val (.ref w_Agency_MOODYS), .val (.int (21 : Int32)), .val (.int ((p1 &&& (2147483647 : Int32)) % (21 : Int32))), .val (.int ((p2 &&& (2147483647 : Int32)) % (21 : Int32))), .val (.ref b130), .unset] [(.ref b134)])) _
      refine XS.astore X136b.here hx rfl (hb hby at_82) rfl rfl (l' := #[.val (.int p0), .val (.int p1), .val (.int p2), .val (.int (1 : Int32)), .val (.ref w_Agency_MOODYS), .val (.int (21 : Int32)), .val (.int ((p1 &&& (2147483647 : Int32)) % (21 : Int32))), .val (.int ((p2 &&& (2147483647 : Int32)) % (21 : Int32))), .val (.ref b130), .val (.ref b134)]) rfl ?_
      show Steps p.tables e below (T136.setTop (mkF m 84 #[.val (.int p0), .val (.int p1), .val (.int p2), .val (.int (1 : Int32)), .val (.ref w_Agency_MOODYS), .val (.int (21 : Int32)), .val (.int ((p1 &&& (2147483647 : Int32)) % (21 : Int32))), .val (.int ((p2 &&& (2147483647 : Int32)) % (21 : Int32))), .val (.ref b130), .val (.ref b134)] [])) _
      refine XS.aload X136b.here hx rfl (hb hby at_84) rfl rfl ?_
      show Steps p.tables e below (T136.setTop (mkF m 86 #[.val (.int p0), .val (.int p1), .val (.int p2), .val (.int (1 : Int32)), .val (.ref w_Agency_MOODYS), .val (.int (21 : Int32)), .val (.int ((p1 &&& (2147483647 : Int32)) % (21 : Int32))), .val (.int ((p2 &&& (2147483647 : Int32)) % (21 : Int32))), .val (.ref b130), .val (.ref b134)] [(.ref b130)])) _
      refine XS.aload X136b.here hx rfl (hb hby at_86) rfl rfl ?_
      show Steps p.tables e below (T136.setTop (mkF m 88 #[.val (.int p0), .val (.int p1), .val (.int p2), .val (.int (1 : Int32)), .val (.ref w_Agency_MOODYS), .val (.int (21 : Int32)), .val (.int ((p1 &&& (2147483647 : Int32)) % (21 : Int32))), .val (.int ((p2 &&& (2147483647 : Int32)) % (21 : Int32))), .val (.ref b130), .val (.ref b134)] [(.ref b134), (.ref b130)])) _
      refine st140.trans ?_
      show Steps p.tables e below (T140.setTop (mkF m 91 #[.val (.int p0), .val (.int p1), .val (.int p2), .val (.int (1 : Int32)), .val (.ref w_Agency_MOODYS), .val (.int (21 : Int32)), .val (.int ((p1 &&& (2147483647 : Int32)) % (21 : Int32))), .val (.int ((p2 &&& (2147483647 : Int32)) % (21 : Int32))), .val (.ref b130), .val (.ref b134)] [(.int (V7 ((p1 &&& (2147483647 : Int32)) % (21 : Int32)) ((p2 &&& (2147483647 : Int32)) % (21 : Int32))))])) _
      refine XS.iload X140.here hx rfl (hb hby at_91) rfl ?_
      show Steps p.tables e below (T140.setTop (mkF m 93 #[.val (.int p0), .val (.int p1), .val (.int p2), .val (.int (1 : Int32)), .val (.ref w_Agency_MOODYS), .val (.int (21 : Int32)), .val (.int ((p1 &&& (2147483647 : Int32)) % (21 : Int32))), .val (.int ((p2 &&& (2147483647 : Int32)) % (21 : Int32))), .val (.ref b130), .val (.ref b134)] [(.int ((p1 &&& (2147483647 : Int32)) % (21 : Int32))), (.int (V7 ((p1 &&& (2147483647 : Int32)) % (21 : Int32)) ((p2 &&& (2147483647 : Int32)) % (21 : Int32))))])) _
      refine XS.iload X140.here hx rfl (hb hby at_93) rfl ?_
      exact k
    have S144 : ∀ t, Steps p.tables e below (T140.setTop (mkF m 103 #[.val (.int p0), .val (.int p1), .val (.int p2), .val (.int (1 : Int32)), .val (.ref w_Agency_MOODYS), .val (.int (21 : Int32)), .val (.int ((p1 &&& (2147483647 : Int32)) % (21 : Int32))), .val (.int ((p2 &&& (2147483647 : Int32)) % (21 : Int32))), .val (.ref b130), .val (.ref b134)] [(.int (if ((p2 &&& (2147483647 : Int32)) % (21 : Int32)) < ((p1 &&& (2147483647 : Int32)) % (21 : Int32)) then (0 : Int32) else (1 : Int32))), (.int (V7 ((p1 &&& (2147483647 : Int32)) % (21 : Int32)) ((p2 &&& (2147483647 : Int32)) % (21 : Int32))))])) t → Steps p.tables e below (s₁.setTop (entryFrame m #[(.int p0), (.int p1), (.int p2)] maxLocals)) t := by
      by_cases hc143 : ((p2 &&& (2147483647 : Int32)) % (21 : Int32)) < ((p1 &&& (2147483647 : Int32)) % (21 : Int32))
      · intro t k
        try simp only [if_pos hc143] at k
        refine S142 t ?_
        show Steps p.tables e below (T140.setTop (mkF m 95 #[.val (.int p0), .val (.int p1), .val (.int p2), .val (.int (1 : Int32)), .val (.ref w_Agency_MOODYS), .val (.int (21 : Int32)), .val (.int ((p1 &&& (2147483647 : Int32)) % (21 : Int32))), .val (.int ((p2 &&& (2147483647 : Int32)) % (21 : Int32))), .val (.ref b130), .val (.ref b134)] [(.int ((p2 &&& (2147483647 : Int32)) % (21 : Int32))), (.int ((p1 &&& (2147483647 : Int32)) % (21 : Int32))), (.int (V7 ((p1 &&& (2147483647 : Int32)) % (21 : Int32)) ((p2 &&& (2147483647 : Int32)) % (21 : Int32))))])) _
        refine XS.icmpYes X140.here hx rfl (pc0 := 95) (pc' := 102) rfl (hb hby at_95) rfl (tlt hc143).2.2.1 (by decide) (by decide) ?_
        show Steps p.tables e below (T140.setTop (mkF m 102 #[.val (.int p0), .val (.int p1), .val (.int p2), .val (.int (1 : Int32)), .val (.ref w_Agency_MOODYS), .val (.int (21 : Int32)), .val (.int ((p1 &&& (2147483647 : Int32)) % (21 : Int32))), .val (.int ((p2 &&& (2147483647 : Int32)) % (21 : Int32))), .val (.ref b130), .val (.ref b134)] [(.int (V7 ((p1 &&& (2147483647 : Int32)) % (21 : Int32)) ((p2 &&& (2147483647 : Int32)) % (21 : Int32))))])) _
        refine XS.iconst X140.here hx rfl (hb hby at_102) ?_
        exact k
      · intro t k
        try simp only [if_neg hc143] at k
        refine S142 t ?_
        show Steps p.tables e below (T140.setTop (mkF m 95 #[.val (.int p0), .val (.int p1), .val (.int p2), .val (.int (1 : Int32)), .val (.ref w_Agency_MOODYS), .val (.int (21 : Int32)), .val (.int ((p1 &&& (2147483647 : Int32)) % (21 : Int32))), .val (.int ((p2 &&& (2147483647 : Int32)) % (21 : Int32))), .val (.ref b130), .val (.ref b134)] [(.int ((p2 &&& (2147483647 : Int32)) % (21 : Int32))), (.int ((p1 &&& (2147483647 : Int32)) % (21 : Int32))), (.int (V7 ((p1 &&& (2147483647 : Int32)) % (21 : Int32)) ((p2 &&& (2147483647 : Int32)) % (21 : Int32))))])) _
        refine XS.icmpNo X140.here hx rfl (hb hby at_95) rfl (flt hc143).2.2.1 ?_
        show Steps p.tables e below (T140.setTop (mkF m 98 #[.val (.int p0), .val (.int p1), .val (.int p2), .val (.int (1 : Int32)), .val (.ref w_Agency_MOODYS), .val (.int (21 : Int32)), .val (.int ((p1 &&& (2147483647 : Int32)) % (21 : Int32))), .val (.int ((p2 &&& (2147483647 : Int32)) % (21 : Int32))), .val (.ref b130), .val (.ref b134)] [(.int (V7 ((p1 &&& (2147483647 : Int32)) % (21 : Int32)) ((p2 &&& (2147483647 : Int32)) % (21 : Int32))))])) _
        refine XS.iconst X140.here hx rfl (hb hby at_98) ?_
        show Steps p.tables e below (T140.setTop (mkF m 99 #[.val (.int p0), .val (.int p1), .val (.int p2), .val (.int (1 : Int32)), .val (.ref w_Agency_MOODYS), .val (.int (21 : Int32)), .val (.int ((p1 &&& (2147483647 : Int32)) % (21 : Int32))), .val (.int ((p2 &&& (2147483647 : Int32)) % (21 : Int32))), .val (.ref b130), .val (.ref b134)] [(.int (1 : Int32)), (.int (V7 ((p1 &&& (2147483647 : Int32)) % (21 : Int32)) ((p2 &&& (2147483647 : Int32)) % (21 : Int32))))])) _
        refine XS.goto X140.here hx rfl (pc0 := 99) (pc' := 103) rfl (hb hby at_99) (by decide) (by decide) ?_
        exact k
    obtain ⟨cq145, kq145, q145a, q145b, q145c⟩ := isOf hZ136 e140 f136_0
    obtain ⟨_, _, ⟨T145, L145, k145, n145⟩, -, X145, ⟨Lc145, hQ145, l145, y145, z145⟩, st145⟩ := X140.virtualBack hx (y := (⟨"com/example/syndex/syndex/Rating", "isAtLeast", "(Lcom/example/syndex/syndex/Rating;)Z"⟩ : MethodName)) (z := (⟨"com/example/syndex/syndex/Rating", "isAtLeast", "(Lcom/example/syndex/syndex/Rating;)Z"⟩ : MethodName)) hown136 (mvT hZ136 (hwk hw 53 rfl)) (mvT hZ136 (hwk hw 54 rfl)) (notFace_of_selects (args := #[]) (mvT hZ136 (hwk hw 56 rfl))) (mvT hZ136 (hwk hw 56 rfl)) (mvT hZ136 (hwk hw 55 rfl)) (by decide) (backOf (W := 0) (rm7 l Z a0 hw [] b134 b130 w_Agency_MOODYS ((p2 &&& (2147483647 : Int32)) % (21 : Int32)) ((p1 &&& (2147483647 : Int32)) % (21 : Int32)) T136.heap n0 O139 f136_1 c137 f136_2 c138) hZ136 (hwk hw 57 rfl) (hwk hw 6 rfl) (by decide) (by decide)) q145a q145c (g := (mkF m 110 #[.val (.int p0), .val (.int p1), .val (.int p2), .val (.int (1 : Int32)), .val (.ref w_Agency_MOODYS), .val (.int (21 : Int32)), .val (.int ((p1 &&& (2147483647 : Int32)) % (21 : Int32))), .val (.int ((p2 &&& (2147483647 : Int32)) % (21 : Int32))), .val (.ref b130), .val (.ref b134)] [(.ref b130), (.ref b134)])) rfl (by rw [hml]; rfl) (Steps.refl _) (argsL := [(.ref b130)]) (rest := []) (lenOf pd_5 rfl) rfl (by show 2 * 0 + _ ≤ _; exact Nat.le_of_eq rfl) (hb hby at_110) (fun _ _ => ⟨rfl, e140, (by decide : 6 + 0 ≤ _), (by decide : 60 + 0 ≤ _)⟩)
    dsimp only [Pt.U, Pt.locs, Pt.cells, Pt.slots] at X145 l145 y145 z145 st145 hQ145
    subst l145 y145 z145
    unfold Q_rm7 at hQ145
    obtain ⟨rfl, N145q, e145⟩ := hQ145
    have N145 := Fr.app N140 N145q
    have S146 : ∀ t, Steps p.tables e below (T145.setTop (mkF m 117 #[.val (.int p0), .val (.int p1), .val (.int p2), .val (.int (1 : Int32)), .val (.ref w_Agency_MOODYS), .val (.int (21 : Int32)), .val (.int ((p1 &&& (2147483647 : Int32)) % (21 : Int32))), .val (.int ((p2 &&& (2147483647 : Int32)) % (21 : Int32))), .val (.ref b130), .val (.ref b134)] [(.int ((p1 &&& (2147483647 : Int32)) % (21 : Int32))), (.int ((p2 &&& (2147483647 : Int32)) % (21 : Int32))), (.int (V7 ((p2 &&& (2147483647 : Int32)) % (21 : Int32)) ((p1 &&& (2147483647 : Int32)) % (21 : Int32))))])) t → Steps p.tables e below (s₁.setTop (entryFrame m #[(.int p0), (.int p1), (.int p2)] maxLocals)) t := fun t k => by
      refine S144 t ?_
      show Steps p.tables e below (T140.setTop (mkF m 103 #[.val (.int p0), .val (.int p1), .val (.int p2), .val (.int (1 : Int32)), .val (.ref w_Agency_MOODYS), .val (.int (21 : Int32)), .val (.int ((p1 &&& (2147483647 : Int32)) % (21 : Int32))), .val (.int ((p2 &&& (2147483647 : Int32)) % (21 : Int32))), .val (.ref b130), .val (.ref b134)] [(.int (if ((p2 &&& (2147483647 : Int32)) % (21 : Int32)) < ((p1 &&& (2147483647 : Int32)) % (21 : Int32)) then (0 : Int32) else (1 : Int32))), (.int (V7 ((p1 &&& (2147483647 : Int32)) % (21 : Int32)) ((p2 &&& (2147483647 : Int32)) % (21 : Int32))))])) _
      refine XS.icmpNo X140.here hx rfl (hb hby at_103) rfl (teq (rfl : (V7 ((p1 &&& (2147483647 : Int32)) % (21 : Int32)) ((p2 &&& (2147483647 : Int32)) % (21 : Int32))) = (if ((p2 &&& (2147483647 : Int32)) % (21 : Int32)) < ((p1 &&& (2147483647 : Int32)) % (21 : Int32)) then (0 : Int32) else (1 : Int32)))).2 ?_
      show Steps p.tables e below (T140.setTop (mkF m 106 #[.val (.int p0), .val (.int p1), .val (.int p2), .val (.int (1 : Int32)), .val (.ref w_Agency_MOODYS), .val (.int (21 : Int32)), .val (.int ((p1 &&& (2147483647 : Int32)) % (21 : Int32))), .val (.int ((p2 &&& (2147483647 : Int32)) % (21 : Int32))), .val (.ref b130), .val (.ref b134)] [])) _
      refine XS.aload X140.here hx rfl (hb hby at_106) rfl rfl ?_
      show Steps p.tables e below (T140.setTop (mkF m 108 #[.val (.int p0), .val (.int p1), .val (.int p2), .val (.int (1 : Int32)), .val (.ref w_Agency_MOODYS), .val (.int (21 : Int32)), .val (.int ((p1 &&& (2147483647 : Int32)) % (21 : Int32))), .val (.int ((p2 &&& (2147483647 : Int32)) % (21 : Int32))), .val (.ref b130), .val (.ref b134)] [(.ref b134)])) _
      refine XS.aload X140.here hx rfl (hb hby at_108) rfl rfl ?_
      show Steps p.tables e below (T140.setTop (mkF m 110 #[.val (.int p0), .val (.int p1), .val (.int p2), .val (.int (1 : Int32)), .val (.ref w_Agency_MOODYS), .val (.int (21 : Int32)), .val (.int ((p1 &&& (2147483647 : Int32)) % (21 : Int32))), .val (.int ((p2 &&& (2147483647 : Int32)) % (21 : Int32))), .val (.ref b130), .val (.ref b134)] [(.ref b130), (.ref b134)])) _
      refine st145.trans ?_
      show Steps p.tables e below (T145.setTop (mkF m 113 #[.val (.int p0), .val (.int p1), .val (.int p2), .val (.int (1 : Int32)), .val (.ref w_Agency_MOODYS), .val (.int (21 : Int32)), .val (.int ((p1 &&& (2147483647 : Int32)) % (21 : Int32))), .val (.int ((p2 &&& (2147483647 : Int32)) % (21 : Int32))), .val (.ref b130), .val (.ref b134)] [(.int (V7 ((p2 &&& (2147483647 : Int32)) % (21 : Int32)) ((p1 &&& (2147483647 : Int32)) % (21 : Int32))))])) _
      refine XS.iload X145.here hx rfl (hb hby at_113) rfl ?_
      show Steps p.tables e below (T145.setTop (mkF m 115 #[.val (.int p0), .val (.int p1), .val (.int p2), .val (.int (1 : Int32)), .val (.ref w_Agency_MOODYS), .val (.int (21 : Int32)), .val (.int ((p1 &&& (2147483647 : Int32)) % (21 : Int32))), .val (.int ((p2 &&& (2147483647 : Int32)) % (21 : Int32))), .val (.ref b130), .val (.ref b134)] [(.int ((p2 &&& (2147483647 : Int32)) % (21 : Int32))), (.int (V7 ((p2 &&& (2147483647 : Int32)) % (21 : Int32)) ((p1 &&& (2147483647 : Int32)) % (21 : Int32))))])) _
      refine XS.iload X145.here hx rfl (hb hby at_115) rfl ?_
      exact k
    have S148 : ∀ t, Steps p.tables e below (T145.setTop (mkF m 125 #[.val (.int p0), .val (.int p1), .val (.int p2), .val (.int (1 : Int32)), .val (.ref w_Agency_MOODYS), .val (.int (21 : Int32)), .val (.int ((p1 &&& (2147483647 : Int32)) % (21 : Int32))), .val (.int ((p2 &&& (2147483647 : Int32)) % (21 : Int32))), .val (.ref b130), .val (.ref b134)] [(.int (if ((p1 &&& (2147483647 : Int32)) % (21 : Int32)) < ((p2 &&& (2147483647 : Int32)) % (21 : Int32)) then (0 : Int32) else (1 : Int32))), (.int (V7 ((p2 &&& (2147483647 : Int32)) % (21 : Int32)) ((p1 &&& (2147483647 : Int32)) % (21 : Int32))))])) t → Steps p.tables e below (s₁.setTop (entryFrame m #[(.int p0), (.int p1), (.int p2)] maxLocals)) t := by
      by_cases hc147 : ((p1 &&& (2147483647 : Int32)) % (21 : Int32)) < ((p2 &&& (2147483647 : Int32)) % (21 : Int32))
      · intro t k
        try simp only [if_pos hc147] at k
        refine S146 t ?_
        show Steps p.tables e below (T145.setTop (mkF m 117 #[.val (.int p0), .val (.int p1), .val (.int p2), .val (.int (1 : Int32)), .val (.ref w_Agency_MOODYS), .val (.int (21 : Int32)), .val (.int ((p1 &&& (2147483647 : Int32)) % (21 : Int32))), .val (.int ((p2 &&& (2147483647 : Int32)) % (21 : Int32))), .val (.ref b130), .val (.ref b134)] [(.int ((p1 &&& (2147483647 : Int32)) % (21 : Int32))), (.int ((p2 &&& (2147483647 : Int32)) % (21 : Int32))), (.int (V7 ((p2 &&& (2147483647 : Int32)) % (21 : Int32)) ((p1 &&& (2147483647 : Int32)) % (21 : Int32))))])) _
        refine XS.icmpYes X145.here hx rfl (pc0 := 117) (pc' := 124) rfl (hb hby at_117) rfl (tlt hc147).2.2.1 (by decide) (by decide) ?_
        show Steps p.tables e below (T145.setTop (mkF m 124 #[.val (.int p0), .val (.int p1), .val (.int p2), .val (.int (1 : Int32)), .val (.ref w_Agency_MOODYS), .val (.int (21 : Int32)), .val (.int ((p1 &&& (2147483647 : Int32)) % (21 : Int32))), .val (.int ((p2 &&& (2147483647 : Int32)) % (21 : Int32))), .val (.ref b130), .val (.ref b134)] [(.int (V7 ((p2 &&& (2147483647 : Int32)) % (21 : Int32)) ((p1 &&& (2147483647 : Int32)) % (21 : Int32))))])) _
        refine XS.iconst X145.here hx rfl (hb hby at_124) ?_
        exact k
      · intro t k
        try simp only [if_neg hc147] at k
        refine S146 t ?_
        show Steps p.tables e below (T145.setTop (mkF m 117 #[.val (.int p0), .val (.int p1), .val (.int p2), .val (.int (1 : Int32)), .val (.ref w_Agency_MOODYS), .val (.int (21 : Int32)), .val (.int ((p1 &&& (2147483647 : Int32)) % (21 : Int32))), .val (.int ((p2 &&& (2147483647 : Int32)) % (21 : Int32))), .val (.ref b130), .val (.ref b134)] [(.int ((p1 &&& (2147483647 : Int32)) % (21 : Int32))), (.int ((p2 &&& (2147483647 : Int32)) % (21 : Int32))), (.int (V7 ((p2 &&& (2147483647 : Int32)) % (21 : Int32)) ((p1 &&& (2147483647 : Int32)) % (21 : Int32))))])) _
        refine XS.icmpNo X145.here hx rfl (hb hby at_117) rfl (flt hc147).2.2.1 ?_
        show Steps p.tables e below (T145.setTop (mkF m 120 #[.val (.int p0), .val (.int p1), .val (.int p2), .val (.int (1 : Int32)), .val (.ref w_Agency_MOODYS), .val (.int (21 : Int32)), .val (.int ((p1 &&& (2147483647 : Int32)) % (21 : Int32))), .val (.int ((p2 &&& (2147483647 : Int32)) % (21 : Int32))), .val (.ref b130), .val (.ref b134)] [(.int (V7 ((p2 &&& (2147483647 : Int32)) % (21 : Int32)) ((p1 &&& (2147483647 : Int32)) % (21 : Int32))))])) _
        refine XS.iconst X145.here hx rfl (hb hby at_120) ?_
        show Steps p.tables e below (T145.setTop (mkF m 121 #[.val (.int p0), .val (.int p1), .val (.int p2), .val (.int (1 : Int32)), .val (.ref w_Agency_MOODYS), .val (.int (21 : Int32)), .val (.int ((p1 &&& (2147483647 : Int32)) % (21 : Int32))), .val (.int ((p2 &&& (2147483647 : Int32)) % (21 : Int32))), .val (.ref b130), .val (.ref b134)] [(.int (1 : Int32)), (.int (V7 ((p2 &&& (2147483647 : Int32)) % (21 : Int32)) ((p1 &&& (2147483647 : Int32)) % (21 : Int32))))])) _
        refine XS.goto X145.here hx rfl (pc0 := 121) (pc' := 125) rfl (hb hby at_121) (by decide) (by decide) ?_
        exact k
    have K149 : Keep h0 h130 [] := Keep.ext (Keep.refl h0 []) E130
    have K150 : Keep h0 T132.heap [] := Keep.trans K149 K132 (allS (Or.inr (Nat.le_trans (Nat.le_refl _) (Nat.le_of_eq g130.symm))) all0)
    have K151 : Keep h0 h134 [] := Keep.ext K150 E134
    have K152 : Keep h0 T136.heap [] := Keep.trans K151 K136 (allS (Or.inr (Nat.le_trans (Nat.le_trans (Nat.le_trans (Nat.le_refl _) E130.1) K132.1) (Nat.le_of_eq g134.symm))) all0)
    obtain ⟨fs, hr, hrun, hended, hRE⟩ := X145.leaveW hS136 (show _ ≤ T145.heap.size from by rw [e145]; exact (Nat.le_refl _)) (v := some (.int (1 : Int32))) (fun h => by rw [Bd.returns] at h; cases h)
    refine ⟨_, _, S148 _ ?_, hrun, hended, _, _, rfl, ?_, hRE.1, hRE.2.1, hRE.2.2.1, hRE.2.2.2.mono (by decide) (by decide)⟩
    · show Steps p.tables e below (T145.setTop (mkF m 125 #[.val (.int p0), .val (.int p1), .val (.int p2), .val (.int (1 : Int32)), .val (.ref w_Agency_MOODYS), .val (.int (21 : Int32)), .val (.int ((p1 &&& (2147483647 : Int32)) % (21 : Int32))), .val (.int ((p2 &&& (2147483647 : Int32)) % (21 : Int32))), .val (.ref b130), .val (.ref b134)] [(.int (if ((p1 &&& (2147483647 : Int32)) % (21 : Int32)) < ((p2 &&& (2147483647 : Int32)) % (21 : Int32)) then (0 : Int32) else (1 : Int32))), (.int (V7 ((p2 &&& (2147483647 : Int32)) % (21 : Int32)) ((p1 &&& (2147483647 : Int32)) % (21 : Int32))))])) _
      refine XS.icmpNo X145.here hx rfl (hb hby at_125) rfl (teq (rfl : (V7 ((p2 &&& (2147483647 : Int32)) % (21 : Int32)) ((p1 &&& (2147483647 : Int32)) % (21 : Int32))) = (if ((p1 &&& (2147483647 : Int32)) % (21 : Int32)) < ((p2 &&& (2147483647 : Int32)) % (21 : Int32)) then (0 : Int32) else (1 : Int32)))).2 ?_
      show Steps p.tables e below (T145.setTop (mkF m 128 #[.val (.int p0), .val (.int p1), .val (.int p2), .val (.int (1 : Int32)), .val (.ref w_Agency_MOODYS), .val (.int (21 : Int32)), .val (.int ((p1 &&& (2147483647 : Int32)) % (21 : Int32))), .val (.int ((p2 &&& (2147483647 : Int32)) % (21 : Int32))), .val (.ref b130), .val (.ref b134)] [])) _
      refine XS.iconst X145.here hx rfl (hb hby at_128) ?_
      show Steps p.tables e below (T145.setTop (mkF m 129 #[.val (.int p0), .val (.int p1), .val (.int p2), .val (.int (1 : Int32)), .val (.ref w_Agency_MOODYS), .val (.int (21 : Int32)), .val (.int ((p1 &&& (2147483647 : Int32)) % (21 : Int32))), .val (.int ((p2 &&& (2147483647 : Int32)) % (21 : Int32))), .val (.ref b130), .val (.ref b134)] [(.int (1 : Int32))])) _
      refine XS.goto X145.here hx rfl (pc0 := 129) (pc' := 133) rfl (hb hby at_129) (by decide) (by decide) ?_
      show Steps p.tables e below (T145.setTop (mkF m 133 #[.val (.int p0), .val (.int p1), .val (.int p2), .val (.int (1 : Int32)), .val (.ref w_Agency_MOODYS), .val (.int (21 : Int32)), .val (.int ((p1 &&& (2147483647 : Int32)) % (21 : Int32))), .val (.int ((p2 &&& (2147483647 : Int32)) % (21 : Int32))), .val (.ref b130), .val (.ref b134)] [(.int (1 : Int32))])) _
      exact Jvm.RoadKit.retOut X145 hx Bd.returns rfl (Or.inl ⟨rfl, by simp, _, rfl⟩) (hb hby at_133) hr
    · show Q_rm0 Z p0 p1 p2 w_Agency_SP w_Agency_MOODYS w_Agency_SP_scale w_Agency_MOODYS_scale w_Agency_SP_scale_elements w_Agency_MOODYS_scale_elements k_w_Agency_SP_scale_elements vs_w_Agency_SP_scale_elements k_w_Agency_MOODYS_scale_elements vs_w_Agency_MOODYS_scale_elements h0 n0 _ T145.heap _
      rw [e145]
      unfold Q_rm0
      exact ⟨rfl, N145, K152⟩
theorem own_evR {args : Array Value} {s : State} {a b : Term} {y : Addr} (h : (Jvm.Cond.eq a b).value args s none s [] = some true) (hb : b.eval args s none [] s = some (.ref y)) : a.eval args s none [] s = some (.ref y) := by
  obtain ⟨x, z, h1, h2, h3, h4⟩ := cmp_v (Or.inl h)
  cases h2.symm.trans hb
  have hx : x.isRef = true := h4.2
  have q := gotT (eq_R h1 hb hx rfl) h
  rw [h1, q]
theorem own_len {args : Array Value} {s : State} {t : Term} {a : Addr} {cl : Cell} {ty : FieldType} {n : Int32} (A : Arr s s.heap a cl ty) (ev : t.eval args s none [] s = some (.ref a)) (h : (Term.length t).eval args s none [] s = some (.int n)) : cl.slots.size < 2 ^ 31 ∧ cl.slots.size.toInt32 = n := by
  have ha : s.arrayAt? a = some cl := A.fin (Vm.Alike.refl _)
  have hl := SBG.length_lt ev ha h
  have q := len_f ev ha hl
  exact ⟨hl, by simpa using Option.some.inj (q.symm.trans h)⟩
theorem own_arvU {s : State} {a : Addr} {cl : Cell} {ty : FieldType} {n : Int32} {dv : Value} (hf : Fit s) (A : Arr s s.heap a cl ty) (q : cl.slots.size < 2 ^ 31) (e : cl.slots.size.toInt32 = n) (hn : ¬ n < 0) : Arv s s.heap a cl.cls ty n cl.slots.toList dv := by
  have S : cl.slots.size = n.toNatClampNeg := by rw [← e]; simp only [Int32.toNatClampNeg, len_toInt q]; rfl
  have H : Has cl cl.slots.toList dv := fun j hj => by simp [hj]
  refine ⟨cl, A, rfl, S, hn, H, fun j hj => ?_⟩
  have e1 : (Nat.toInt32 j).toNatClampNeg = j := by simp only [Int32.toNatClampNeg, len_toInt (Nat.lt_trans hj q)]; rfl
  exact elem_fits (j := Nat.toInt32 j) hf A (idx_in hj q) (by rw [e1]; exact H j hj)
set_option maxRecDepth 65536 in
set_option maxHeartbeats 40000000 in
theorem comes_1 {Post : Tables → Env → Array Value → State → Outcome → State → Prop} (hpost : ∀ tb e args s v u, (limb_1_1.after args s (.returned v) u = true ∧ limb_1_2.after args s (.returned v) u = true ∧ True) → ReturnedEndW s (.returned v) u (Jvm.fieldLocs frame_1_writes args s ++ Jvm.arrayLocs frame_1_arrays args s ++ Jvm.staticLocs frame_1_statics s) 16 1152 → Post tb e args s (.returned v) u) :
    ArmFor flags0 classFile x code maxLocals ret World_1 tables_1 room_1 Calls_1 rest_1 Pre_1 Post := by
  intro l hfl _ _ p e ha hc hk s m args below hf hA hF happ hP
  obtain ⟨hcalls, hrest, hpre⟩ := hP
  obtain ⟨-, -, -, hnamed, -, -, -, hat⟩ := (Spec.applies_iff hf).mp happ
  obtain ⟨hg, hn⟩ := and_e (Cond.before_iff.mp (show (Jvm.Cond.and given_1 narrow_1).before args s = true from hpre))
  obtain ⟨gg1, gg2⟩ := and_e hg
  obtain ⟨gg3, gg4⟩ := and_e gg2
  obtain ⟨gg5, gg6⟩ := and_e gg4
  obtain ⟨w0, w1, w2, rfl⟩ : ∃ w0 w1 w2 : Value, args = #[w0, w1, w2] := by
    have hs : args.size = 3 := by simpa [Cond.value, given_1] using gg1
    obtain ⟨L⟩ := args
    match L, hs with
    | [w0, w1, w2], _ => exact ⟨w0, w1, w2, rfl⟩
  have hw := fun d (hd : d ∈ tables_1) => atoms_spec (ws := Jvm.Cond.code x code maxLocals ret :: tables_1) hat d (List.mem_cons_of_mem _ hd)
  have hfit : Fit s := fun {y c} hc i hi => by
    obtain ⟨ha, rfl⟩ := Array.getElem?_eq_some_iff.mp hc
    have q := List.all_eq_true.mp ((Array.all_eq_true_iff_forall_mem.mp hF) _ (Array.getElem_mem ha)) i (List.mem_range.mpr hi)
    simpa [Array.getElem?_eq_getElem hi] using q
  obtain ⟨i0, ei0⟩ := is_v gg3
  obtain rfl : w0 = (.int i0) := Option.some.inj ei0
  obtain ⟨i1, ei1⟩ := is_v gg5
  obtain rfl : w1 = (.int i1) := Option.some.inj ei1
  obtain ⟨i2, ei2⟩ := is_v gg6
  obtain rfl : w2 = (.int i2) := Option.some.inj ei2
  obtain ⟨na1, na2⟩ := and_e hn
  obtain ⟨na3, na4⟩ := and_e na2
  obtain ⟨na5, na6⟩ := and_e na4
  obtain ⟨na7, na8⟩ := and_e na6
  obtain ⟨na9, na10⟩ := and_e na8
  obtain ⟨na11, na12⟩ := and_e na10
  obtain ⟨na13, na14⟩ := and_e na12
  obtain ⟨w_Agency_SP, ev15⟩ := exa_v na1
  have S_Agency_SP : Sta s s.heap "com/example/syndex/syndex/Agency" "SP" "Lcom/example/syndex/syndex/Agency;" (.ref w_Agency_SP) := Sta.start ev15 (Or.inr ⟨(hwk hw 1 rfl), (hwk hw 2 rfl)⟩)
  have E_w_Agency_SP : Exa s s.heap w_Agency_SP "com/example/syndex/syndex/Agency" := Exa.start ev15 na1
  obtain ⟨w_Agency_MOODYS, ev16⟩ := exa_v na9
  have S_Agency_MOODYS : Sta s s.heap "com/example/syndex/syndex/Agency" "MOODYS" "Lcom/example/syndex/syndex/Agency;" (.ref w_Agency_MOODYS) := Sta.start ev16 (Or.inr ⟨(hwk hw 1 rfl), (hwk hw 59 rfl)⟩)
  have E_w_Agency_MOODYS : Exa s s.heap w_Agency_MOODYS "com/example/syndex/syndex/Agency" := Exa.start ev16 na9
  obtain ⟨w_Agency_SP_scale, ev17⟩ := exa_v na3
  have F_w_Agency_SP_scale : Fld s s.heap w_Agency_SP "com/example/syndex/syndex/Agency" "scale" "Ljava/util/List;" (.ref w_Agency_SP_scale) := Fld.start ((fld_at ev15).symm.trans ev17)
  have E_w_Agency_SP_scale : Exa s s.heap w_Agency_SP_scale "java/util/ImmutableCollections$ListN" := Exa.start ev17 na3
  obtain ⟨w_Agency_MOODYS_scale, ev18⟩ := exa_v na11
  have F_w_Agency_MOODYS_scale : Fld s s.heap w_Agency_MOODYS "com/example/syndex/syndex/Agency" "scale" "Ljava/util/List;" (.ref w_Agency_MOODYS_scale) := Fld.start ((fld_at ev16).symm.trans ev18)
  have E_w_Agency_MOODYS_scale : Exa s s.heap w_Agency_MOODYS_scale "java/util/ImmutableCollections$ListN" := Exa.start ev18 na11
  obtain ⟨w_Agency_SP_scale_elements, ev19⟩ := arr_v na5
  have F_w_Agency_SP_scale_elements : Fld s s.heap w_Agency_SP_scale "java/util/ImmutableCollections$ListN" "elements" "[Ljava/lang/Object;" (.ref w_Agency_SP_scale_elements) := Fld.start ((fld_at ev17).symm.trans ev19)
  obtain ⟨cl_w_Agency_SP_scale_elements, Ar_w_Agency_SP_scale_elements⟩ := Arr.start ev19 na5
  obtain ⟨w_Agency_MOODYS_scale_elements, ev20⟩ := arr_v na13
  have F_w_Agency_MOODYS_scale_elements : Fld s s.heap w_Agency_MOODYS_scale "java/util/ImmutableCollections$ListN" "elements" "[Ljava/lang/Object;" (.ref w_Agency_MOODYS_scale_elements) := Fld.start ((fld_at ev18).symm.trans ev20)
  obtain ⟨cl_w_Agency_MOODYS_scale_elements, Ar_w_Agency_MOODYS_scale_elements⟩ := Arr.start ev20 na13
  have ev21 := own_eqI na7 rfl
  have ev22 := own_eqI na14 rfl
  obtain ⟨h31_w_Agency_SP_scale_elements, hsz_w_Agency_SP_scale_elements⟩ := own_len Ar_w_Agency_SP_scale_elements ev19 ev21
  have V_w_Agency_SP_scale_elements : Arv s s.heap w_Agency_SP_scale_elements cl_w_Agency_SP_scale_elements.cls (.object "java/lang/Object") (22 : Int32) cl_w_Agency_SP_scale_elements.slots.toList .null := own_arvU hfit Ar_w_Agency_SP_scale_elements h31_w_Agency_SP_scale_elements hsz_w_Agency_SP_scale_elements (by decide)
  obtain ⟨h31_w_Agency_MOODYS_scale_elements, hsz_w_Agency_MOODYS_scale_elements⟩ := own_len Ar_w_Agency_MOODYS_scale_elements ev20 ev22
  have V_w_Agency_MOODYS_scale_elements : Arv s s.heap w_Agency_MOODYS_scale_elements cl_w_Agency_MOODYS_scale_elements.cls (.object "java/lang/Object") (21 : Int32) cl_w_Agency_MOODYS_scale_elements.slots.toList .null := own_arvU hfit Ar_w_Agency_MOODYS_scale_elements h31_w_Agency_MOODYS_scale_elements hsz_w_Agency_MOODYS_scale_elements (by decide)
  obtain ⟨n, o, h1, h2, h3, _, L, rfl, hQ, hq⟩ := rm0 l s _ hw tables_1 i0 i1 i2 w_Agency_SP w_Agency_MOODYS w_Agency_SP_scale w_Agency_MOODYS_scale w_Agency_SP_scale_elements w_Agency_MOODYS_scale_elements cl_w_Agency_SP_scale_elements.cls cl_w_Agency_SP_scale_elements.slots.toList cl_w_Agency_MOODYS_scale_elements.cls cl_w_Agency_MOODYS_scale_elements.slots.toList s.heap s.heap.size (Old.start s) S_Agency_SP E_w_Agency_SP S_Agency_MOODYS E_w_Agency_MOODYS F_w_Agency_SP_scale E_w_Agency_SP_scale F_w_Agency_MOODYS_scale E_w_Agency_MOODYS_scale F_w_Agency_SP_scale_elements F_w_Agency_MOODYS_scale_elements V_w_Agency_SP_scale_elements V_w_Agency_MOODYS_scale_elements p e ha hc hk s m _ below hf ((Spec.applies_iff_loose hf).mp happ).1 ⟨rfl, State.Warmed39.refl s, rfl⟩ trivial
  unfold Q_rm0 at hQ
  obtain ⟨rfl, N, -⟩ := hQ
  refine ⟨n, _, h1, h2, h3, hpost _ _ _ _ _ _ ⟨Cond.after_iff.mpr rfl, Cond.after_iff.mpr (eq_i res_at (Term.int_eval (1)) rfl), trivial⟩ ⟨hq.1, hq.2.1, hq.2.2.1, (hq.2.2.2.sift fun y hy => Or.inr (N y hy)).mono (by decide) (by decide)⟩⟩
theorem main_1_1 : Claimed_1_1 := comes_1 fun _ _ _ _ _ _ h hF => ⟨h.1, hF⟩
theorem main_1_2 : Claimed_1_2 := comes_1 fun _ _ _ _ _ _ h hF => ⟨h.2.1, hF⟩
end Jvm.Pilot.@@N@@
namespace Jvm.Pilot.@@N@@
open Jvm Jvm.ClassFile Sem Op Lib Jvm.Free Jvm.Stand Jvm.Pilot.@@N@@.Jvm.D
/-! MADE BY PROGRAM (witnessworld.py) out of the Statement's table words and the real class files: 28 classes; the members and pool entries that the words name. The judged class is class 1, her method 1. -/
namespace start1
open Jvm.ClassFile
def u (s : String) : CpInfo := .utf8 (stringToUtf16 s)
/-- a pool by its gaps: so many unusable entries, then the entry; so many at the end -/
def gap : Nat → List CpInfo → List CpInfo
  | 0, r => r
  | n + 1, r => .unusable :: gap n r
def poolList (es : List (Nat × CpInfo)) (last : Nat) : List CpInfo := es.foldr (fun e r => gap e.1 (e.2 :: r)) (gap last [])
def pool (es : List (Nat × CpInfo)) (last : Nat) : Array CpInfo := ⟨poolList es last⟩
def fileOf (pool : Array CpInfo) (this : Nat) (attrs : Array Attribute := #[]) (ms : Array MethodInfo := #[]) (fl : Nat := 33) (sup : Nat := 0) (ifs : Array Nat := #[]) (fds : Array FieldInfo := #[]) : ClassFile where
  minorVersion := 0
  majorVersion := 65
  constantPool := pool
  accessFlags := fl
  thisClass := this
  superClass := sup
  interfaces := ifs
  fields := fds
  methods := ms
  attributes := attrs
def plain (name : String) (sup : Option ClassId) : Class where
  name := name
  kind := .ordinary
  loader := none
  accessFlags := 33
  super := sup
  interfaces := #[]
  cf := none
  fields := #[]
  methods := #[]
  instanceTypes := #[]
  staticTypes := #[]
  resolved := #[]
  callSites := []
  init := .initialized
  statics := none
  mirror := none

def pool0 : Array CpInfo := pool [(5, u "<init>"), (0, u "()V"), (1, .class_ 10), (1, u "java/lang/Object")] 113

def k0c0 : Code := { maxStack := 0, maxLocals := 1, code := object_method_1_code, exceptionTable := #[], attributes := #[] }
def k0m0 : Method := { name := "<init>", desc := "()V", sig := { parameters := [], returnType := none }, accessFlags := 1, code := some k0c0 }
/-- java/lang/Object -/
def k0 : Class := { plain "java/lang/Object" none with
  accessFlags := 33
  interfaces := #[]
  cf := some (fileOf pool0 8 #[] #[{ accessFlags := 1, nameIndex := 5, descriptorIndex := 6, attributes := #[] }] 33 0 #[] #[])
  fields := #[]
  methods := #[k0m0]
  instanceTypes := #[]
  staticTypes := #[]
  resolved := Array.replicate 124 none
  statics := none }

def pool1 : Array CpInfo := pool [(2, .class_ 4), (1, u "java/lang/Object"), (0, u "<init>"), (0, u "()V"), (0, .fieldref 8 9), (0, .class_ 10), (0, .nameAndType 11 12), (0, u "com/example/syndex/syndex/Agency"), (0, u "MOODYS"), (0, u "Lcom/example/syndex/syndex/Agency;"), (0, .fieldref 8 14), (0, .nameAndType 15 12), (0, u "SP"), (0, .integer 2147483647), (0, .class_ 18), (0, u "com/example/syndex/syndex/Rating"), (0, .methodref 17 20), (0, .nameAndType 5 21), (0, u "(Lcom/example/syndex/syndex/Agency;I)V"), (0, .methodref 17 23), (0, .nameAndType 24 25), (0, u "isAtLeast"), (0, u "(Lcom/example/syndex/syndex/Rating;)Z"), (0, .class_ 27), (0, u "com/example/syndex/syndex/RatingIsAtLeastPinLaw"), (2, u "law"), (0, u "(III)Z")] 3

def k1m0 : Method := { name := "<init>", desc := "()V", sig := { parameters := [], returnType := none }, accessFlags := 1, code := none }
def k1c1 : Code := { maxStack := 4, maxLocals := 10, code := code, exceptionTable := #[], attributes := #[] }
def k1m1 : Method := { name := "law", desc := "(III)Z", sig := { parameters := [.int, .int, .int], returnType := some .boolean }, accessFlags := 9, code := some k1c1 }
/-- com/example/syndex/syndex/RatingIsAtLeastPinLaw -/
def k1 : Class := { plain "com/example/syndex/syndex/RatingIsAtLeastPinLaw" (some 0) with
  accessFlags := 49
  interfaces := #[]
  cf := some (fileOf pool1 26 #[] #[{ accessFlags := 1, nameIndex := 5, descriptorIndex := 6, attributes := #[] }, { accessFlags := 9, nameIndex := 30, descriptorIndex := 31, attributes := #[] }] 49 2 #[] #[])
  fields := #[]
  methods := #[k1m0, k1m1]
  instanceTypes := #[]
  staticTypes := #[]
  resolved := Array.replicate 35 none
  statics := none }

def pool2 : Array CpInfo := pool [(1, .class_ 2), (0, u "java/lang/constant/Constable"), (0, .class_ 4), (0, u "java/lang/Object")] 6

/-- java/lang/constant/Constable -/
def k2 : Class := { plain "java/lang/constant/Constable" (some 0) with
  accessFlags := 1537
  interfaces := #[]
  cf := some (fileOf pool2 1 #[] #[] 1537 3 #[] #[])
  fields := #[]
  methods := #[]
  instanceTypes := #[]
  staticTypes := #[]
  resolved := Array.replicate 11 none
  statics := none }

def pool3 : Array CpInfo := pool [(1, .class_ 2), (0, u "java/lang/Comparable"), (0, .class_ 4), (0, u "java/lang/Object")] 7

/-- java/lang/Comparable -/
def k3 : Class := { plain "java/lang/Comparable" (some 0) with
  accessFlags := 1537
  interfaces := #[]
  cf := some (fileOf pool3 1 #[] #[] 1537 3 #[] #[])
  fields := #[]
  methods := #[]
  instanceTypes := #[]
  staticTypes := #[]
  resolved := Array.replicate 12 none
  statics := none }

def pool4 : Array CpInfo := pool [(1, .class_ 2), (0, u "java/io/Serializable"), (0, .class_ 4), (0, u "java/lang/Object")] 2

/-- java/io/Serializable -/
def k4 : Class := { plain "java/io/Serializable" (some 0) with
  accessFlags := 1537
  interfaces := #[]
  cf := some (fileOf pool4 1 #[] #[] 1537 3 #[] #[])
  fields := #[]
  methods := #[]
  instanceTypes := #[]
  staticTypes := #[]
  resolved := Array.replicate 7 none
  statics := none }

def pool5 : Array CpInfo := pool [(2, .class_ 4), (1, u "java/lang/Enum"), (0, u "name"), (0, u "Ljava/lang/String;"), (2, u "ordinal"), (0, u "I"), (1, .class_ 14), (1, u "java/lang/Object"), (4, u "hash"), (86, .class_ 108), (1, u "java/lang/Enum$EnumDesc"), (2, .class_ 112), (0, u "java/lang/constant/Constable"), (0, .class_ 114), (0, u "java/lang/Comparable"), (0, .class_ 116), (0, u "java/io/Serializable")] 87

/-- java/lang/Enum -/
def k5 : Class := { plain "java/lang/Enum" (some 0) with
  accessFlags := 1057
  interfaces := #[2, 3, 4]
  cf := some (fileOf pool5 2 #[.nestMembers #[106]] #[] 1057 12 #[111, 113, 115] #[{ accessFlags := 18, nameIndex := 5, descriptorIndex := 6, attributes := #[] }, { accessFlags := 18, nameIndex := 9, descriptorIndex := 10, attributes := #[] }, { accessFlags := 2, nameIndex := 19, descriptorIndex := 10, attributes := #[] }])
  fields := #[{ name := "name", type := (.object "java/lang/String"), accessFlags := 18, slot := 0, constantValue := 0 }, { name := "ordinal", type := .int, accessFlags := 18, slot := 1, constantValue := 0 }, { name := "hash", type := .int, accessFlags := 2, slot := 2, constantValue := 0 }]
  methods := #[]
  instanceTypes := #[(.object "java/lang/String"), .int, .int]
  staticTypes := #[]
  resolved := Array.replicate 204 none
  statics := none }

def pool6 : Array CpInfo := pool [(1, .class_ 2), (0, u "com/example/syndex/syndex/Agency"), (2, u "SP"), (0, u "Lcom/example/syndex/syndex/Agency;"), (2, u "MOODYS"), (2, u "$VALUES"), (0, u "[Lcom/example/syndex/syndex/Agency;"), (6, .class_ 22), (1, u "java/lang/Enum"), (8, u "key"), (0, u "Ljava/lang/String;"), (2, u "label"), (0, .fieldref 1 37), (0, .nameAndType 38 39), (0, u "scale"), (0, u "Ljava/util/List;"), (26, u "ratings"), (0, u "Lcom/example/syndex/syndex/Vocabulary;"), (119, u "KEYS"), (13, u "()Ljava/util/List;")] 45

def k6c0 : Code := { maxStack := 1, maxLocals := 1, code := prog_3_method_6_code, exceptionTable := #[], attributes := #[] }
def k6m0 : Method := { name := "scale", desc := "()Ljava/util/List;", sig := { parameters := [], returnType := some (.object "java/util/List") }, accessFlags := 1, code := some k6c0 }
/-- com/example/syndex/syndex/Agency -/
def k6 : Class := { plain "com/example/syndex/syndex/Agency" (some 5) with
  accessFlags := 16433
  interfaces := #[]
  cf := some (fileOf pool6 1 #[] #[{ accessFlags := 1, nameIndex := 38, descriptorIndex := 201, attributes := #[] }] 16433 20 #[] #[{ accessFlags := 16409, nameIndex := 5, descriptorIndex := 6, attributes := #[] }, { accessFlags := 16409, nameIndex := 9, descriptorIndex := 6, attributes := #[] }, { accessFlags := 24, nameIndex := 187, descriptorIndex := 67, attributes := #[] }, { accessFlags := 18, nameIndex := 31, descriptorIndex := 32, attributes := #[] }, { accessFlags := 18, nameIndex := 35, descriptorIndex := 32, attributes := #[] }, { accessFlags := 18, nameIndex := 38, descriptorIndex := 39, attributes := #[] }, { accessFlags := 18, nameIndex := 66, descriptorIndex := 67, attributes := #[] }, { accessFlags := 4122, nameIndex := 12, descriptorIndex := 13, attributes := #[] }])
  fields := #[{ name := "SP", type := (.object "com/example/syndex/syndex/Agency"), accessFlags := 16409, slot := 0, constantValue := 0 }, { name := "MOODYS", type := (.object "com/example/syndex/syndex/Agency"), accessFlags := 16409, slot := 1, constantValue := 0 }, { name := "KEYS", type := (.object "com/example/syndex/syndex/Vocabulary"), accessFlags := 24, slot := 2, constantValue := 0 }, { name := "key", type := (.object "java/lang/String"), accessFlags := 18, slot := 3, constantValue := 0 }, { name := "label", type := (.object "java/lang/String"), accessFlags := 18, slot := 4, constantValue := 0 }, { name := "scale", type := (.object "java/util/List"), accessFlags := 18, slot := 5, constantValue := 0 }, { name := "ratings", type := (.object "com/example/syndex/syndex/Vocabulary"), accessFlags := 18, slot := 6, constantValue := 0 }, { name := "$VALUES", type := (.array (.object "com/example/syndex/syndex/Agency")), accessFlags := 4122, slot := 3, constantValue := 0 }]
  methods := #[k6m0]
  instanceTypes := #[(.object "java/lang/String"), .int, .int, (.object "java/lang/String"), (.object "java/lang/String"), (.object "java/util/List"), (.object "com/example/syndex/syndex/Vocabulary")]
  staticTypes := #[(.object "com/example/syndex/syndex/Agency"), (.object "com/example/syndex/syndex/Agency"), (.object "com/example/syndex/syndex/Vocabulary"), (.array (.object "com/example/syndex/syndex/Agency"))]
  resolved := Array.replicate 247 none
  statics := some 0 }

def pool7 : Array CpInfo := pool [(1, .methodref 2 3), (0, .class_ 4), (0, .nameAndType 5 6), (0, u "java/lang/Object"), (0, u "<init>"), (0, u "()V"), (0, .class_ 8), (0, u "java/lang/Record")] 13

def k7c0 : Code := { maxStack := 1, maxLocals := 1, code := jdk_30_method_1_code, exceptionTable := #[], attributes := #[] }
def k7m0 : Method := { name := "<init>", desc := "()V", sig := { parameters := [], returnType := none }, accessFlags := 4, code := some k7c0 }
/-- java/lang/Record -/
def k7 : Class := { plain "java/lang/Record" (some 0) with
  accessFlags := 1057
  interfaces := #[]
  cf := some (fileOf pool7 7 #[] #[{ accessFlags := 4, nameIndex := 5, descriptorIndex := 6, attributes := #[] }] 1057 2 #[] #[])
  fields := #[]
  methods := #[k7m0]
  instanceTypes := #[]
  staticTypes := #[]
  resolved := Array.replicate 22 none
  statics := none }

def pool8 : Array CpInfo := pool [(1, .methodref 2 3), (0, .class_ 4), (0, .nameAndType 5 6), (0, u "java/lang/Record"), (0, u "<init>"), (0, u "()V"), (0, .string 8), (0, u "agency"), (0, .methodref 10 11), (0, .class_ 12), (0, .nameAndType 13 14), (0, u "java/util/Objects"), (0, u "requireNonNull"), (0, u "(Ljava/lang/Object;Ljava/lang/String;)Ljava/lang/Object;"), (0, .methodref 16 17), (0, .class_ 18), (0, .nameAndType 19 20), (0, u "com/example/syndex/syndex/Agency"), (0, u "scale"), (0, u "()Ljava/util/List;"), (0, .interfaceMethodref 22 23), (0, .class_ 24), (0, .nameAndType 25 26), (0, u "java/util/List"), (0, u "size"), (0, u "()I"), (13, .fieldref 41 42), (0, .class_ 43), (0, .nameAndType 8 44), (0, u "com/example/syndex/syndex/Rating"), (0, u "Lcom/example/syndex/syndex/Agency;"), (0, .fieldref 41 46), (0, .nameAndType 47 48), (0, u "rank"), (0, u "I"), (21, u "(Lcom/example/syndex/syndex/Agency;I)V"), (5, u "isAtLeast"), (0, u "(Lcom/example/syndex/syndex/Rating;)Z")] 33

def k8c0 : Code := { maxStack := 4, maxLocals := 3, code := prog_54_method_1_code, exceptionTable := #[], attributes := #[] }
def k8m0 : Method := { name := "<init>", desc := "(Lcom/example/syndex/syndex/Agency;I)V", sig := { parameters := [(.object "com/example/syndex/syndex/Agency"), .int], returnType := none }, accessFlags := 1, code := some k8c0 }
def k8c1 : Code := { maxStack := 4, maxLocals := 2, code := prog_54_method_3_code, exceptionTable := #[], attributes := #[] }
def k8m1 : Method := { name := "isAtLeast", desc := "(Lcom/example/syndex/syndex/Rating;)Z", sig := { parameters := [(.object "com/example/syndex/syndex/Rating")], returnType := some .boolean }, accessFlags := 1, code := some k8c1 }
/-- com/example/syndex/syndex/Rating -/
def k8 : Class := { plain "com/example/syndex/syndex/Rating" (some 7) with
  accessFlags := 49
  interfaces := #[]
  cf := some (fileOf pool8 41 #[] #[{ accessFlags := 1, nameIndex := 5, descriptorIndex := 70, attributes := #[] }, { accessFlags := 1, nameIndex := 76, descriptorIndex := 77, attributes := #[] }] 49 2 #[] #[{ accessFlags := 18, nameIndex := 8, descriptorIndex := 44, attributes := #[] }, { accessFlags := 18, nameIndex := 47, descriptorIndex := 48, attributes := #[] }])
  fields := #[{ name := "agency", type := (.object "com/example/syndex/syndex/Agency"), accessFlags := 18, slot := 0, constantValue := 0 }, { name := "rank", type := .int, accessFlags := 18, slot := 1, constantValue := 0 }]
  methods := #[k8m0, k8m1]
  instanceTypes := #[(.object "com/example/syndex/syndex/Agency"), .int]
  staticTypes := #[]
  resolved := Array.replicate 111 none
  statics := none }

def pool9 : Array CpInfo := pool [(2, .class_ 4), (1, u "java/lang/CharSequence"), (42, .class_ 48), (0, u "java/lang/CharSequence$1CodePointIterator"), (10, .class_ 60), (0, u "java/lang/CharSequence$1CharIterator"), (5, .class_ 67), (0, u "java/lang/Object")] 63

/-- java/lang/CharSequence -/
def k9 : Class := { plain "java/lang/CharSequence" (some 0) with
  accessFlags := 1537
  interfaces := #[]
  cf := some (fileOf pool9 2 #[.nestMembers #[47, 59]] #[] 1537 66 #[] #[])
  fields := #[]
  methods := #[]
  instanceTypes := #[]
  staticTypes := #[]
  resolved := Array.replicate 131 none
  statics := none }

def pool10 : Array CpInfo := pool [(1, .class_ 2), (0, u "java/lang/constant/ConstantDesc"), (0, .class_ 4), (0, u "java/lang/Object")] 32

/-- java/lang/constant/ConstantDesc -/
def k10 : Class := { plain "java/lang/constant/ConstantDesc" (some 0) with
  accessFlags := 1537
  interfaces := #[]
  cf := some (fileOf pool10 1 #[] #[] 1537 3 #[] #[])
  fields := #[]
  methods := #[]
  instanceTypes := #[]
  staticTypes := #[]
  resolved := Array.replicate 37 none
  statics := none }

def pool11 : Array CpInfo := pool [(2, .class_ 4), (1, u "java/lang/Object"), (0, u "<init>"), (0, u "()V"), (3, .class_ 12), (1, u "java/lang/String"), (0, u "value"), (0, u "[B"), (2, u "coder"), (0, u "B"), (2, u "hash"), (0, u "I"), (2, u "hashIsZero"), (0, u "Z"), (13, u "COMPACT_STRINGS"), (534, .class_ 576), (0, u "java/lang/CharSequence"), (22, u "CASE_INSENSITIVE_ORDER"), (0, u "Ljava/util/Comparator;"), (500, u "serialPersistentFields"), (0, u "[Ljava/io/ObjectStreamField;"), (0, .class_ 1104), (0, u "java/lang/String$CaseInsensitiveComparator"), (1, .class_ 1107), (0, u "java/io/Serializable"), (0, .class_ 1109), (0, u "java/lang/Comparable"), (0, .class_ 1111), (0, u "java/lang/constant/Constable"), (0, .class_ 1113), (0, u "java/lang/constant/ConstantDesc"), (2, u "serialVersionUID"), (0, u "J"), (3, u "REPL"), (0, u "C"), (2, u "LATIN1"), (1, u "UTF16")] 323

def k11m0 : Method := { name := "<init>", desc := "()V", sig := { parameters := [], returnType := none }, accessFlags := 1, code := none }
/-- java/lang/String -/
def k11 : Class := { plain "java/lang/String" (some 0) with
  accessFlags := 49
  interfaces := #[4, 3, 9, 2, 10]
  cf := some (fileOf pool11 10 #[.nestMembers #[1103]] #[{ accessFlags := 1, nameIndex := 5, descriptorIndex := 6, attributes := #[] }] 49 2 #[1106, 1108, 575, 1110, 1112] #[{ accessFlags := 18, nameIndex := 13, descriptorIndex := 14, attributes := #[] }, { accessFlags := 18, nameIndex := 17, descriptorIndex := 18, attributes := #[] }, { accessFlags := 2, nameIndex := 21, descriptorIndex := 22, attributes := #[] }, { accessFlags := 2, nameIndex := 25, descriptorIndex := 26, attributes := #[] }, { accessFlags := 26, nameIndex := 1116, descriptorIndex := 1117, attributes := #[] }, { accessFlags := 24, nameIndex := 40, descriptorIndex := 26, attributes := #[] }, { accessFlags := 26, nameIndex := 1101, descriptorIndex := 1102, attributes := #[] }, { accessFlags := 26, nameIndex := 1121, descriptorIndex := 1122, attributes := #[] }, { accessFlags := 25, nameIndex := 599, descriptorIndex := 600, attributes := #[] }, { accessFlags := 24, nameIndex := 1125, descriptorIndex := 18, attributes := #[] }, { accessFlags := 24, nameIndex := 1127, descriptorIndex := 18, attributes := #[] }])
  fields := #[{ name := "value", type := (.array .byte), accessFlags := 18, slot := 0, constantValue := 0 }, { name := "coder", type := .byte, accessFlags := 18, slot := 1, constantValue := 0 }, { name := "hash", type := .int, accessFlags := 2, slot := 2, constantValue := 0 }, { name := "hashIsZero", type := .boolean, accessFlags := 2, slot := 3, constantValue := 0 }, { name := "serialVersionUID", type := .long, accessFlags := 26, slot := 0, constantValue := 0 }, { name := "COMPACT_STRINGS", type := .boolean, accessFlags := 24, slot := 1, constantValue := 0 }, { name := "serialPersistentFields", type := (.array (.object "java/io/ObjectStreamField")), accessFlags := 26, slot := 2, constantValue := 0 }, { name := "REPL", type := .char, accessFlags := 26, slot := 3, constantValue := 0 }, { name := "CASE_INSENSITIVE_ORDER", type := (.object "java/util/Comparator"), accessFlags := 25, slot := 4, constantValue := 0 }, { name := "LATIN1", type := .byte, accessFlags := 24, slot := 5, constantValue := 0 }, { name := "UTF16", type := .byte, accessFlags := 24, slot := 6, constantValue := 0 }]
  methods := #[k11m0]
  instanceTypes := #[(.array .byte), .byte, .int, .boolean]
  staticTypes := #[.long, .boolean, (.array (.object "java/io/ObjectStreamField")), .char, (.object "java/util/Comparator"), .byte, .byte]
  resolved := Array.replicate 1451 none
  statics := none }

def pool12 : Array CpInfo := pool [(2, .class_ 4), (1, u "java/lang/Object"), (0, u "<init>"), (0, u "()V"), (35, .class_ 44), (1, u "java/util/Objects"), (0, u "requireNonNull"), (48, u "(Ljava/lang/Object;Ljava/lang/String;)Ljava/lang/Object;")] 89

def k12m0 : Method := { name := "<init>", desc := "()V", sig := { parameters := [], returnType := none }, accessFlags := 2, code := none }
def k12c1 : Code := { maxStack := 3, maxLocals := 2, code := jdk_31_method_11_code, exceptionTable := #[], attributes := #[] }
def k12m1 : Method := { name := "requireNonNull", desc := "(Ljava/lang/Object;Ljava/lang/String;)Ljava/lang/Object;", sig := { parameters := [(.object "java/lang/Object"), (.object "java/lang/String")], returnType := some (.object "java/lang/Object") }, accessFlags := 9, code := some k12c1 }
/-- java/util/Objects -/
def k12 : Class := { plain "java/util/Objects" (some 0) with
  accessFlags := 49
  interfaces := #[]
  cf := some (fileOf pool12 42 #[] #[{ accessFlags := 2, nameIndex := 5, descriptorIndex := 6, attributes := #[] }, { accessFlags := 9, nameIndex := 45, descriptorIndex := 94, attributes := #[] }] 49 2 #[] #[])
  fields := #[]
  methods := #[k12m0, k12m1]
  instanceTypes := #[]
  staticTypes := #[]
  resolved := Array.replicate 184 none
  statics := none }

def pool13 : Array CpInfo := pool [(8, .class_ 10), (1, u "java/lang/Iterable"), (24, .class_ 36), (0, u "java/lang/Object")] 25

/-- java/lang/Iterable -/
def k13 : Class := { plain "java/lang/Iterable" (some 0) with
  accessFlags := 1537
  interfaces := #[]
  cf := some (fileOf pool13 8 #[] #[] 1537 35 #[] #[])
  fields := #[]
  methods := #[]
  instanceTypes := #[]
  staticTypes := #[]
  resolved := Array.replicate 62 none
  statics := none }

def pool14 : Array CpInfo := pool [(10, .class_ 12), (1, u "java/util/Collection"), (47, .class_ 61), (0, u "java/lang/Object"), (0, .class_ 63), (0, u "java/lang/Iterable")] 51

/-- java/util/Collection -/
def k14 : Class := { plain "java/util/Collection" (some 0) with
  accessFlags := 1537
  interfaces := #[13]
  cf := some (fileOf pool14 10 #[] #[] 1537 60 #[62] #[])
  fields := #[]
  methods := #[]
  instanceTypes := #[]
  staticTypes := #[]
  resolved := Array.replicate 115 none
  statics := none }

def pool15 : Array CpInfo := pool [(8, .class_ 10), (1, u "java/util/SequencedCollection"), (15, .class_ 27), (0, u "java/lang/Object"), (0, .class_ 29), (0, u "java/util/Collection")] 27

/-- java/util/SequencedCollection -/
def k15 : Class := { plain "java/util/SequencedCollection" (some 0) with
  accessFlags := 1537
  interfaces := #[14]
  cf := some (fileOf pool15 8 #[] #[] 1537 26 #[28] #[])
  fields := #[]
  methods := #[]
  instanceTypes := #[]
  staticTypes := #[]
  resolved := Array.replicate 57 none
  statics := none }

def pool16 : Array CpInfo := pool [(8, .class_ 10), (1, u "java/util/List"), (68, u "size"), (0, u "()I"), (22, .class_ 104), (0, u "java/lang/Object"), (15, .class_ 121), (0, u "java/util/SequencedCollection")] 129

def k16m0 : Method := { name := "size", desc := "()I", sig := { parameters := [], returnType := some .int }, accessFlags := 1025, code := none }
/-- java/util/List -/
def k16 : Class := { plain "java/util/List" (some 0) with
  accessFlags := 1537
  interfaces := #[15]
  cf := some (fileOf pool16 8 #[] #[{ accessFlags := 1025, nameIndex := 79, descriptorIndex := 80, attributes := #[] }] 1537 103 #[120] #[])
  fields := #[]
  methods := #[k16m0]
  instanceTypes := #[]
  staticTypes := #[]
  resolved := Array.replicate 251 none
  statics := none }

def pool17 : Array CpInfo := pool [(2, .class_ 4), (1, u "java/lang/Object"), (0, u "<init>"), (0, u "()V"), (1, .class_ 10), (1, u "java/util/AbstractCollection"), (66, .class_ 78), (0, u "java/util/Collection")] 81

def k17m0 : Method := { name := "<init>", desc := "()V", sig := { parameters := [], returnType := none }, accessFlags := 4, code := none }
/-- java/util/AbstractCollection -/
def k17 : Class := { plain "java/util/AbstractCollection" (some 0) with
  accessFlags := 1057
  interfaces := #[14]
  cf := some (fileOf pool17 8 #[] #[{ accessFlags := 4, nameIndex := 5, descriptorIndex := 6, attributes := #[] }] 1057 2 #[77] #[])
  fields := #[]
  methods := #[k17m0]
  instanceTypes := #[]
  staticTypes := #[]
  resolved := Array.replicate 160 none
  statics := none }

def pool18 : Array CpInfo := pool [(2, .class_ 4), (1, u "java/util/AbstractCollection"), (0, u "<init>"), (0, u "()V"), (1, .class_ 10), (1, u "java/util/ImmutableCollections"), (2, .class_ 14), (0, u "java/util/ImmutableCollections$AbstractImmutableCollection")] 41

def k18m0 : Method := { name := "<init>", desc := "()V", sig := { parameters := [], returnType := none }, accessFlags := 0, code := none }
/-- java/util/ImmutableCollections$AbstractImmutableCollection -/
def k18 : Class := { plain "java/util/ImmutableCollections$AbstractImmutableCollection" (some 17) with
  accessFlags := 1056
  interfaces := #[]
  cf := some (fileOf pool18 13 #[.nestHost 8] #[{ accessFlags := 0, nameIndex := 5, descriptorIndex := 6, attributes := #[] }] 1056 2 #[] #[])
  fields := #[]
  methods := #[k18m0]
  instanceTypes := #[]
  staticTypes := #[]
  resolved := Array.replicate 56 none
  statics := none }

def pool19 : Array CpInfo := pool [(1, .class_ 2), (0, u "java/util/RandomAccess"), (0, .class_ 4), (0, u "java/lang/Object")] 2

/-- java/util/RandomAccess -/
def k19 : Class := { plain "java/util/RandomAccess" (some 0) with
  accessFlags := 1537
  interfaces := #[]
  cf := some (fileOf pool19 1 #[] #[] 1537 3 #[] #[])
  fields := #[]
  methods := #[]
  instanceTypes := #[]
  staticTypes := #[]
  resolved := Array.replicate 7 none
  statics := none }

def pool20 : Array CpInfo := pool [(2, .class_ 4), (1, u "java/util/ImmutableCollections$AbstractImmutableCollection"), (0, u "<init>"), (0, u "()V"), (1, .class_ 10), (1, u "java/util/ImmutableCollections"), (3, .class_ 16), (1, u "java/util/ImmutableCollections$AbstractImmutableList"), (60, .class_ 78), (0, u "java/util/List"), (45, .class_ 125), (0, u "java/util/RandomAccess")] 70

def k20m0 : Method := { name := "<init>", desc := "()V", sig := { parameters := [], returnType := none }, accessFlags := 0, code := none }
/-- java/util/ImmutableCollections$AbstractImmutableList -/
def k20 : Class := { plain "java/util/ImmutableCollections$AbstractImmutableList" (some 18) with
  accessFlags := 1056
  interfaces := #[16, 19]
  cf := some (fileOf pool20 14 #[.nestHost 8] #[{ accessFlags := 0, nameIndex := 5, descriptorIndex := 6, attributes := #[] }] 1056 2 #[77, 124] #[])
  fields := #[]
  methods := #[k20m0]
  instanceTypes := #[]
  staticTypes := #[]
  resolved := Array.replicate 196 none
  statics := none }

def pool21 : Array CpInfo := pool [(2, .class_ 4), (1, u "java/util/ImmutableCollections$AbstractImmutableList"), (2, .fieldref 8 9), (0, .class_ 10), (0, .nameAndType 11 12), (0, u "java/util/ImmutableCollections$ListN"), (0, u "elements"), (0, u "[Ljava/lang/Object;"), (2, u "allowNulls"), (0, u "Z"), (42, .class_ 60), (0, u "java/io/Serializable"), (16, u "size"), (0, u "()I"), (35, .class_ 115), (0, u "java/util/ImmutableCollections")] 3

def k21c0 : Code := { maxStack := 1, maxLocals := 1, code := jdk_45_method_3_code, exceptionTable := #[], attributes := #[] }
def k21m0 : Method := { name := "size", desc := "()I", sig := { parameters := [], returnType := some .int }, accessFlags := 1, code := some k21c0 }
/-- java/util/ImmutableCollections$ListN -/
def k21 : Class := { plain "java/util/ImmutableCollections$ListN" (some 20) with
  accessFlags := 48
  interfaces := #[4]
  cf := some (fileOf pool21 8 #[.nestHost 114] #[{ accessFlags := 1, nameIndex := 77, descriptorIndex := 78, attributes := #[] }] 48 2 #[59] #[{ accessFlags := 18, nameIndex := 11, descriptorIndex := 12, attributes := #[] }, { accessFlags := 18, nameIndex := 15, descriptorIndex := 16, attributes := #[] }])
  fields := #[{ name := "elements", type := (.array (.object "java/lang/Object")), accessFlags := 18, slot := 0, constantValue := 0 }, { name := "allowNulls", type := .boolean, accessFlags := 18, slot := 1, constantValue := 0 }]
  methods := #[k21m0]
  instanceTypes := #[(.array (.object "java/lang/Object")), .boolean]
  staticTypes := #[]
  resolved := Array.replicate 119 none
  statics := none }

def pool22 : Array CpInfo := pool [(1, u "java/lang/Cloneable"), (0, .class_ 1), (0, u "java/lang/Object"), (0, .class_ 3)] 3

/-- java/lang/Cloneable -/
def k22 : Class := { plain "java/lang/Cloneable" (some 0) with
  accessFlags := 1537
  interfaces := #[]
  cf := some (fileOf pool22 2 #[] #[] 1537 4 #[] #[])
  fields := #[]
  methods := #[]
  instanceTypes := #[]
  staticTypes := #[]
  resolved := Array.replicate 8 none
  statics := none }

/-- the primitive byte -/
def k23 : Class := { plain "byte" none with kind := .primitive 'B', accessFlags := 0x411 }
/-- [B -/
def k24 : Class := { plain "[B" (some 0) with kind := .array 23 .byte, interfaces := #[22, 4], accessFlags := 1041 }

/-- the primitive int -/
def k25 : Class := { plain "int" none with kind := .primitive 'I', accessFlags := 0x411 }
/-- [I -/
def k26 : Class := { plain "[I" (some 0) with kind := .array 25 .int, interfaces := #[22, 4], accessFlags := 1041 }

/-- [Ljava/lang/Object; -/
def k27 : Class := { plain "[Ljava/lang/Object;" (some 0) with kind := .array 0 (.object "java/lang/Object"), interfaces := #[22, 4], accessFlags := 1041 }

def heap : Heap := #[{ cls := 6, slots := #[.ref 4, .ref 6, .null, .null], vm := .statics 6 },
  { cls := 27, slots := #[.null, .null, .null, .null, .null, .null, .null, .null, .null, .null, .null, .null, .null, .null, .null, .null, .null, .null, .null, .null, .null, .null], vm := .none },
  { cls := 27, slots := #[.null, .null, .null, .null, .null, .null, .null, .null, .null, .null, .null, .null, .null, .null, .null, .null, .null, .null, .null, .null, .null], vm := .none },
  { cls := 21, slots := #[.ref 1, .int 0], vm := .none },
  { cls := 6, slots := #[.null, .int 0, .int 0, .null, .null, .ref 3, .null], vm := .none },
  { cls := 21, slots := #[.ref 2, .int 0], vm := .none },
  { cls := 6, slots := #[.null, .int 1, .int 0, .null, .null, .ref 5, .null], vm := .none }]
def classes : Array Class := #[k0, k1, k2, k3, k4, k5, k6, k7, k8, k9, k10, k11, k12, k13, k14, k15, k16, k17, k18, k19, k20, k21, k22, k23, k24, k25, k26, k27]
def interned : List (Array UInt16 × Addr) := []
def slotsUsed : Nat := 65
def theMethod : MethodId := ⟨1, 1⟩
def args0 : Array Value := #[.int 1, .int 5, .int 7]
def aboutOver (below : List Frame) : State where
  vm := { classes := classes, interned := interned.toArray }
  heap := heap
  slotsUsed := slotsUsed
  threads := #[{ frames := .invoking theMethod args0 :: below }]
def below0 : List Frame := [.native { method := ⟨0, 0⟩, args := #[] }]
def about1 : State := aboutOver below0
def p0 : Program := .bare "" "" ""
def e0 : Env := launch0.env 0 0 0
theorem w_frames : about1.frames = Frame.invoking theMethod args0 :: below0 := rfl
set_option maxRecDepth 65536 in
theorem w_args : argsFit about1.vm theMethod args0 = true := by decide +kernel
set_option maxRecDepth 65536 in
theorem w_heap : heapFits about1 = true := by decide +kernel
set_option maxRecDepth 65536 in
theorem w_runnable : about1.curStatus? = some .runnable := by decide +kernel
set_option maxRecDepth 65536 in
theorem w_alone : about1.alone = true := by decide +kernel
set_option maxRecDepth 65536 in
theorem w_named : about1.methodNamed? x = some theMethod := by decide +kernel
set_option maxRecDepth 65536 in
theorem w_hears : about1.hears theMethod below0 = true := by decide +kernel
set_option maxRecDepth 65536 in
theorem w_ripe : about1.ripe theMethod args0 below0 = true := by decide +kernel
theorem w_running : about1.status = .running := rfl
set_option maxRecDepth 65536 in
theorem w_room : about1.hasRoom e0.platform room_1 = true :=
  launch0.hasRoom_least _ room_1 (by decide +kernel) (by decide +kernel) (by decide +kernel) (by decide +kernel) (by decide +kernel) (by decide +kernel)
theorem allAtoms_all (ts : List Jvm.Cond) (a : Array Jvm.Value) (st : Jvm.State) : (allAtoms ts).before a st = ts.all (fun c => c.before a st) := by
  induction ts with
  | nil => rfl
  | cons c t ih =>
    show (Jvm.Cond.and c (allAtoms t)).before a st = _
    rw [Jvm.Cond.before_and, ih, List.all_cons]
def words1 : List Jvm.Cond := Jvm.Cond.code x code maxLocals ret :: tables_1
/-- a 'code' word, met by the world's own term for the bytes: nothing is compared byte by byte -/
theorem code_word {y : MethodName} {bytes : ByteArray} {mx : Nat} {rt : Option FieldType} {a : Array Value} {s : State} {m : MethodId} {meth : Method} {c : Code} (h1 : s.methodNamed? y = some m) (h2 : s.vm.method? m = some meth) (h3 : meth.code = some c) (h4 : c.code = bytes)
    (h5 : (c.maxLocals == mx && c.exceptionTable.isEmpty && decide (c.maxStack ≤ mostOperands) && decide (meth.sig.returnType = rt) && !meth.locks && decide (parseMethodDescriptor y.desc = some meth.sig)) = true) : (Jvm.Cond.code y bytes mx rt).before a s = true := by
  simp only [Bool.and_eq_true, beq_iff_eq, Bool.not_eq_true', decide_eq_true_eq] at h5
  obtain ⟨⟨⟨⟨⟨g1, g2⟩, g3⟩, g4⟩, g5⟩, g6⟩ := h5
  simp [Cond.before, Cond.holds, Cond.value, h1, h2, h3, h4, g1, g2, g3, g4, g5, g6]
def isCode : Jvm.Cond → Bool
  | .code _ _ _ _ => true
  | _ => false
theorem all_split {L : List Jvm.Cond} {P : Jvm.Cond → Bool} (h1 : L.all (fun c => isCode c || P c) = true) (h2 : ∀ c ∈ L.filter isCode, P c = true) : L.all P = true := by
  refine List.all_eq_true.mpr fun c hc => ?_
  have h := List.all_eq_true.mp h1 c hc
  rcases Bool.eq_false_or_eq_true (isCode c) with hi | hi
  · exact h2 c (List.mem_filter.mpr ⟨hc, hi⟩)
  · simpa [hi] using h
set_option maxRecDepth 65536 in
theorem w_c0 : (Jvm.Cond.code x code maxLocals ret).before args0 about1 = true := code_word (m := ⟨1, 1⟩) (meth := k1m1) (c := k1c1) (by decide +kernel) rfl rfl rfl (by decide +kernel)
set_option maxRecDepth 65536 in
theorem w_c1 : (Jvm.Cond.code ({ cls := "com/example/syndex/syndex/Rating", name := "<init>", desc := "(Lcom/example/syndex/syndex/Agency;I)V" } : Jvm.MethodName) prog_54_method_1_code (3 : Nat) (Option.none : Option Jvm.ClassFile.FieldType)).before args0 about1 = true := code_word (m := ⟨8, 0⟩) (meth := k8m0) (c := k8c0) (by decide +kernel) rfl rfl rfl (by decide +kernel)
set_option maxRecDepth 65536 in
theorem w_c2 : (Jvm.Cond.code ({ cls := "java/lang/Record", name := "<init>", desc := "()V" } : Jvm.MethodName) jdk_30_method_1_code (1 : Nat) (Option.none : Option Jvm.ClassFile.FieldType)).before args0 about1 = true := code_word (m := ⟨7, 0⟩) (meth := k7m0) (c := k7c0) (by decide +kernel) rfl rfl rfl (by decide +kernel)
set_option maxRecDepth 65536 in
theorem w_c3 : (Jvm.Cond.code ({ cls := "java/lang/Object", name := "<init>", desc := "()V" } : Jvm.MethodName) object_method_1_code (1 : Nat) (Option.none : Option Jvm.ClassFile.FieldType)).before args0 about1 = true := code_word (m := ⟨0, 0⟩) (meth := k0m0) (c := k0c0) (by decide +kernel) rfl rfl rfl (by decide +kernel)
set_option maxRecDepth 65536 in
theorem w_c4 : (Jvm.Cond.code ({ cls := "java/util/Objects", name := "requireNonNull", desc := "(Ljava/lang/Object;Ljava/lang/String;)Ljava/lang/Object;" } : Jvm.MethodName) jdk_31_method_11_code (2 : Nat) (Option.some (Jvm.ClassFile.FieldType.object "java/lang/Object"))).before args0 about1 = true := code_word (m := ⟨12, 1⟩) (meth := k12m1) (c := k12c1) (by decide +kernel) rfl rfl rfl (by decide +kernel)
set_option maxRecDepth 65536 in
theorem w_c5 : (Jvm.Cond.code ({ cls := "com/example/syndex/syndex/Agency", name := "scale", desc := "()Ljava/util/List;" } : Jvm.MethodName) prog_3_method_6_code (1 : Nat) (Option.some (Jvm.ClassFile.FieldType.object "java/util/List"))).before args0 about1 = true := code_word (m := ⟨6, 0⟩) (meth := k6m0) (c := k6c0) (by decide +kernel) rfl rfl rfl (by decide +kernel)
set_option maxRecDepth 65536 in
theorem w_c6 : (Jvm.Cond.code ({ cls := "java/util/ImmutableCollections$ListN", name := "size", desc := "()I" } : Jvm.MethodName) jdk_45_method_3_code (1 : Nat) (Option.some Jvm.ClassFile.FieldType.int)).before args0 about1 = true := code_word (m := ⟨21, 0⟩) (meth := k21m0) (c := k21c0) (by decide +kernel) rfl rfl rfl (by decide +kernel)
set_option maxRecDepth 65536 in
theorem w_c7 : (Jvm.Cond.code ({ cls := "com/example/syndex/syndex/Rating", name := "isAtLeast", desc := "(Lcom/example/syndex/syndex/Rating;)Z" } : Jvm.MethodName) prog_54_method_3_code (2 : Nat) (Option.some Jvm.ClassFile.FieldType.boolean)).before args0 about1 = true := code_word (m := ⟨8, 1⟩) (meth := k8m1) (c := k8c1) (by decide +kernel) rfl rfl rfl (by decide +kernel)
def codes1 : List Jvm.Cond := [Jvm.Cond.code x code maxLocals ret, Jvm.Cond.code ({ cls := "com/example/syndex/syndex/Rating", name := "<init>", desc := "(Lcom/example/syndex/syndex/Agency;I)V" } : Jvm.MethodName) prog_54_method_1_code (3 : Nat) (Option.none : Option Jvm.ClassFile.FieldType), Jvm.Cond.code ({ cls := "java/lang/Record", name := "<init>", desc := "()V" } : Jvm.MethodName) jdk_30_method_1_code (1 : Nat) (Option.none : Option Jvm.ClassFile.FieldType), Jvm.Cond.code ({ cls := "java/lang/Object", name := "<init>", desc := "()V" } : Jvm.MethodName) object_method_1_code (1 : Nat) (Option.none : Option Jvm.ClassFile.FieldType), Jvm.Cond.code ({ cls := "java/util/Objects", name := "requireNonNull", desc := "(Ljava/lang/Object;Ljava/lang/String;)Ljava/lang/Object;" } : Jvm.MethodName) jdk_31_method_11_code (2 : Nat) (Option.some (Jvm.ClassFile.FieldType.object "java/lang/Object")), Jvm.Cond.code ({ cls := "com/example/syndex/syndex/Agency", name := "scale", desc := "()Ljava/util/List;" } : Jvm.MethodName) prog_3_method_6_code (1 : Nat) (Option.some (Jvm.ClassFile.FieldType.object "java/util/List")), Jvm.Cond.code ({ cls := "java/util/ImmutableCollections$ListN", name := "size", desc := "()I" } : Jvm.MethodName) jdk_45_method_3_code (1 : Nat) (Option.some Jvm.ClassFile.FieldType.int), Jvm.Cond.code ({ cls := "com/example/syndex/syndex/Rating", name := "isAtLeast", desc := "(Lcom/example/syndex/syndex/Rating;)Z" } : Jvm.MethodName) prog_54_method_3_code (2 : Nat) (Option.some Jvm.ClassFile.FieldType.boolean)]
set_option maxRecDepth 65536 in
theorem codes_eq : words1.filter isCode = codes1 := rfl
theorem w_codes : ∀ c ∈ words1.filter isCode, c.before args0 about1 = true := by
  rw [codes_eq]
  intro c hc
  simp only [codes1, List.mem_cons, List.not_mem_nil, or_false] at hc
  rcases hc with rfl | rfl | rfl | rfl | rfl | rfl | rfl | rfl
  · exact w_c0
  · exact w_c1
  · exact w_c2
  · exact w_c3
  · exact w_c4
  · exact w_c5
  · exact w_c6
  · exact w_c7
set_option maxRecDepth 65536 in
theorem w_t1 : (words1.take 24).all (fun c => isCode c || c.before args0 about1) = true := by decide +kernel
set_option maxRecDepth 65536 in
theorem w_t2 : ((words1.drop 24).take 24).all (fun c => isCode c || c.before args0 about1) = true := by decide +kernel
set_option maxRecDepth 65536 in
theorem w_t3 : ((words1.drop 24).drop 24).all (fun c => isCode c || c.before args0 about1) = true := by decide +kernel
theorem w_tables : (allAtoms (Jvm.Cond.code x code maxLocals ret :: tables_1)).before args0 about1 = true := by
  rw [allAtoms_all]
  show words1.all (fun c => c.before args0 about1) = true
  refine all_split ?_ w_codes
  rw [← List.take_append_drop 24 words1, List.all_append, w_t1, ← List.take_append_drop 24 (words1.drop 24), List.all_append, w_t2, w_t3]
  rfl
set_option maxRecDepth 65536 in
theorem w_case : (Jvm.Cond.and given_1 narrow_1).before args0 about1 = true := by decide +kernel
theorem w_applies : (headSpec (Jvm.Cond.code x code maxLocals ret :: tables_1) room_1).applies x e0.platform about1 = true :=
  (Spec.applies_iff w_frames).mpr ⟨w_running, w_runnable, w_alone, w_named, w_hears, w_ripe, w_room, w_tables⟩
theorem atStart : AtStart classFile x code maxLocals ret World_1 tables_1 room_1 Calls_1 rest_1 Pre_1 launch0 p0 e0 about1 theMethod args0 below0 :=
  ⟨lists_1, trivial, launch0.admits_env _ _ _, launch0.least_env, fairChoices_fair.cas, fairChoices_fair.clock, w_frames, w_args, w_heap, w_applies, trivial, trivial, w_case⟩
end start1
theorem witness_1 : WitnessClaimed_1 := ⟨start1.p0, start1.e0, start1.about1, start1.theMethod, start1.args0, start1.below0, start1.atStart⟩
end Jvm.Pilot.@@N@@

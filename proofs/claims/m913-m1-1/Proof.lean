import JvmDerived
import JvmDerived.Pilot.@@N@@Statement
import JvmDerived.Pilot.@@N@@Code
set_option linter.unusedVariables false
set_option linter.unusedSimpArgs false
namespace Jvm.Pilot.@@N@@
open Jvm Jvm.ClassFile Sem Op Lib Jvm.Free Jvm.Stand Jvm.LawKit Jvm.RoadKit Bundle Jvm.Pilot.@@N@@.Jvm.D
theorem hwk {ts : List Jvm.Cond} {a0 : Array Value} {Z : State} (hw : ∀ d ∈ ts, d.before a0 Z = true) (i : Nat) {d : Jvm.Cond} (h : ts[i]? = some d) : d.before a0 Z = true := hw d (List.mem_of_getElem? h)
theorem old_le {Z : State} {n0 : Nat} {h : Heap} (O : Old Z n0 h) : n0 ≤ h.size := O.1 ▸ O.2.1
theorem narrow_refV {t : FieldType} {v : Value} (ht : t.isReference = true) (hv : v.isRef = true) : narrow t v = v := by rcases ref_cases hv with rfl | ⟨a, rfl⟩ <;> cases t <;> first | rfl | cases ht
theorem fits_refV {t : FieldType} {v : Value} (ht : t.isReference = true) (hv : v.isRef = true) : fits t v = true := by rcases ref_cases hv with rfl | ⟨a, rfl⟩ <;> cases t <;> first | rfl | cases ht
def SameStand {p : Program} {l : Launch} {e : Env} {R : Room} {s : State} {m : MethodId} {args : Array Value} {below : List Frame} {meth : Method} {c : Code} {T : State} {locs : List Loc} {cells slots : Nat} (_ : Stand p l e R s m args below meth c T locs cells slots) (T' : State) : Prop := Stand p l e R s m args below meth c T' locs cells slots
def WideStand {p : Program} {l : Launch} {e : Env} {R : Room} {s : State} {m : MethodId} {args : Array Value} {below : List Frame} {meth : Method} {c : Code} {T : State} {locs : List Loc} {cells slots : Nat} (_ : Stand p l e R s m args below meth c T locs cells slots) (s' T' : State) (dc ds : Nat) : Prop := Stand p l e R s' m args below meth c T' locs (cells + dc) (slots + ds)
def JoinStand {p : Program} {l : Launch} {e : Env} {R : Room} {s : State} {m : MethodId} {args : Array Value} {below : List Frame} {meth : Method} {c : Code} {T : State} {locs : List Loc} {cells slots : Nat} (_ : Stand p l e R s m args below meth c T locs cells slots) (s' T' : State) (L' : List Loc) (dc ds : Nat) : Prop := Stand p l e R s' m args below meth c T' (locs ++ L') (cells + dc) (slots + ds)
theorem own_jn {p : Program} {l : Launch} {e : Env} {R : Room} {s : State} {m : MethodId} {args : Array Value} {below : List Frame} {meth : Method} {c : Code} {T : State} {locs : List Loc} {cells slots : Nat} (X : Stand p l e R s m args below meth c T locs cells slots) : Stand p l e R s m args below meth c T (locs ++ []) cells slots := by rw [List.append_nil]; exact X
theorem own_ext {h h' h'' : Heap} (a : Ext h h') (b : Ext h' h'') : Ext h h'' := ⟨Nat.le_trans a.1 b.1, fun x c q => b.2 x c (a.2 x c q)⟩
theorem own_ite {c : Prop} [Decidable c] {a b : Value} (ha : a.isRef = true) (hb : b.isRef = true) : (if c then a else b).isRef = true := by split <;> assumption
theorem own_eqI {args : Array Value} {s : State} {a b : Term} {n : Int32} (h : (Jvm.Cond.eq a b).value args s none s [] = some true) (hb : b.eval args s none [] s = some (.int n)) : a.eval args s none [] s = some (.int n) := by
  obtain ⟨x, y, h1, h2, h3, h4⟩ := cmp_v (Or.inl h)
  cases h2.symm.trans hb
  obtain ⟨z, rfl⟩ := h4
  have q := gotT (Jvm.Cond.eq_ints h1 hb) h
  rw [h1, q]
theorem own_eqR {args : Array Value} {s : State} {a b : Term} {x y : Value} (h : (Jvm.Cond.eq a b).value args s none s [] = some true) (ha : a.eval args s none [] s = some x) (hb : b.eval args s none [] s = some y) (hx : x.isRef = true) (hy : y.isRef = true) : x = y := gotT (eq_R ha hb hx hy) h
theorem own_neR {args : Array Value} {s : State} {a b : Term} {x y : Value} (h : (Jvm.Cond.not (Jvm.Cond.eq a b)).value args s none s [] = some true) (ha : a.eval args s none [] s = some x) (hb : b.eval args s none [] s = some y) (hx : x.isRef = true) (hy : y.isRef = true) : ¬ x = y := gotF (eq_R ha hb hx hy) (not_v h)
theorem own_nsRoot {Z : State} {a0 : Array Value} {O K : String} {n : Nat} (w : (Jvm.Cond.noSuperclass O).before a0 Z = true) (wk : (Jvm.Cond.instantiable K n).before a0 Z = true) (hn : O ≠ K) : NS Z O K := by
  obtain ⟨c, k, h1, h2, h3, -, -⟩ := Cond.noSuperclass_spec w
  obtain ⟨t, k', g1, -⟩ := Cond.instantiable_spec wk
  have ne := ids_ne h1 g1 hn
  refine ⟨c, t, h1, g1, fun fuel => ?_⟩
  cases fuel with
  | zero => rfl
  | succ f => simp [Vm.isSubclassAux, ne, h2, h3]
theorem own_nsNo {Z : State} {a0 : Array Value} {C S K : String} {m : Nat} (w : (Jvm.Cond.superclass C S).before a0 Z = true) (wk : (Jvm.Cond.instantiable K m).before a0 Z = true) (n : NS Z C K) (hn : C ≠ K) : ∃ c t, Z.vm.findClass C = some c ∧ Z.vm.findClass K = some t ∧ Z.vm.assignable c t = false := by
  obtain ⟨c, t, h0, g0, n3⟩ := n
  obtain ⟨p, k, kp, h1, h2, h3, h4, h5, -, h7⟩ := Cond.superclass_spec h0 w
  obtain ⟨t', k', g1, g2, g5, g7, -⟩ := Cond.instantiable_spec wk
  cases g0.symm.trans g1
  have ne := ids_ne h0 g0 hn
  have g8 : k'.isInterface = false := by cases q : k'.isInterface <;> simp_all
  refine ⟨c, t, h0, g0, ?_⟩
  show Z.vm.assignableAux (255 + 1) c t = false
  simp [Vm.assignableAux, ne, h2, g2, h5, g5, g8, Vm.isSubclass, n3]
theorem own_cacheIdx (q : Int64) (h1 : ¬ q < (-128 : Int64)) (h2 : ¬ (127 : Int64) < q) : ¬ (q.toInt32 + (128 : Int32)) < 0 ∧ (q.toInt32 + (128 : Int32)) < (256 : Int32) := by
  rw [Int64.lt_iff_toInt_lt] at h1 h2
  have e1 : (-128 : Int64).toInt = -128 := by decide
  have e2 : (127 : Int64).toInt = 127 := by decide
  have e3 := c_iadd q.toInt32 128
  have e4 := c_l2i q
  have e5 : (128 : Int32).toInt = 128 := by decide
  have e6 : (256 : Int32).toInt = 256 := by decide
  have e7 : (0 : Int32).toInt = 0 := by decide
  have r1 := rng32 q.toInt32
  have r2 := rng32 (q.toInt32 + 128)
  rw [Int32.lt_iff_toInt_lt, Int32.lt_iff_toInt_lt]
  omega

theorem ef_rm1 (m : MethodId) (x0 : Addr) (x1 : Int64) (x2 : Int64) (x3 : Int64) : entryFrame m #[(.ref x0), (.long x1), (.long x2), (.long x3)] 7 = mkF m 0 #[.val (.ref x0), .val (.long x1), .second, .val (.long x2), .second, .val (.long x3), .second] [] := by first | (simp [entryFrame, mkF, argsToLocals, Value.category]; done) | rfl
def Q_rm1 (Z : State) (a1 : Addr) (q1 : Int64) (q2 : Int64) (q3 : Int64) (h0 : Heap) (n0 : Nat) (v : Option Value) (h : Heap) (L : List Loc) : Prop := (v = none) ∧ (Fr n0 L) ∧ (Keep h0 h [a1]) ∧ (Exa Z h a1 "com/example/bill_run/billrun/InputCounts") ∧ (Fld Z h a1 "com/example/bill_run/billrun/InputCounts" "records" "J" (.long q1)) ∧ (Fld Z h a1 "com/example/bill_run/billrun/InputCounts" "started" "J" (.long q2)) ∧ (Fld Z h a1 "com/example/bill_run/billrun/InputCounts" "ended" "J" (.long q3))
theorem pn_0 : plainName "com/example/bill_run/billrun/InputCounts" = true := by first | (simp [plainName, overriddenIn]; done) | decide +kernel
theorem d1_0 : decode prog_19_method_1_code 0 = .ok (.aload_n 0, 1) := by decide +kernel
theorem d1_1 : decode prog_19_method_1_code 1 = .ok (.invokespecial 1, 3) := by decide +kernel
theorem d1_4 : decode prog_19_method_1_code 4 = .ok (.aload_n 0, 1) := by decide +kernel
theorem d1_5 : decode prog_19_method_1_code 5 = .ok (.lload_n 1, 1) := by decide +kernel
theorem d1_6 : decode prog_19_method_1_code 6 = .ok (.putfield 7, 3) := by decide +kernel
theorem d1_9 : decode prog_19_method_1_code 9 = .ok (.aload_n 0, 1) := by decide +kernel
theorem d1_10 : decode prog_19_method_1_code 10 = .ok (.lload_n 3, 1) := by decide +kernel
theorem d1_11 : decode prog_19_method_1_code 11 = .ok (.putfield 13, 3) := by decide +kernel
theorem d1_14 : decode prog_19_method_1_code 14 = .ok (.aload_n 0, 1) := by decide +kernel
theorem d1_15 : decode prog_19_method_1_code 15 = .ok (.lload 5, 2) := by decide +kernel
theorem d1_17 : decode prog_19_method_1_code 17 = .ok (.putfield 16, 3) := by decide +kernel
theorem d1_20 : decode prog_19_method_1_code 20 = .ok (.return_, 1) := by decide +kernel
set_option maxRecDepth 65536 in
set_option maxHeartbeats 40000000 in
theorem rm1 (l : Launch) (Z : State) (a0 : Array Value) (hw : ∀ d ∈ tables_1, d.before a0 Z = true) (ws : List Jvm.Cond) (a1 : Addr) (q1 : Int64) (q2 : Int64) (q3 : Int64) (h0 : Heap) (n0 : Nat) (O0 : Old Z n0 h0) (E1 : Exa Z h0 a1 "com/example/bill_run/billrun/InputCounts") (g1 : n0 ≤ a1) (F0 : Fld Z h0 a1 "com/example/bill_run/billrun/InputCounts" "records" "J" (.long (0 : Int64))) (F1 : Fld Z h0 a1 "com/example/bill_run/billrun/InputCounts" "started" "J" (.long (0 : Int64))) (F2 : Fld Z h0 a1 "com/example/bill_run/billrun/InputCounts" "ended" "J" (.long (0 : Int64))) :
    MetFree l (⟨"com/example/bill_run/billrun/InputCounts", "<init>", "(JJJ)V"⟩ : MethodName) (head1 (Jvm.Cond.code (⟨"com/example/bill_run/billrun/InputCounts", "<init>", "(JJJ)V"⟩ : MethodName) prog_19_method_1_code 7 none :: ws) ({ frames := 1, cells := 0, slots := 0, locals := 12 } : Room)) (fun a U => a = #[(.ref a1), (.long q1), (.long q2), (.long q3)] ∧ Z.Warmed39 U.vm ∧ U.heap = h0) (fun _ _ _ _ _ => True) (fun _ U o U' => ∃ v L, o = .returned v ∧ Q_rm1 Z a1 q1 q2 q3 h0 n0 v U'.heap L ∧ FrameEnd U o U' L ({ frames := 1, cells := 0, slots := 0, locals := 12 } : Room).cells ({ frames := 1, cells := 0, slots := 0, locals := 12 } : Room).slots) := by
  refine MetFree.of_bodySF (plainFor_of_name pn_0) hisR ?_
  intro p e s m args below meth c s₁ Bd hml0 hP hK
  obtain ⟨rfl, hZ, hh⟩ := hP
  have hx := Bd.exec
  have hby := Bd.bytes
  have hml : c.maxLocals = 7 := hml0
  have hown : s.vm.findClass "com/example/bill_run/billrun/InputCounts" = some m.cls := findClass_of_methodNamed Bd.named
  have hnm := (name_of_methodNamed Bd.named Bd.method).1
  have X0 : Stand p l e ({ frames := 1, cells := 0, slots := 0, locals := 12 } : Room) s m #[(.ref a1), (.long q1), (.long q2), (.long q3)] below meth c s₁ [] 0 0 := Stand.of_body Bd
  have e0 : s₁.heap = h0 := by rw [← hh, Bd.state]; rfl
  have N0 := Fr.nil n0
  have Z0 : n0 ≤ h0.size := old_le O0
  have pre0 : ∀ t, Steps p.tables e below (s₁.setTop (mkF m 0 #[.val (.ref a1), .val (.long q1), .second, .val (.long q2), .second, .val (.long q3), .second] [])) t → Steps p.tables e below (s₁.setTop (entryFrame m #[(.ref a1), (.long q1), (.long q2), (.long q3)] 7)) t := fun t k => castTop (ef_rm1 m a1 q1 q2 q3) k
  obtain ⟨T101, X101, e101, st101⟩ := initO X0 hx hZ hown (hwk hw 6 rfl) (hwk hw 7 rfl) (hwk hw 8 rfl) e0 (g := (mkF m 1 #[.val (.ref a1), .val (.long q1), .second, .val (.long q2), .second, .val (.long q3), .second] [(.ref a1)])) rfl (by rw [hml]; rfl) rfl (hb hby d1_1) (by decide) (W := 0) (by show 2 * 0 + _ ≤ _; exact Nat.le_of_eq rfl) (by decide)
  obtain ⟨T102, h102, X102, e102, W102, st102⟩ := putF X101 hx hZ hown (host := "") (Or.inl (hwk hw 9 rfl)) Via.refl e101 F0 E1 (Or.inr ⟨(hwk hw 10 rfl), rfl, hnm⟩) (hwk hw 1 rfl) (ty := .long) (by decide) rfl rfl (g := (mkF m 6 #[.val (.ref a1), .val (.long q1), .second, .val (.long q2), .second, .val (.long q3), .second] [(.long q1), (.ref a1)])) rfl rfl (hb hby d1_6)
  have F102 : Fld Z h102 a1 "com/example/bill_run/billrun/InputCounts" "records" "J" (.long q1) := Fld.same W102 F0
  have N102 := Fr.snoc X102 N0 g1
  have c103 : Exa Z h102 a1 "com/example/bill_run/billrun/InputCounts" := (Exa.wr W102 E1)
  have c104 : Fld Z h102 a1 "com/example/bill_run/billrun/InputCounts" "started" "J" (.long (0 : Int64)) := (Fld.other W102 F1 (Or.inr (slot_ne (Or.inr (hwk hw 12 rfl)) (Or.inr (hwk hw 10 rfl)) (by decide) (t := .long) (t' := .long) (by decide) (by decide))))
  obtain ⟨T105, h105, X105, e105, W105, st105⟩ := putF X102 hx hZ hown (host := "") (Or.inl (hwk hw 11 rfl)) Via.refl e102 c104 c103 (Or.inr ⟨(hwk hw 12 rfl), rfl, hnm⟩) (hwk hw 1 rfl) (ty := .long) (by decide) rfl rfl (g := (mkF m 11 #[.val (.ref a1), .val (.long q1), .second, .val (.long q2), .second, .val (.long q3), .second] [(.long q2), (.ref a1)])) rfl rfl (hb hby d1_11)
  have F105 : Fld Z h105 a1 "com/example/bill_run/billrun/InputCounts" "started" "J" (.long q2) := Fld.same W105 c104
  have N105 := Fr.snoc X105 N102 g1
  have c106 : Exa Z h105 a1 "com/example/bill_run/billrun/InputCounts" := (Exa.wr W105 c103)
  have c107 : Fld Z h105 a1 "com/example/bill_run/billrun/InputCounts" "ended" "J" (.long (0 : Int64)) := (Fld.other W105 (Fld.other W102 F2 (Or.inr (slot_ne (Or.inr (hwk hw 14 rfl)) (Or.inr (hwk hw 10 rfl)) (by decide) (t := .long) (t' := .long) (by decide) (by decide)))) (Or.inr (slot_ne (Or.inr (hwk hw 14 rfl)) (Or.inr (hwk hw 12 rfl)) (by decide) (t := .long) (t' := .long) (by decide) (by decide))))
  obtain ⟨T108, h108, X108, e108, W108, st108⟩ := putF X105 hx hZ hown (host := "") (Or.inl (hwk hw 13 rfl)) Via.refl e105 c107 c106 (Or.inr ⟨(hwk hw 14 rfl), rfl, hnm⟩) (hwk hw 1 rfl) (ty := .long) (by decide) rfl rfl (g := (mkF m 17 #[.val (.ref a1), .val (.long q1), .second, .val (.long q2), .second, .val (.long q3), .second] [(.long q3), (.ref a1)])) rfl rfl (hb hby d1_17)
  have F108 : Fld Z h108 a1 "com/example/bill_run/billrun/InputCounts" "ended" "J" (.long q3) := Fld.same W108 c107
  have N108 := Fr.snoc X108 N105 g1
  have K109 : Keep h0 h102 [a1] := Keep.wr (Keep.refl h0 [a1]) W102 (Or.inl (List.mem_of_getElem? (i := 0) rfl))
  have K110 : Keep h0 h105 [a1] := Keep.wr K109 W105 (Or.inl (List.mem_of_getElem? (i := 0) rfl))
  have K111 : Keep h0 h108 [a1] := Keep.wr K110 W108 (Or.inl (List.mem_of_getElem? (i := 0) rfl))
  have c112 : Exa Z h108 a1 "com/example/bill_run/billrun/InputCounts" := (Exa.wr W108 c106)
  have c113 : Fld Z h108 a1 "com/example/bill_run/billrun/InputCounts" "records" "J" (.long q1) := (Fld.other W108 (Fld.other W105 F102 (Or.inr (slot_ne (Or.inr (hwk hw 10 rfl)) (Or.inr (hwk hw 12 rfl)) (by decide) (t := .long) (t' := .long) (by decide) (by decide)))) (Or.inr (slot_ne (Or.inr (hwk hw 10 rfl)) (Or.inr (hwk hw 14 rfl)) (by decide) (t := .long) (t' := .long) (by decide) (by decide))))
  have c114 : Fld Z h108 a1 "com/example/bill_run/billrun/InputCounts" "started" "J" (.long q2) := (Fld.other W108 F105 (Or.inr (slot_ne (Or.inr (hwk hw 12 rfl)) (Or.inr (hwk hw 14 rfl)) (by decide) (t := .long) (t' := .long) (by decide) (by decide))))
  obtain ⟨fs, hr, hrun, hended, hW, hsame⟩ := X108.leave (v := none) (fun _ => rfl)
  refine ⟨_, _, pre0 _ ?_, hrun, hended, _, _, rfl, ?_, ⟨_, rfl⟩, hW, hsame.mono (by decide) (by decide)⟩
  · show Steps p.tables e below (s₁.setTop (mkF m 0 #[.val (.ref a1), .val (.long q1), .second, .val (.long q2), .second, .val (.long q3), .second] [])) _
    refine XS.aloadN X0.here hx rfl (hb hby d1_0) rfl rfl ?_
    show Steps p.tables e below (s₁.setTop (mkF m 1 #[.val (.ref a1), .val (.long q1), .second, .val (.long q2), .second, .val (.long q3), .second] [(.ref a1)])) _
    refine st101 _ ?_
    show Steps p.tables e below (T101.setTop (mkF m 4 #[.val (.ref a1), .val (.long q1), .second, .val (.long q2), .second, .val (.long q3), .second] [])) _
    refine XS.aloadN X101.here hx rfl (hb hby d1_4) rfl rfl ?_
    show Steps p.tables e below (T101.setTop (mkF m 5 #[.val (.ref a1), .val (.long q1), .second, .val (.long q2), .second, .val (.long q3), .second] [(.ref a1)])) _
    refine XS.lloadN X101.here hx rfl (hb hby d1_5) rfl ?_
    show Steps p.tables e below (T101.setTop (mkF m 6 #[.val (.ref a1), .val (.long q1), .second, .val (.long q2), .second, .val (.long q3), .second] [(.long q1), (.ref a1)])) _
    refine st102 _ ?_
    show Steps p.tables e below (T102.setTop (mkF m 9 #[.val (.ref a1), .val (.long q1), .second, .val (.long q2), .second, .val (.long q3), .second] [])) _
    refine XS.aloadN X102.here hx rfl (hb hby d1_9) rfl rfl ?_
    show Steps p.tables e below (T102.setTop (mkF m 10 #[.val (.ref a1), .val (.long q1), .second, .val (.long q2), .second, .val (.long q3), .second] [(.ref a1)])) _
    refine XS.lloadN X102.here hx rfl (hb hby d1_10) rfl ?_
    show Steps p.tables e below (T102.setTop (mkF m 11 #[.val (.ref a1), .val (.long q1), .second, .val (.long q2), .second, .val (.long q3), .second] [(.long q2), (.ref a1)])) _
    refine st105 _ ?_
    show Steps p.tables e below (T105.setTop (mkF m 14 #[.val (.ref a1), .val (.long q1), .second, .val (.long q2), .second, .val (.long q3), .second] [])) _
    refine XS.aloadN X105.here hx rfl (hb hby d1_14) rfl rfl ?_
    show Steps p.tables e below (T105.setTop (mkF m 15 #[.val (.ref a1), .val (.long q1), .second, .val (.long q2), .second, .val (.long q3), .second] [(.ref a1)])) _
    refine XS.lload X105.here hx rfl (hb hby d1_15) rfl ?_
    show Steps p.tables e below (T105.setTop (mkF m 17 #[.val (.ref a1), .val (.long q1), .second, .val (.long q2), .second, .val (.long q3), .second] [(.long q3), (.ref a1)])) _
    refine st108 _ ?_
    show Steps p.tables e below (T108.setTop (mkF m 20 #[.val (.ref a1), .val (.long q1), .second, .val (.long q2), .second, .val (.long q3), .second] [])) _
    exact X108.returnOut hx Bd.returns (hb hby d1_20) hr
  · show Q_rm1 Z a1 q1 q2 q3 h0 n0 _ T108.heap _
    rw [e108]
    unfold Q_rm1
    exact ⟨rfl, N108, K111, c112, c113, c114, F108⟩
theorem ef_rm3n (m : MethodId) (x0 : Addr) : entryFrame m #[(.ref x0), .null] 3 = mkF m 0 #[.val (.ref x0), .val .null, .unset] [] := by first | (simp [entryFrame, mkF, argsToLocals, Value.category]; done) | rfl
def Q_rm3n (Z : State) (a1 : Addr) (h0 : Heap) (n0 : Nat) (v : Option Value) (h : Heap) (L : List Loc) : Prop := (v = some (.int (0 : Int32))) ∧ (Fr n0 L) ∧ (h = h0)
theorem d3_0 : decode prog_19_method_6_code 0 = .ok (.aload_n 1, 1) := by decide +kernel
theorem d3_1 : decode prog_19_method_6_code 1 = .ok (.instanceof 8, 3) := by decide +kernel
theorem d3_4 : decode prog_19_method_6_code 4 = .ok (.ifCond .eq 48, 3) := by decide +kernel
theorem d3_52 : decode prog_19_method_6_code 52 = .ok (.iconst 0, 1) := by decide +kernel
theorem d3_53 : decode prog_19_method_6_code 53 = .ok (.ireturn, 1) := by decide +kernel
set_option maxRecDepth 65536 in
set_option maxHeartbeats 40000000 in
theorem rm3n (l : Launch) (Z : State) (a0 : Array Value) (hw : ∀ d ∈ tables_1, d.before a0 Z = true) (ws : List Jvm.Cond) (a1 : Addr) (h0 : Heap) (n0 : Nat) (O0 : Old Z n0 h0)  :
    MetFree l (⟨"com/example/bill_run/billrun/InputCounts", "equals", "(Ljava/lang/Object;)Z"⟩ : MethodName) (head1 (Jvm.Cond.code (⟨"com/example/bill_run/billrun/InputCounts", "equals", "(Ljava/lang/Object;)Z"⟩ : MethodName) prog_19_method_6_code 3 (some .boolean) :: ws) ({ frames := 0, cells := 0, slots := 0, locals := 0 } : Room)) (fun a U => a = #[(.ref a1), .null] ∧ Z.Warmed39 U.vm ∧ U.heap = h0) (fun _ _ _ _ _ => True) (fun _ U o U' => ∃ v L, o = .returned v ∧ Q_rm3n Z a1 h0 n0 v U'.heap L ∧ FrameEnd U o U' L ({ frames := 0, cells := 0, slots := 0, locals := 0 } : Room).cells ({ frames := 0, cells := 0, slots := 0, locals := 0 } : Room).slots) := by
  refine MetFree.of_bodySF (plainFor_of_name pn_0) hisR ?_
  intro p e s m args below meth c s₁ Bd hml0 hP hK
  obtain ⟨rfl, hZ, hh⟩ := hP
  have hx := Bd.exec
  have hby := Bd.bytes
  have hml : c.maxLocals = 3 := hml0
  have hown : s.vm.findClass "com/example/bill_run/billrun/InputCounts" = some m.cls := findClass_of_methodNamed Bd.named
  have hnm := (name_of_methodNamed Bd.named Bd.method).1
  have X0 : Stand p l e ({ frames := 0, cells := 0, slots := 0, locals := 0 } : Room) s m #[(.ref a1), .null] below meth c s₁ [] 0 0 := Stand.of_body Bd
  have e0 : s₁.heap = h0 := by rw [← hh, Bd.state]; rfl
  have N0 := Fr.nil n0
  have Z0 : n0 ≤ h0.size := old_le O0
  have pre0 : ∀ t, Steps p.tables e below (s₁.setTop (mkF m 0 #[.val (.ref a1), .val .null, .unset] [])) t → Steps p.tables e below (s₁.setTop (entryFrame m #[(.ref a1), .null] 3)) t := fun t k => castTop (ef_rm3n m a1) k
  obtain ⟨fs, hr, hrun, hended, hW, hsame⟩ := X0.leave (v := some (.int (0 : Int32))) (fun h => by rw [Bd.returns] at h; cases h)
  refine ⟨_, _, pre0 _ ?_, hrun, hended, _, _, rfl, ?_, ⟨_, rfl⟩, hW, hsame.mono (by decide) (by decide)⟩
  · show Steps p.tables e below (s₁.setTop (mkF m 0 #[.val (.ref a1), .val .null, .unset] [])) _
    refine XS.aloadN X0.here hx rfl (hb hby d3_0) rfl rfl ?_
    show Steps p.tables e below (s₁.setTop (mkF m 1 #[.val (.ref a1), .val .null, .unset] [.null])) _
    refine X0.instanceofNull hx (g := (mkF m 1 #[.val (.ref a1), .val .null, .unset] [.null])) rfl rfl (hb hby d3_1) _ ?_
    show Steps p.tables e below (s₁.setTop (mkF m 4 #[.val (.ref a1), .val .null, .unset] [(.int (0 : Int32))])) _
    refine XS.ifYes X0.here hx rfl (pc0 := 4) (pc' := 52) rfl (hb hby d3_4) rfl ((if0 _ _).trans (teq (by decide : (0 : Int32) = (0 : Int32))).1) (by decide) (by decide) ?_
    show Steps p.tables e below (s₁.setTop (mkF m 52 #[.val (.ref a1), .val .null, .unset] [])) _
    refine XS.iconst X0.here hx rfl (hb hby d3_52) ?_
    show Steps p.tables e below (s₁.setTop (mkF m 53 #[.val (.ref a1), .val .null, .unset] [(.int (0 : Int32))])) _
    exact Jvm.RoadKit.retOut X0 hx Bd.returns rfl (Or.inl ⟨rfl, by simp, _, rfl⟩) (hb hby d3_53) hr
  · show Q_rm3n Z a1 h0 n0 _ s₁.heap _
    rw [e0]
    unfold Q_rm3n
    exact ⟨rfl, N0, rfl⟩
theorem ef_rm3e (m : MethodId) (x0 : Addr) (x1 : Addr) : entryFrame m #[(.ref x0), (.ref x1)] 3 = mkF m 0 #[.val (.ref x0), .val (.ref x1), .unset] [] := by first | (simp [entryFrame, mkF, argsToLocals, Value.category]; done) | rfl
def Q_rm3e (Z : State) (a1 : Addr) (q1 : Int64) (q2 : Int64) (q3 : Int64) (h0 : Heap) (n0 : Nat) (v : Option Value) (h : Heap) (L : List Loc) : Prop := (v = some (.int (1 : Int32))) ∧ (Fr n0 L) ∧ (h = h0)
theorem d3_7 : decode prog_19_method_6_code 7 = .ok (.aload_n 1, 1) := by decide +kernel
theorem d3_8 : decode prog_19_method_6_code 8 = .ok (.checkcast 8, 3) := by decide +kernel
theorem d3_11 : decode prog_19_method_6_code 11 = .ok (.astore_n 2, 1) := by decide +kernel
theorem d3_12 : decode prog_19_method_6_code 12 = .ok (.aload_n 0, 1) := by decide +kernel
theorem d3_13 : decode prog_19_method_6_code 13 = .ok (.getfield 7, 3) := by decide +kernel
theorem d3_16 : decode prog_19_method_6_code 16 = .ok (.aload_n 2, 1) := by decide +kernel
theorem d3_17 : decode prog_19_method_6_code 17 = .ok (.getfield 7, 3) := by decide +kernel
theorem d3_20 : decode prog_19_method_6_code 20 = .ok (.lcmp, 1) := by decide +kernel
theorem d3_21 : decode prog_19_method_6_code 21 = .ok (.ifCond .ne 31, 3) := by decide +kernel
theorem d3_24 : decode prog_19_method_6_code 24 = .ok (.aload_n 0, 1) := by decide +kernel
theorem d3_25 : decode prog_19_method_6_code 25 = .ok (.getfield 13, 3) := by decide +kernel
theorem d3_28 : decode prog_19_method_6_code 28 = .ok (.aload_n 2, 1) := by decide +kernel
theorem d3_29 : decode prog_19_method_6_code 29 = .ok (.getfield 13, 3) := by decide +kernel
theorem d3_32 : decode prog_19_method_6_code 32 = .ok (.lcmp, 1) := by decide +kernel
theorem d3_33 : decode prog_19_method_6_code 33 = .ok (.ifCond .ne 19, 3) := by decide +kernel
theorem d3_36 : decode prog_19_method_6_code 36 = .ok (.aload_n 0, 1) := by decide +kernel
theorem d3_37 : decode prog_19_method_6_code 37 = .ok (.getfield 16, 3) := by decide +kernel
theorem d3_40 : decode prog_19_method_6_code 40 = .ok (.aload_n 2, 1) := by decide +kernel
theorem d3_41 : decode prog_19_method_6_code 41 = .ok (.getfield 16, 3) := by decide +kernel
theorem d3_44 : decode prog_19_method_6_code 44 = .ok (.lcmp, 1) := by decide +kernel
theorem d3_45 : decode prog_19_method_6_code 45 = .ok (.ifCond .ne 7, 3) := by decide +kernel
theorem d3_48 : decode prog_19_method_6_code 48 = .ok (.iconst 1, 1) := by decide +kernel
theorem d3_49 : decode prog_19_method_6_code 49 = .ok (.goto 4, 3) := by decide +kernel
set_option maxRecDepth 65536 in
set_option maxHeartbeats 40000000 in
theorem rm3e (l : Launch) (Z : State) (a0 : Array Value) (hw : ∀ d ∈ tables_1, d.before a0 Z = true) (ws : List Jvm.Cond) (a1 : Addr) (q1 : Int64) (q2 : Int64) (q3 : Int64) (h0 : Heap) (n0 : Nat) (O0 : Old Z n0 h0) (E1 : Exa Z h0 a1 "com/example/bill_run/billrun/InputCounts") (F0 : Fld Z h0 a1 "com/example/bill_run/billrun/InputCounts" "records" "J" (.long q1)) (F1 : Fld Z h0 a1 "com/example/bill_run/billrun/InputCounts" "started" "J" (.long q2)) (F2 : Fld Z h0 a1 "com/example/bill_run/billrun/InputCounts" "ended" "J" (.long q3)) :
    MetFree l (⟨"com/example/bill_run/billrun/InputCounts", "equals", "(Ljava/lang/Object;)Z"⟩ : MethodName) (head1 (Jvm.Cond.code (⟨"com/example/bill_run/billrun/InputCounts", "equals", "(Ljava/lang/Object;)Z"⟩ : MethodName) prog_19_method_6_code 3 (some .boolean) :: ws) ({ frames := 0, cells := 0, slots := 0, locals := 0 } : Room)) (fun a U => a = #[(.ref a1), (.ref a1)] ∧ Z.Warmed39 U.vm ∧ U.heap = h0) (fun _ _ _ _ _ => True) (fun _ U o U' => ∃ v L, o = .returned v ∧ Q_rm3e Z a1 q1 q2 q3 h0 n0 v U'.heap L ∧ FrameEnd U o U' L ({ frames := 0, cells := 0, slots := 0, locals := 0 } : Room).cells ({ frames := 0, cells := 0, slots := 0, locals := 0 } : Room).slots) := by
  refine MetFree.of_bodySF (plainFor_of_name pn_0) hisR ?_
  intro p e s m args below meth c s₁ Bd hml0 hP hK
  obtain ⟨rfl, hZ, hh⟩ := hP
  have hx := Bd.exec
  have hby := Bd.bytes
  have hml : c.maxLocals = 3 := hml0
  have hown : s.vm.findClass "com/example/bill_run/billrun/InputCounts" = some m.cls := findClass_of_methodNamed Bd.named
  have hnm := (name_of_methodNamed Bd.named Bd.method).1
  have X0 : Stand p l e ({ frames := 0, cells := 0, slots := 0, locals := 0 } : Room) s m #[(.ref a1), (.ref a1)] below meth c s₁ [] 0 0 := Stand.of_body Bd
  have e0 : s₁.heap = h0 := by rw [← hh, Bd.state]; rfl
  have N0 := Fr.nil n0
  have Z0 : n0 ≤ h0.size := old_le O0
  have pre0 : ∀ t, Steps p.tables e below (s₁.setTop (mkF m 0 #[.val (.ref a1), .val (.ref a1), .unset] [])) t → Steps p.tables e below (s₁.setTop (entryFrame m #[(.ref a1), (.ref a1)] 3)) t := fun t k => castTop (ef_rm3e m a1 a1) k
  obtain ⟨T101, X101, e101, st101⟩ := instY X0 hx hZ hown (hwk hw 20 rfl) e0 (Ins.self E1) (g := (mkF m 1 #[.val (.ref a1), .val (.ref a1), .unset] [(.ref a1)])) rfl rfl (hb hby d3_1)
  obtain ⟨T102, X102, e102, st102⟩ := castY X101 hx hZ hown (hwk hw 20 rfl) e101 (Ins.self E1) (g := (mkF m 8 #[.val (.ref a1), .val (.ref a1), .unset] [(.ref a1)])) rfl rfl (hb hby d3_8)
  obtain ⟨T103, X103, e103, st103⟩ := getF X102 hx hZ hown (host := "") (Or.inl (hwk hw 9 rfl)) Via.refl e102 F0 (g := (mkF m 13 #[.val (.ref a1), .val (.ref a1), .val (.ref a1)] [(.ref a1)])) rfl rfl (hb hby d3_13)
  obtain ⟨T104, X104, e104, st104⟩ := getF X103 hx hZ hown (host := "") (Or.inl (hwk hw 9 rfl)) Via.refl e103 F0 (g := (mkF m 17 #[.val (.ref a1), .val (.ref a1), .val (.ref a1)] [(.ref a1), (.long q1)])) rfl rfl (hb hby d3_17)
  obtain ⟨T105, X105, e105, st105⟩ := getF X104 hx hZ hown (host := "") (Or.inl (hwk hw 11 rfl)) Via.refl e104 F1 (g := (mkF m 25 #[.val (.ref a1), .val (.ref a1), .val (.ref a1)] [(.ref a1)])) rfl rfl (hb hby d3_25)
  obtain ⟨T106, X106, e106, st106⟩ := getF X105 hx hZ hown (host := "") (Or.inl (hwk hw 11 rfl)) Via.refl e105 F1 (g := (mkF m 29 #[.val (.ref a1), .val (.ref a1), .val (.ref a1)] [(.ref a1), (.long q2)])) rfl rfl (hb hby d3_29)
  obtain ⟨T107, X107, e107, st107⟩ := getF X106 hx hZ hown (host := "") (Or.inl (hwk hw 13 rfl)) Via.refl e106 F2 (g := (mkF m 37 #[.val (.ref a1), .val (.ref a1), .val (.ref a1)] [(.ref a1)])) rfl rfl (hb hby d3_37)
  obtain ⟨T108, X108, e108, st108⟩ := getF X107 hx hZ hown (host := "") (Or.inl (hwk hw 13 rfl)) Via.refl e107 F2 (g := (mkF m 41 #[.val (.ref a1), .val (.ref a1), .val (.ref a1)] [(.ref a1), (.long q3)])) rfl rfl (hb hby d3_41)
  obtain ⟨fs, hr, hrun, hended, hW, hsame⟩ := X108.leave (v := some (.int (1 : Int32))) (fun h => by rw [Bd.returns] at h; cases h)
  refine ⟨_, _, pre0 _ ?_, hrun, hended, _, _, rfl, ?_, ⟨_, rfl⟩, hW, hsame.mono (by decide) (by decide)⟩
  · show Steps p.tables e below (s₁.setTop (mkF m 0 #[.val (.ref a1), .val (.ref a1), .unset] [])) _
    refine XS.aloadN X0.here hx rfl (hb hby d3_0) rfl rfl ?_
    show Steps p.tables e below (s₁.setTop (mkF m 1 #[.val (.ref a1), .val (.ref a1), .unset] [(.ref a1)])) _
    refine st101 _ ?_
    show Steps p.tables e below (T101.setTop (mkF m 4 #[.val (.ref a1), .val (.ref a1), .unset] [(.int (1 : Int32))])) _
    refine XS.ifNo X101.here hx rfl (hb hby d3_4) rfl ((if0 _ _).trans (feq (by decide : ¬ ((1 : Int32) = (0 : Int32)))).1) ?_
    show Steps p.tables e below (T101.setTop (mkF m 7 #[.val (.ref a1), .val (.ref a1), .unset] [])) _
    refine XS.aloadN X101.here hx rfl (hb hby d3_7) rfl rfl ?_
    show Steps p.tables e below (T101.setTop (mkF m 8 #[.val (.ref a1), .val (.ref a1), .unset] [(.ref a1)])) _
    refine st102 _ ?_
    show Steps p.tables e below (T102.setTop (mkF m 11 #[.val (.ref a1), .val (.ref a1), .unset] [(.ref a1)])) _
    refine XS.astoreN X102.here hx rfl (hb hby d3_11) rfl rfl (l' := #[.val (.ref a1), .val (.ref a1), .val (.ref a1)]) rfl ?_
    show Steps p.tables e below (T102.setTop (mkF m 12 #[.val (.ref a1), .val (.ref a1), .val (.ref a1)] [])) _
    refine XS.aloadN X102.here hx rfl (hb hby d3_12) rfl rfl ?_
    show Steps p.tables e below (T102.setTop (mkF m 13 #[.val (.ref a1), .val (.ref a1), .val (.ref a1)] [(.ref a1)])) _
    refine st103 _ ?_
    show Steps p.tables e below (T103.setTop (mkF m 16 #[.val (.ref a1), .val (.ref a1), .val (.ref a1)] [(.long q1)])) _
    refine XS.aloadN X103.here hx rfl (hb hby d3_16) rfl rfl ?_
    show Steps p.tables e below (T103.setTop (mkF m 17 #[.val (.ref a1), .val (.ref a1), .val (.ref a1)] [(.ref a1), (.long q1)])) _
    refine st104 _ ?_
    show Steps p.tables e below (T104.setTop (mkF m 20 #[.val (.ref a1), .val (.ref a1), .val (.ref a1)] [(.long q1), (.long q1)])) _
    refine XS.lcmp X104.here hx rfl (hb hby d3_20) rfl ?_
    show Steps p.tables e below (T104.setTop (mkF m 21 #[.val (.ref a1), .val (.ref a1), .val (.ref a1)] [(.int (lcmpW q1 q1))])) _
    refine XS.ifNo X104.here hx rfl (hb hby d3_21) rfl ((if0 _ _).trans (teq ((lw_eq q1 q1).mpr (rfl : q1 = q1))).2) ?_
    show Steps p.tables e below (T104.setTop (mkF m 24 #[.val (.ref a1), .val (.ref a1), .val (.ref a1)] [])) _
    refine XS.aloadN X104.here hx rfl (hb hby d3_24) rfl rfl ?_
    show Steps p.tables e below (T104.setTop (mkF m 25 #[.val (.ref a1), .val (.ref a1), .val (.ref a1)] [(.ref a1)])) _
    refine st105 _ ?_
    show Steps p.tables e below (T105.setTop (mkF m 28 #[.val (.ref a1), .val (.ref a1), .val (.ref a1)] [(.long q2)])) _
    refine XS.aloadN X105.here hx rfl (hb hby d3_28) rfl rfl ?_
    show Steps p.tables e below (T105.setTop (mkF m 29 #[.val (.ref a1), .val (.ref a1), .val (.ref a1)] [(.ref a1), (.long q2)])) _
    refine st106 _ ?_
    show Steps p.tables e below (T106.setTop (mkF m 32 #[.val (.ref a1), .val (.ref a1), .val (.ref a1)] [(.long q2), (.long q2)])) _
    refine XS.lcmp X106.here hx rfl (hb hby d3_32) rfl ?_
    show Steps p.tables e below (T106.setTop (mkF m 33 #[.val (.ref a1), .val (.ref a1), .val (.ref a1)] [(.int (lcmpW q2 q2))])) _
    refine XS.ifNo X106.here hx rfl (hb hby d3_33) rfl ((if0 _ _).trans (teq ((lw_eq q2 q2).mpr (rfl : q2 = q2))).2) ?_
    show Steps p.tables e below (T106.setTop (mkF m 36 #[.val (.ref a1), .val (.ref a1), .val (.ref a1)] [])) _
    refine XS.aloadN X106.here hx rfl (hb hby d3_36) rfl rfl ?_
    show Steps p.tables e below (T106.setTop (mkF m 37 #[.val (.ref a1), .val (.ref a1), .val (.ref a1)] [(.ref a1)])) _
    refine st107 _ ?_
    show Steps p.tables e below (T107.setTop (mkF m 40 #[.val (.ref a1), .val (.ref a1), .val (.ref a1)] [(.long q3)])) _
    refine XS.aloadN X107.here hx rfl (hb hby d3_40) rfl rfl ?_
    show Steps p.tables e below (T107.setTop (mkF m 41 #[.val (.ref a1), .val (.ref a1), .val (.ref a1)] [(.ref a1), (.long q3)])) _
    refine st108 _ ?_
    show Steps p.tables e below (T108.setTop (mkF m 44 #[.val (.ref a1), .val (.ref a1), .val (.ref a1)] [(.long q3), (.long q3)])) _
    refine XS.lcmp X108.here hx rfl (hb hby d3_44) rfl ?_
    show Steps p.tables e below (T108.setTop (mkF m 45 #[.val (.ref a1), .val (.ref a1), .val (.ref a1)] [(.int (lcmpW q3 q3))])) _
    refine XS.ifNo X108.here hx rfl (hb hby d3_45) rfl ((if0 _ _).trans (teq ((lw_eq q3 q3).mpr (rfl : q3 = q3))).2) ?_
    show Steps p.tables e below (T108.setTop (mkF m 48 #[.val (.ref a1), .val (.ref a1), .val (.ref a1)] [])) _
    refine XS.iconst X108.here hx rfl (hb hby d3_48) ?_
    show Steps p.tables e below (T108.setTop (mkF m 49 #[.val (.ref a1), .val (.ref a1), .val (.ref a1)] [(.int (1 : Int32))])) _
    refine XS.goto X108.here hx rfl (pc0 := 49) (pc' := 53) rfl (hb hby d3_49) (by decide) (by decide) ?_
    show Steps p.tables e below (T108.setTop (mkF m 53 #[.val (.ref a1), .val (.ref a1), .val (.ref a1)] [(.int (1 : Int32))])) _
    exact Jvm.RoadKit.retOut X108 hx Bd.returns rfl (Or.inl ⟨rfl, by simp, _, rfl⟩) (hb hby d3_53) hr
  · show Q_rm3e Z a1 q1 q2 q3 h0 n0 _ T108.heap _
    rw [e108]
    unfold Q_rm3e
    exact ⟨rfl, N0, rfl⟩
theorem ef_rm3s (m : MethodId) (x0 : Addr) (x1 : Addr) : entryFrame m #[(.ref x0), (.ref x1)] 3 = mkF m 0 #[.val (.ref x0), .val (.ref x1), .unset] [] := by first | (simp [entryFrame, mkF, argsToLocals, Value.category]; done) | rfl
def V3 (q1 q2 q3 r1 r2 r3 : Int64) : Int32 := if q1 = r1 then (if q2 = r2 then (if q3 = r3 then 1 else 0) else 0) else 0
def Q_rm3s (Z : State) (a1 : Addr) (b1 : Addr) (q1 : Int64) (q2 : Int64) (q3 : Int64) (r1 : Int64) (r2 : Int64) (r3 : Int64) (h0 : Heap) (n0 : Nat) (v : Option Value) (h : Heap) (L : List Loc) : Prop := (v = some (.int (V3 q1 q2 q3 r1 r2 r3))) ∧ (Fr n0 L) ∧ (h = h0)
set_option maxRecDepth 65536 in
set_option maxHeartbeats 40000000 in
theorem rm3s (l : Launch) (Z : State) (a0 : Array Value) (hw : ∀ d ∈ tables_1, d.before a0 Z = true) (ws : List Jvm.Cond) (a1 : Addr) (b1 : Addr) (q1 : Int64) (q2 : Int64) (q3 : Int64) (r1 : Int64) (r2 : Int64) (r3 : Int64) (h0 : Heap) (n0 : Nat) (O0 : Old Z n0 h0) (E1 : Exa Z h0 a1 "com/example/bill_run/billrun/InputCounts") (E2 : Exa Z h0 b1 "com/example/bill_run/billrun/InputCounts") (F0 : Fld Z h0 a1 "com/example/bill_run/billrun/InputCounts" "records" "J" (.long q1)) (F1 : Fld Z h0 a1 "com/example/bill_run/billrun/InputCounts" "started" "J" (.long q2)) (F2 : Fld Z h0 a1 "com/example/bill_run/billrun/InputCounts" "ended" "J" (.long q3)) (G0 : Fld Z h0 b1 "com/example/bill_run/billrun/InputCounts" "records" "J" (.long r1)) (G1 : Fld Z h0 b1 "com/example/bill_run/billrun/InputCounts" "started" "J" (.long r2)) (G2 : Fld Z h0 b1 "com/example/bill_run/billrun/InputCounts" "ended" "J" (.long r3)) :
    MetFree l (⟨"com/example/bill_run/billrun/InputCounts", "equals", "(Ljava/lang/Object;)Z"⟩ : MethodName) (head1 (Jvm.Cond.code (⟨"com/example/bill_run/billrun/InputCounts", "equals", "(Ljava/lang/Object;)Z"⟩ : MethodName) prog_19_method_6_code 3 (some .boolean) :: ws) ({ frames := 0, cells := 0, slots := 0, locals := 0 } : Room)) (fun a U => a = #[(.ref a1), (.ref b1)] ∧ Z.Warmed39 U.vm ∧ U.heap = h0) (fun _ _ _ _ _ => True) (fun _ U o U' => ∃ v L, o = .returned v ∧ Q_rm3s Z a1 b1 q1 q2 q3 r1 r2 r3 h0 n0 v U'.heap L ∧ FrameEnd U o U' L ({ frames := 0, cells := 0, slots := 0, locals := 0 } : Room).cells ({ frames := 0, cells := 0, slots := 0, locals := 0 } : Room).slots) := by
  refine MetFree.of_bodySF (plainFor_of_name pn_0) hisR ?_
  intro p e s m args below meth c s₁ Bd hml0 hP hK
  obtain ⟨rfl, hZ, hh⟩ := hP
  have hx := Bd.exec
  have hby := Bd.bytes
  have hml : c.maxLocals = 3 := hml0
  have hown : s.vm.findClass "com/example/bill_run/billrun/InputCounts" = some m.cls := findClass_of_methodNamed Bd.named
  have hnm := (name_of_methodNamed Bd.named Bd.method).1
  have X0 : Stand p l e ({ frames := 0, cells := 0, slots := 0, locals := 0 } : Room) s m #[(.ref a1), (.ref b1)] below meth c s₁ [] 0 0 := Stand.of_body Bd
  have e0 : s₁.heap = h0 := by rw [← hh, Bd.state]; rfl
  have N0 := Fr.nil n0
  have Z0 : n0 ≤ h0.size := old_le O0
  have pre0 : ∀ t, Steps p.tables e below (s₁.setTop (mkF m 0 #[.val (.ref a1), .val (.ref b1), .unset] [])) t → Steps p.tables e below (s₁.setTop (entryFrame m #[(.ref a1), (.ref b1)] 3)) t := fun t k => castTop (ef_rm3s m a1 b1) k
  obtain ⟨T101, X101, e101, st101⟩ := instY X0 hx hZ hown (hwk hw 20 rfl) e0 (Ins.self E2) (g := (mkF m 1 #[.val (.ref a1), .val (.ref b1), .unset] [(.ref b1)])) rfl rfl (hb hby d3_1)
  obtain ⟨T102, X102, e102, st102⟩ := castY X101 hx hZ hown (hwk hw 20 rfl) e101 (Ins.self E2) (g := (mkF m 8 #[.val (.ref a1), .val (.ref b1), .unset] [(.ref b1)])) rfl rfl (hb hby d3_8)
  obtain ⟨T103, X103, e103, st103⟩ := getF X102 hx hZ hown (host := "") (Or.inl (hwk hw 9 rfl)) Via.refl e102 F0 (g := (mkF m 13 #[.val (.ref a1), .val (.ref b1), .val (.ref b1)] [(.ref a1)])) rfl rfl (hb hby d3_13)
  obtain ⟨T104, X104, e104, st104⟩ := getF X103 hx hZ hown (host := "") (Or.inl (hwk hw 9 rfl)) Via.refl e103 G0 (g := (mkF m 17 #[.val (.ref a1), .val (.ref b1), .val (.ref b1)] [(.ref b1), (.long q1)])) rfl rfl (hb hby d3_17)
  have S106 : ∀ t, Steps p.tables e below (T104.setTop (mkF m 21 #[.val (.ref a1), .val (.ref b1), .val (.ref b1)] [(.int (lcmpW q1 r1))])) t → Steps p.tables e below (s₁.setTop (entryFrame m #[(.ref a1), (.ref b1)] 3)) t := fun t k => by
    refine pre0 t ?_
    show Steps p.tables e below (s₁.setTop (mkF m 0 #[.val (.ref a1), .val (.ref b1), .unset] [])) _
    refine XS.aloadN X0.here hx rfl (hb hby d3_0) rfl rfl ?_
    show Steps p.tables e below (s₁.setTop (mkF m 1 #[.val (.ref a1), .val (.ref b1), .unset] [(.ref b1)])) _
    refine st101 _ ?_
    show Steps p.tables e below (T101.setTop (mkF m 4 #[.val (.ref a1), .val (.ref b1), .unset] [(.int (1 : Int32))])) _
    refine XS.ifNo X101.here hx rfl (hb hby d3_4) rfl ((if0 _ _).trans (feq (by decide : ¬ ((1 : Int32) = (0 : Int32)))).1) ?_
    show Steps p.tables e below (T101.setTop (mkF m 7 #[.val (.ref a1), .val (.ref b1), .unset] [])) _
    refine XS.aloadN X101.here hx rfl (hb hby d3_7) rfl rfl ?_
    show Steps p.tables e below (T101.setTop (mkF m 8 #[.val (.ref a1), .val (.ref b1), .unset] [(.ref b1)])) _
    refine st102 _ ?_
    show Steps p.tables e below (T102.setTop (mkF m 11 #[.val (.ref a1), .val (.ref b1), .unset] [(.ref b1)])) _
    refine XS.astoreN X102.here hx rfl (hb hby d3_11) rfl rfl (l' := #[.val (.ref a1), .val (.ref b1), .val (.ref b1)]) rfl ?_
    show Steps p.tables e below (T102.setTop (mkF m 12 #[.val (.ref a1), .val (.ref b1), .val (.ref b1)] [])) _
    refine XS.aloadN X102.here hx rfl (hb hby d3_12) rfl rfl ?_
    show Steps p.tables e below (T102.setTop (mkF m 13 #[.val (.ref a1), .val (.ref b1), .val (.ref b1)] [(.ref a1)])) _
    refine st103 _ ?_
    show Steps p.tables e below (T103.setTop (mkF m 16 #[.val (.ref a1), .val (.ref b1), .val (.ref b1)] [(.long q1)])) _
    refine XS.aloadN X103.here hx rfl (hb hby d3_16) rfl rfl ?_
    show Steps p.tables e below (T103.setTop (mkF m 17 #[.val (.ref a1), .val (.ref b1), .val (.ref b1)] [(.ref b1), (.long q1)])) _
    refine st104 _ ?_
    show Steps p.tables e below (T104.setTop (mkF m 20 #[.val (.ref a1), .val (.ref b1), .val (.ref b1)] [(.long r1), (.long q1)])) _
    refine XS.lcmp X104.here hx rfl (hb hby d3_20) rfl ?_
    exact k
  by_cases hc105 : q1 = r1
  · obtain ⟨T107, X107, e107, st107⟩ := getF X104 hx hZ hown (host := "") (Or.inl (hwk hw 11 rfl)) Via.refl e104 F1 (g := (mkF m 25 #[.val (.ref a1), .val (.ref b1), .val (.ref b1)] [(.ref a1)])) rfl rfl (hb hby d3_25)
    obtain ⟨T108, X108, e108, st108⟩ := getF X107 hx hZ hown (host := "") (Or.inl (hwk hw 11 rfl)) Via.refl e107 G1 (g := (mkF m 29 #[.val (.ref a1), .val (.ref b1), .val (.ref b1)] [(.ref b1), (.long q2)])) rfl rfl (hb hby d3_29)
    have S110 : ∀ t, Steps p.tables e below (T108.setTop (mkF m 33 #[.val (.ref a1), .val (.ref b1), .val (.ref b1)] [(.int (lcmpW q2 r2))])) t → Steps p.tables e below (s₁.setTop (entryFrame m #[(.ref a1), (.ref b1)] 3)) t := fun t k => by
      refine S106 t ?_
      show Steps p.tables e below (T104.setTop (mkF m 21 #[.val (.ref a1), .val (.ref b1), .val (.ref b1)] [(.int (lcmpW q1 r1))])) _
      refine XS.ifNo X104.here hx rfl (hb hby d3_21) rfl ((if0 _ _).trans (teq ((lw_eq q1 r1).mpr hc105)).2) ?_
      show Steps p.tables e below (T104.setTop (mkF m 24 #[.val (.ref a1), .val (.ref b1), .val (.ref b1)] [])) _
      refine XS.aloadN X104.here hx rfl (hb hby d3_24) rfl rfl ?_
      show Steps p.tables e below (T104.setTop (mkF m 25 #[.val (.ref a1), .val (.ref b1), .val (.ref b1)] [(.ref a1)])) _
      refine st107 _ ?_
      show Steps p.tables e below (T107.setTop (mkF m 28 #[.val (.ref a1), .val (.ref b1), .val (.ref b1)] [(.long q2)])) _
      refine XS.aloadN X107.here hx rfl (hb hby d3_28) rfl rfl ?_
      show Steps p.tables e below (T107.setTop (mkF m 29 #[.val (.ref a1), .val (.ref b1), .val (.ref b1)] [(.ref b1), (.long q2)])) _
      refine st108 _ ?_
      show Steps p.tables e below (T108.setTop (mkF m 32 #[.val (.ref a1), .val (.ref b1), .val (.ref b1)] [(.long r2), (.long q2)])) _
      refine XS.lcmp X108.here hx rfl (hb hby d3_32) rfl ?_
      exact k
    by_cases hc109 : q2 = r2
    · obtain ⟨T111, X111, e111, st111⟩ := getF X108 hx hZ hown (host := "") (Or.inl (hwk hw 13 rfl)) Via.refl e108 F2 (g := (mkF m 37 #[.val (.ref a1), .val (.ref b1), .val (.ref b1)] [(.ref a1)])) rfl rfl (hb hby d3_37)
      obtain ⟨T112, X112, e112, st112⟩ := getF X111 hx hZ hown (host := "") (Or.inl (hwk hw 13 rfl)) Via.refl e111 G2 (g := (mkF m 41 #[.val (.ref a1), .val (.ref b1), .val (.ref b1)] [(.ref b1), (.long q3)])) rfl rfl (hb hby d3_41)
      have S114 : ∀ t, Steps p.tables e below (T112.setTop (mkF m 45 #[.val (.ref a1), .val (.ref b1), .val (.ref b1)] [(.int (lcmpW q3 r3))])) t → Steps p.tables e below (s₁.setTop (entryFrame m #[(.ref a1), (.ref b1)] 3)) t := fun t k => by
        refine S110 t ?_
        show Steps p.tables e below (T108.setTop (mkF m 33 #[.val (.ref a1), .val (.ref b1), .val (.ref b1)] [(.int (lcmpW q2 r2))])) _
        refine XS.ifNo X108.here hx rfl (hb hby d3_33) rfl ((if0 _ _).trans (teq ((lw_eq q2 r2).mpr hc109)).2) ?_
        show Steps p.tables e below (T108.setTop (mkF m 36 #[.val (.ref a1), .val (.ref b1), .val (.ref b1)] [])) _
        refine XS.aloadN X108.here hx rfl (hb hby d3_36) rfl rfl ?_
        show Steps p.tables e below (T108.setTop (mkF m 37 #[.val (.ref a1), .val (.ref b1), .val (.ref b1)] [(.ref a1)])) _
        refine st111 _ ?_
        show Steps p.tables e below (T111.setTop (mkF m 40 #[.val (.ref a1), .val (.ref b1), .val (.ref b1)] [(.long q3)])) _
        refine XS.aloadN X111.here hx rfl (hb hby d3_40) rfl rfl ?_
        show Steps p.tables e below (T111.setTop (mkF m 41 #[.val (.ref a1), .val (.ref b1), .val (.ref b1)] [(.ref b1), (.long q3)])) _
        refine st112 _ ?_
        show Steps p.tables e below (T112.setTop (mkF m 44 #[.val (.ref a1), .val (.ref b1), .val (.ref b1)] [(.long r3), (.long q3)])) _
        refine XS.lcmp X112.here hx rfl (hb hby d3_44) rfl ?_
        exact k
      by_cases hc113 : q3 = r3
      · obtain ⟨fs, hr, hrun, hended, hW, hsame⟩ := X112.leave (v := some (.int (1 : Int32))) (fun h => by rw [Bd.returns] at h; cases h)
        refine ⟨_, _, S114 _ ?_, hrun, hended, _, _, rfl, ?_, ⟨_, rfl⟩, hW, hsame.mono (by decide) (by decide)⟩
        · show Steps p.tables e below (T112.setTop (mkF m 45 #[.val (.ref a1), .val (.ref b1), .val (.ref b1)] [(.int (lcmpW q3 r3))])) _
          refine XS.ifNo X112.here hx rfl (hb hby d3_45) rfl ((if0 _ _).trans (teq ((lw_eq q3 r3).mpr hc113)).2) ?_
          show Steps p.tables e below (T112.setTop (mkF m 48 #[.val (.ref a1), .val (.ref b1), .val (.ref b1)] [])) _
          refine XS.iconst X112.here hx rfl (hb hby d3_48) ?_
          show Steps p.tables e below (T112.setTop (mkF m 49 #[.val (.ref a1), .val (.ref b1), .val (.ref b1)] [(.int (1 : Int32))])) _
          refine XS.goto X112.here hx rfl (pc0 := 49) (pc' := 53) rfl (hb hby d3_49) (by decide) (by decide) ?_
          show Steps p.tables e below (T112.setTop (mkF m 53 #[.val (.ref a1), .val (.ref b1), .val (.ref b1)] [(.int (1 : Int32))])) _
          exact Jvm.RoadKit.retOut X112 hx Bd.returns rfl (Or.inl ⟨rfl, by simp, _, rfl⟩) (hb hby d3_53) hr
        · show Q_rm3s Z a1 b1 q1 q2 q3 r1 r2 r3 h0 n0 _ T112.heap _
          rw [e112]
          unfold Q_rm3s
          exact ⟨by simp [V3, hc105, hc109, hc113], N0, rfl⟩
      · obtain ⟨fs, hr, hrun, hended, hW, hsame⟩ := X112.leave (v := some (.int (0 : Int32))) (fun h => by rw [Bd.returns] at h; cases h)
        refine ⟨_, _, S114 _ ?_, hrun, hended, _, _, rfl, ?_, ⟨_, rfl⟩, hW, hsame.mono (by decide) (by decide)⟩
        · show Steps p.tables e below (T112.setTop (mkF m 45 #[.val (.ref a1), .val (.ref b1), .val (.ref b1)] [(.int (lcmpW q3 r3))])) _
          refine XS.ifYes X112.here hx rfl (pc0 := 45) (pc' := 52) rfl (hb hby d3_45) rfl ((if0 _ _).trans (feq (fun q => hc113 ((lw_eq q3 r3).mp q))).2) (by decide) (by decide) ?_
          show Steps p.tables e below (T112.setTop (mkF m 52 #[.val (.ref a1), .val (.ref b1), .val (.ref b1)] [])) _
          refine XS.iconst X112.here hx rfl (hb hby d3_52) ?_
          show Steps p.tables e below (T112.setTop (mkF m 53 #[.val (.ref a1), .val (.ref b1), .val (.ref b1)] [(.int (0 : Int32))])) _
          exact Jvm.RoadKit.retOut X112 hx Bd.returns rfl (Or.inl ⟨rfl, by simp, _, rfl⟩) (hb hby d3_53) hr
        · show Q_rm3s Z a1 b1 q1 q2 q3 r1 r2 r3 h0 n0 _ T112.heap _
          rw [e112]
          unfold Q_rm3s
          exact ⟨by simp [V3, hc105, hc109, hc113], N0, rfl⟩
    · obtain ⟨fs, hr, hrun, hended, hW, hsame⟩ := X108.leave (v := some (.int (0 : Int32))) (fun h => by rw [Bd.returns] at h; cases h)
      refine ⟨_, _, S110 _ ?_, hrun, hended, _, _, rfl, ?_, ⟨_, rfl⟩, hW, hsame.mono (by decide) (by decide)⟩
      · show Steps p.tables e below (T108.setTop (mkF m 33 #[.val (.ref a1), .val (.ref b1), .val (.ref b1)] [(.int (lcmpW q2 r2))])) _
        refine XS.ifYes X108.here hx rfl (pc0 := 33) (pc' := 52) rfl (hb hby d3_33) rfl ((if0 _ _).trans (feq (fun q => hc109 ((lw_eq q2 r2).mp q))).2) (by decide) (by decide) ?_
        show Steps p.tables e below (T108.setTop (mkF m 52 #[.val (.ref a1), .val (.ref b1), .val (.ref b1)] [])) _
        refine XS.iconst X108.here hx rfl (hb hby d3_52) ?_
        show Steps p.tables e below (T108.setTop (mkF m 53 #[.val (.ref a1), .val (.ref b1), .val (.ref b1)] [(.int (0 : Int32))])) _
        exact Jvm.RoadKit.retOut X108 hx Bd.returns rfl (Or.inl ⟨rfl, by simp, _, rfl⟩) (hb hby d3_53) hr
      · show Q_rm3s Z a1 b1 q1 q2 q3 r1 r2 r3 h0 n0 _ T108.heap _
        rw [e108]
        unfold Q_rm3s
        exact ⟨by simp [V3, hc105, hc109], N0, rfl⟩
  · obtain ⟨fs, hr, hrun, hended, hW, hsame⟩ := X104.leave (v := some (.int (0 : Int32))) (fun h => by rw [Bd.returns] at h; cases h)
    refine ⟨_, _, S106 _ ?_, hrun, hended, _, _, rfl, ?_, ⟨_, rfl⟩, hW, hsame.mono (by decide) (by decide)⟩
    · show Steps p.tables e below (T104.setTop (mkF m 21 #[.val (.ref a1), .val (.ref b1), .val (.ref b1)] [(.int (lcmpW q1 r1))])) _
      refine XS.ifYes X104.here hx rfl (pc0 := 21) (pc' := 52) rfl (hb hby d3_21) rfl ((if0 _ _).trans (feq (fun q => hc105 ((lw_eq q1 r1).mp q))).2) (by decide) (by decide) ?_
      show Steps p.tables e below (T104.setTop (mkF m 52 #[.val (.ref a1), .val (.ref b1), .val (.ref b1)] [])) _
      refine XS.iconst X104.here hx rfl (hb hby d3_52) ?_
      show Steps p.tables e below (T104.setTop (mkF m 53 #[.val (.ref a1), .val (.ref b1), .val (.ref b1)] [(.int (0 : Int32))])) _
      exact Jvm.RoadKit.retOut X104 hx Bd.returns rfl (Or.inl ⟨rfl, by simp, _, rfl⟩) (hb hby d3_53) hr
    · show Q_rm3s Z a1 b1 q1 q2 q3 r1 r2 r3 h0 n0 _ T104.heap _
      rw [e104]
      unfold Q_rm3s
      exact ⟨by simp [V3, hc105], N0, rfl⟩
theorem ef_rm3l (m : MethodId) (x0 : Addr) (x1 : Addr) : entryFrame m #[(.ref x0), (.ref x1)] 3 = mkF m 0 #[.val (.ref x0), .val (.ref x1), .unset] [] := by first | (simp [entryFrame, mkF, argsToLocals, Value.category]; done) | rfl
def Q_rm3l (Z : State) (a1 : Addr) (b1 : Addr) (h0 : Heap) (n0 : Nat) (v : Option Value) (h : Heap) (L : List Loc) : Prop := (v = some (.int (0 : Int32))) ∧ (Fr n0 L) ∧ (h = h0)
set_option maxRecDepth 65536 in
set_option maxHeartbeats 40000000 in
theorem rm3l (l : Launch) (Z : State) (a0 : Array Value) (hw : ∀ d ∈ tables_1, d.before a0 Z = true) (ws : List Jvm.Cond) (a1 : Addr) (b1 : Addr) (h0 : Heap) (n0 : Nat) (O0 : Old Z n0 h0) (E2 : Exa Z h0 b1 "java/lang/Long") :
    MetFree l (⟨"com/example/bill_run/billrun/InputCounts", "equals", "(Ljava/lang/Object;)Z"⟩ : MethodName) (head1 (Jvm.Cond.code (⟨"com/example/bill_run/billrun/InputCounts", "equals", "(Ljava/lang/Object;)Z"⟩ : MethodName) prog_19_method_6_code 3 (some .boolean) :: ws) ({ frames := 0, cells := 0, slots := 0, locals := 0 } : Room)) (fun a U => a = #[(.ref a1), (.ref b1)] ∧ Z.Warmed39 U.vm ∧ U.heap = h0) (fun _ _ _ _ _ => True) (fun _ U o U' => ∃ v L, o = .returned v ∧ Q_rm3l Z a1 b1 h0 n0 v U'.heap L ∧ FrameEnd U o U' L ({ frames := 0, cells := 0, slots := 0, locals := 0 } : Room).cells ({ frames := 0, cells := 0, slots := 0, locals := 0 } : Room).slots) := by
  refine MetFree.of_bodySF (plainFor_of_name pn_0) hisR ?_
  intro p e s m args below meth c s₁ Bd hml0 hP hK
  obtain ⟨rfl, hZ, hh⟩ := hP
  have hx := Bd.exec
  have hby := Bd.bytes
  have hml : c.maxLocals = 3 := hml0
  have hown : s.vm.findClass "com/example/bill_run/billrun/InputCounts" = some m.cls := findClass_of_methodNamed Bd.named
  have hnm := (name_of_methodNamed Bd.named Bd.method).1
  have X0 : Stand p l e ({ frames := 0, cells := 0, slots := 0, locals := 0 } : Room) s m #[(.ref a1), (.ref b1)] below meth c s₁ [] 0 0 := Stand.of_body Bd
  have e0 : s₁.heap = h0 := by rw [← hh, Bd.state]; rfl
  have N0 := Fr.nil n0
  have Z0 : n0 ≤ h0.size := old_le O0
  have pre0 : ∀ t, Steps p.tables e below (s₁.setTop (mkF m 0 #[.val (.ref a1), .val (.ref b1), .unset] [])) t → Steps p.tables e below (s₁.setTop (entryFrame m #[(.ref a1), (.ref b1)] 3)) t := fun t k => castTop (ef_rm3l m a1 b1) k
  obtain ⟨T101, X101, e101, st101⟩ := instNo X0 hx hZ hown (hwk hw 20 rfl) e0 E2 (own_nsNo (hwk hw 42 rfl) (hwk hw 1 rfl) (NS.step (hwk hw 42 rfl) (NS.step (hwk hw 43 rfl) (own_nsRoot (hwk hw 44 rfl) (hwk hw 1 rfl) (by decide)) (by decide)) (by decide)) (by decide)) (g := (mkF m 1 #[.val (.ref a1), .val (.ref b1), .unset] [(.ref b1)])) rfl rfl (hb hby d3_1)
  obtain ⟨fs, hr, hrun, hended, hW, hsame⟩ := X101.leave (v := some (.int (0 : Int32))) (fun h => by rw [Bd.returns] at h; cases h)
  refine ⟨_, _, pre0 _ ?_, hrun, hended, _, _, rfl, ?_, ⟨_, rfl⟩, hW, hsame.mono (by decide) (by decide)⟩
  · show Steps p.tables e below (s₁.setTop (mkF m 0 #[.val (.ref a1), .val (.ref b1), .unset] [])) _
    refine XS.aloadN X0.here hx rfl (hb hby d3_0) rfl rfl ?_
    show Steps p.tables e below (s₁.setTop (mkF m 1 #[.val (.ref a1), .val (.ref b1), .unset] [(.ref b1)])) _
    refine st101 _ ?_
    show Steps p.tables e below (T101.setTop (mkF m 4 #[.val (.ref a1), .val (.ref b1), .unset] [(.int (0 : Int32))])) _
    refine XS.ifYes X101.here hx rfl (pc0 := 4) (pc' := 52) rfl (hb hby d3_4) rfl ((if0 _ _).trans (teq (by decide : (0 : Int32) = (0 : Int32))).1) (by decide) (by decide) ?_
    show Steps p.tables e below (T101.setTop (mkF m 52 #[.val (.ref a1), .val (.ref b1), .unset] [])) _
    refine XS.iconst X101.here hx rfl (hb hby d3_52) ?_
    show Steps p.tables e below (T101.setTop (mkF m 53 #[.val (.ref a1), .val (.ref b1), .unset] [(.int (0 : Int32))])) _
    exact Jvm.RoadKit.retOut X101 hx Bd.returns rfl (Or.inl ⟨rfl, by simp, _, rfl⟩) (hb hby d3_53) hr
  · show Q_rm3l Z a1 b1 h0 n0 _ T101.heap _
    rw [e101]
    unfold Q_rm3l
    exact ⟨rfl, N0, rfl⟩
theorem ef_rm6 (m : MethodId) (x0 : Addr) : entryFrame m #[(.ref x0)] 1 = mkF m 0 #[.val (.ref x0)] [] := by first | (simp [entryFrame, mkF, argsToLocals, Value.category]; done) | rfl
def Q_rm6 (Z : State) (a1 : Addr) (h0 : Heap) (n0 : Nat) (v : Option Value) (h : Heap) (L : List Loc) : Prop := (v = none) ∧ (Fr n0 L) ∧ (h = h0)
theorem pn_1 : plainName "java/lang/Number" = true := by first | (simp [plainName, overriddenIn]; done) | decide +kernel
theorem d6_0 : decode jdk_18_method_1_code 0 = .ok (.aload_n 0, 1) := by decide +kernel
theorem d6_1 : decode jdk_18_method_1_code 1 = .ok (.invokespecial 1, 3) := by decide +kernel
theorem d6_4 : decode jdk_18_method_1_code 4 = .ok (.return_, 1) := by decide +kernel
set_option maxRecDepth 65536 in
set_option maxHeartbeats 40000000 in
theorem rm6 (l : Launch) (Z : State) (a0 : Array Value) (hw : ∀ d ∈ tables_1, d.before a0 Z = true) (ws : List Jvm.Cond) (a1 : Addr) (h0 : Heap) (n0 : Nat) (O0 : Old Z n0 h0)  :
    MetFree l (⟨"java/lang/Number", "<init>", "()V"⟩ : MethodName) (head1 (Jvm.Cond.code (⟨"java/lang/Number", "<init>", "()V"⟩ : MethodName) jdk_18_method_1_code 1 none :: ws) ({ frames := 1, cells := 0, slots := 0, locals := 12 } : Room)) (fun a U => a = #[(.ref a1)] ∧ Z.Warmed39 U.vm ∧ U.heap = h0) (fun _ _ _ _ _ => True) (fun _ U o U' => ∃ v L, o = .returned v ∧ Q_rm6 Z a1 h0 n0 v U'.heap L ∧ FrameEnd U o U' L ({ frames := 1, cells := 0, slots := 0, locals := 12 } : Room).cells ({ frames := 1, cells := 0, slots := 0, locals := 12 } : Room).slots) := by
  refine MetFree.of_bodySF (plainFor_of_name pn_1) hisR ?_
  intro p e s m args below meth c s₁ Bd hml0 hP hK
  obtain ⟨rfl, hZ, hh⟩ := hP
  have hx := Bd.exec
  have hby := Bd.bytes
  have hml : c.maxLocals = 1 := hml0
  have hown : s.vm.findClass "java/lang/Number" = some m.cls := findClass_of_methodNamed Bd.named
  have hnm := (name_of_methodNamed Bd.named Bd.method).1
  have X0 : Stand p l e ({ frames := 1, cells := 0, slots := 0, locals := 12 } : Room) s m #[(.ref a1)] below meth c s₁ [] 0 0 := Stand.of_body Bd
  have e0 : s₁.heap = h0 := by rw [← hh, Bd.state]; rfl
  have N0 := Fr.nil n0
  have Z0 : n0 ≤ h0.size := old_le O0
  have pre0 : ∀ t, Steps p.tables e below (s₁.setTop (mkF m 0 #[.val (.ref a1)] [])) t → Steps p.tables e below (s₁.setTop (entryFrame m #[(.ref a1)] 1)) t := fun t k => castTop (ef_rm6 m a1) k
  obtain ⟨T101, X101, e101, st101⟩ := initO X0 hx hZ hown (hwk hw 39 rfl) (hwk hw 7 rfl) (hwk hw 8 rfl) e0 (g := (mkF m 1 #[.val (.ref a1)] [(.ref a1)])) rfl (by rw [hml]; rfl) rfl (hb hby d6_1) (by decide) (W := 0) (by show 2 * 0 + _ ≤ _; exact Nat.le_of_eq rfl) (by decide)
  obtain ⟨fs, hr, hrun, hended, hW, hsame⟩ := X101.leave (v := none) (fun _ => rfl)
  refine ⟨_, _, pre0 _ ?_, hrun, hended, _, _, rfl, ?_, ⟨_, rfl⟩, hW, hsame.mono (by decide) (by decide)⟩
  · show Steps p.tables e below (s₁.setTop (mkF m 0 #[.val (.ref a1)] [])) _
    refine XS.aloadN X0.here hx rfl (hb hby d6_0) rfl rfl ?_
    show Steps p.tables e below (s₁.setTop (mkF m 1 #[.val (.ref a1)] [(.ref a1)])) _
    refine st101 _ ?_
    show Steps p.tables e below (T101.setTop (mkF m 4 #[.val (.ref a1)] [])) _
    exact X101.returnOut hx Bd.returns (hb hby d6_4) hr
  · show Q_rm6 Z a1 h0 n0 _ T101.heap _
    rw [e101]
    unfold Q_rm6
    exact ⟨rfl, N0, rfl⟩
theorem ef_rm5 (m : MethodId) (x0 : Addr) (x1 : Int64) : entryFrame m #[(.ref x0), (.long x1)] 3 = mkF m 0 #[.val (.ref x0), .val (.long x1), .second] [] := by first | (simp [entryFrame, mkF, argsToLocals, Value.category]; done) | rfl
def Q_rm5 (Z : State) (a1 : Addr) (q1 : Int64) (h0 : Heap) (n0 : Nat) (v : Option Value) (h : Heap) (L : List Loc) : Prop := (v = none) ∧ (Fr n0 L) ∧ (Keep h0 h [a1]) ∧ (Exa Z h a1 "java/lang/Long")
theorem pn_2 : plainName "java/lang/Long" = true := by first | (simp [plainName, overriddenIn]; done) | decide +kernel
theorem d5_0 : decode jdk_35_method_26_code 0 = .ok (.aload_n 0, 1) := by decide +kernel
theorem d5_1 : decode jdk_35_method_26_code 1 = .ok (.invokespecial 270, 3) := by decide +kernel
theorem pd_0 : parseMethodDescriptor "()V" = some ⟨[], none⟩ := by decide +kernel
theorem d5_4 : decode jdk_35_method_26_code 4 = .ok (.aload_n 0, 1) := by decide +kernel
theorem d5_5 : decode jdk_35_method_26_code 5 = .ok (.lload_n 1, 1) := by decide +kernel
theorem d5_6 : decode jdk_35_method_26_code 6 = .ok (.putfield 273, 3) := by decide +kernel
theorem d5_9 : decode jdk_35_method_26_code 9 = .ok (.return_, 1) := by decide +kernel
set_option maxRecDepth 65536 in
set_option maxHeartbeats 40000000 in
theorem rm5 (l : Launch) (Z : State) (a0 : Array Value) (hw : ∀ d ∈ tables_1, d.before a0 Z = true) (ws : List Jvm.Cond) (a1 : Addr) (q1 : Int64) (h0 : Heap) (n0 : Nat) (O0 : Old Z n0 h0) (E1 : Exa Z h0 a1 "java/lang/Long") (g1 : n0 ≤ a1) (F1 : Fld Z h0 a1 "java/lang/Long" "value" "J" (.long (0 : Int64))) :
    MetFree l (⟨"java/lang/Long", "<init>", "(J)V"⟩ : MethodName) (head1 (Jvm.Cond.code (⟨"java/lang/Long", "<init>", "(J)V"⟩ : MethodName) jdk_35_method_26_code 3 none :: ws) ({ frames := 2, cells := 0, slots := 0, locals := 24 } : Room)) (fun a U => a = #[(.ref a1), (.long q1)] ∧ Z.Warmed39 U.vm ∧ U.heap = h0) (fun _ _ _ _ _ => True) (fun _ U o U' => ∃ v L, o = .returned v ∧ Q_rm5 Z a1 q1 h0 n0 v U'.heap L ∧ FrameEnd U o U' L ({ frames := 2, cells := 0, slots := 0, locals := 24 } : Room).cells ({ frames := 2, cells := 0, slots := 0, locals := 24 } : Room).slots) := by
  refine MetFree.of_bodySF (plainFor_of_name pn_2) hisR ?_
  intro p e s m args below meth c s₁ Bd hml0 hP hK
  obtain ⟨rfl, hZ, hh⟩ := hP
  have hx := Bd.exec
  have hby := Bd.bytes
  have hml : c.maxLocals = 3 := hml0
  have hown : s.vm.findClass "java/lang/Long" = some m.cls := findClass_of_methodNamed Bd.named
  have hnm := (name_of_methodNamed Bd.named Bd.method).1
  have X0 : Stand p l e ({ frames := 2, cells := 0, slots := 0, locals := 24 } : Room) s m #[(.ref a1), (.long q1)] below meth c s₁ [] 0 0 := Stand.of_body Bd
  have e0 : s₁.heap = h0 := by rw [← hh, Bd.state]; rfl
  have N0 := Fr.nil n0
  have Z0 : n0 ≤ h0.size := old_le O0
  have pre0 : ∀ t, Steps p.tables e below (s₁.setTop (mkF m 0 #[.val (.ref a1), .val (.long q1), .second] [])) t → Steps p.tables e below (s₁.setTop (entryFrame m #[(.ref a1), (.long q1)] 3)) t := fun t k => castTop (ef_rm5 m a1 q1) k
  obtain ⟨_, _, ⟨T101, L101, k101, n101⟩, -, X101, ⟨Lc101, hQ101, l101, y101, z101⟩, st101⟩ := X0.specialBack hx (y := (⟨"java/lang/Number", "<init>", "()V"⟩ : MethodName)) rfl hown (mvT hZ (hwk hw 33 rfl)) (mvT hZ (hwk hw 34 rfl)) (mvT hZ (hwk hw 38 rfl)) (by decide) (backOf (W := 0) (rm6 l Z a0 hw [] a1 h0 n0 O0 ) hZ (hwk hw 38 rfl) (hwk hw 37 rfl) (by decide) (by decide)) (g := (mkF m 1 #[.val (.ref a1), .val (.long q1), .second] [(.ref a1)])) rfl (by rw [hml]; rfl) (Steps.refl _) (a := a1) (argsL := []) (rest := []) (lenOf pd_0 rfl) rfl (by show 2 * 0 + _ ≤ _; exact Nat.le_of_eq rfl) (hb hby d5_1) (fun _ _ => ⟨rfl, e0, (by decide : 0 + 0 ≤ _), (by decide : 0 + 0 ≤ _)⟩)
  dsimp only [Pt.U, Pt.locs, Pt.cells, Pt.slots] at X101 l101 y101 z101 st101 hQ101
  subst l101 y101 z101
  unfold Q_rm6 at hQ101
  obtain ⟨rfl, N101q, e101⟩ := hQ101
  have N101 := Fr.app N0 N101q
  obtain ⟨T102, h102, X102, e102, W102, st102⟩ := putF X101 hx hZ hown (host := "") (Or.inl (hwk hw 40 rfl)) Via.refl e101 F1 E1 (Or.inr ⟨(hwk hw 41 rfl), rfl, hnm⟩) (hwk hw 28 rfl) (ty := .long) (by decide) rfl rfl (g := (mkF m 6 #[.val (.ref a1), .val (.long q1), .second] [(.long q1), (.ref a1)])) rfl rfl (hb hby d5_6)
  have F102 : Fld Z h102 a1 "java/lang/Long" "value" "J" (.long q1) := Fld.same W102 F1
  have N102 := Fr.snoc X102 N101 g1
  have K103 : Keep h0 h102 [a1] := Keep.wr (Keep.refl h0 [a1]) W102 (Or.inl (List.mem_of_getElem? (i := 0) rfl))
  have c104 : Exa Z h102 a1 "java/lang/Long" := (Exa.wr W102 E1)
  obtain ⟨fs, hr, hrun, hended, hW, hsame⟩ := X102.leave (v := none) (fun _ => rfl)
  refine ⟨_, _, pre0 _ ?_, hrun, hended, _, _, rfl, ?_, ⟨_, rfl⟩, hW, hsame.mono (by decide) (by decide)⟩
  · show Steps p.tables e below (s₁.setTop (mkF m 0 #[.val (.ref a1), .val (.long q1), .second] [])) _
    refine XS.aloadN X0.here hx rfl (hb hby d5_0) rfl rfl ?_
    show Steps p.tables e below (s₁.setTop (mkF m 1 #[.val (.ref a1), .val (.long q1), .second] [(.ref a1)])) _
    refine st101.trans ?_
    show Steps p.tables e below (T101.setTop (mkF m 4 #[.val (.ref a1), .val (.long q1), .second] [])) _
    refine XS.aloadN X101.here hx rfl (hb hby d5_4) rfl rfl ?_
    show Steps p.tables e below (T101.setTop (mkF m 5 #[.val (.ref a1), .val (.long q1), .second] [(.ref a1)])) _
    refine XS.lloadN X101.here hx rfl (hb hby d5_5) rfl ?_
    show Steps p.tables e below (T101.setTop (mkF m 6 #[.val (.ref a1), .val (.long q1), .second] [(.long q1), (.ref a1)])) _
    refine st102 _ ?_
    show Steps p.tables e below (T102.setTop (mkF m 9 #[.val (.ref a1), .val (.long q1), .second] [])) _
    exact X102.returnOut hx Bd.returns (hb hby d5_9) hr
  · show Q_rm5 Z a1 q1 h0 n0 _ T102.heap _
    rw [e102]
    unfold Q_rm5
    exact ⟨rfl, N102, K103, c104⟩
theorem ef_rm4 (m : MethodId) (x0 : Int64) : entryFrame m #[(.long x0)] 3 = mkF m 0 #[.val (.long x0), .second, .unset] [] := by first | (simp [entryFrame, mkF, argsToLocals, Value.category]; done) | rfl
def Q_rm4 (Z : State) (q1 : Int64) (wc : Addr) (cw : Cell) (h0 : Heap) (n0 : Nat) (v : Option Value) (h : Heap) (L : List Loc) : Prop := ∃ b : Addr, (v = some (.ref b)) ∧ (Fr n0 L) ∧ (Keep h0 h []) ∧ (Exa Z h b "java/lang/Long")
theorem d4_0 : decode jdk_35_method_24_code 0 = .ok (.sipush 128, 3) := by decide +kernel
theorem d4_3 : decode jdk_35_method_24_code 3 = .ok (.istore_n 2, 1) := by decide +kernel
theorem d4_4 : decode jdk_35_method_24_code 4 = .ok (.lload_n 0, 1) := by decide +kernel
theorem d4_5 : decode jdk_35_method_24_code 5 = .ok (.ldc2_w 230, 3) := by decide +kernel
theorem d4_8 : decode jdk_35_method_24_code 8 = .ok (.lcmp, 1) := by decide +kernel
theorem d4_9 : decode jdk_35_method_24_code 9 = .ok (.ifCond .lt 22, 3) := by decide +kernel
theorem d4_31 : decode jdk_35_method_24_code 31 = .ok (.new 1, 3) := by decide +kernel
theorem d4_34 : decode jdk_35_method_24_code 34 = .ok (.dup, 1) := by decide +kernel
theorem d4_35 : decode jdk_35_method_24_code 35 = .ok (.lload_n 0, 1) := by decide +kernel
theorem d4_36 : decode jdk_35_method_24_code 36 = .ok (.invokespecial 240, 3) := by decide +kernel
theorem pd_1 : parseMethodDescriptor "(J)V" = some ⟨[.long], none⟩ := by decide +kernel
theorem d4_39 : decode jdk_35_method_24_code 39 = .ok (.areturn, 1) := by decide +kernel
theorem d4_12 : decode jdk_35_method_24_code 12 = .ok (.lload_n 0, 1) := by decide +kernel
theorem d4_13 : decode jdk_35_method_24_code 13 = .ok (.ldc2_w 232, 3) := by decide +kernel
theorem d4_16 : decode jdk_35_method_24_code 16 = .ok (.lcmp, 1) := by decide +kernel
theorem d4_17 : decode jdk_35_method_24_code 17 = .ok (.ifCond .gt 14, 3) := by decide +kernel
theorem d4_20 : decode jdk_35_method_24_code 20 = .ok (.getstatic 234, 3) := by decide +kernel
theorem d4_23 : decode jdk_35_method_24_code 23 = .ok (.lload_n 0, 1) := by decide +kernel
theorem d4_24 : decode jdk_35_method_24_code 24 = .ok (.l2i, 1) := by decide +kernel
theorem d4_25 : decode jdk_35_method_24_code 25 = .ok (.sipush 128, 3) := by decide +kernel
theorem d4_28 : decode jdk_35_method_24_code 28 = .ok (.iadd, 1) := by decide +kernel
theorem d4_29 : decode jdk_35_method_24_code 29 = .ok (.aaload, 1) := by decide +kernel
theorem d4_30 : decode jdk_35_method_24_code 30 = .ok (.areturn, 1) := by decide +kernel
set_option maxRecDepth 65536 in
set_option maxHeartbeats 40000000 in
theorem rm4 (l : Launch) (Z : State) (a0 : Array Value) (hw : ∀ d ∈ tables_1, d.before a0 Z = true) (ws : List Jvm.Cond) (q1 : Int64) (wc : Addr) (cw : Cell) (h0 : Heap) (n0 : Nat) (O0 : Old Z n0 h0) (SC : Sta Z Z.heap "java/lang/Long$LongCache" "cache" "[Ljava/lang/Long;" (.ref wc)) (BX : Bxs Z wc cw "java/lang/Long" "J" (256 : Int32) (fun j => .long (j - 128).toInt64)) :
    MetFree l (⟨"java/lang/Long", "valueOf", "(J)Ljava/lang/Long;"⟩ : MethodName) (head1 (Jvm.Cond.code (⟨"java/lang/Long", "valueOf", "(J)Ljava/lang/Long;"⟩ : MethodName) jdk_35_method_24_code 3 (some (.object "java/lang/Long")) :: ws) ({ frames := 3, cells := 1, slots := 1, locals := 39 } : Room)) (fun a U => a = #[(.long q1)] ∧ Z.Warmed39 U.vm ∧ U.heap = h0) (fun _ _ _ _ _ => True) (fun _ U o U' => ∃ v L, o = .returned v ∧ Q_rm4 Z q1 wc cw h0 n0 v U'.heap L ∧ FrameEnd U o U' L ({ frames := 3, cells := 1, slots := 1, locals := 39 } : Room).cells ({ frames := 3, cells := 1, slots := 1, locals := 39 } : Room).slots) := by
  refine MetFree.of_bodySF (plainFor_of_name pn_2) hisR ?_
  intro p e s m args below meth c s₁ Bd hml0 hP hK
  obtain ⟨rfl, hZ, hh⟩ := hP
  have hx := Bd.exec
  have hby := Bd.bytes
  have hml : c.maxLocals = 3 := hml0
  have hown : s.vm.findClass "java/lang/Long" = some m.cls := findClass_of_methodNamed Bd.named
  have hnm := (name_of_methodNamed Bd.named Bd.method).1
  have X0 : Stand p l e ({ frames := 3, cells := 1, slots := 1, locals := 39 } : Room) s m #[(.long q1)] below meth c s₁ [] 0 0 := Stand.of_body Bd
  have e0 : s₁.heap = h0 := by rw [← hh, Bd.state]; rfl
  have N0 := Fr.nil n0
  have Z0 : n0 ≤ h0.size := old_le O0
  have pre0 : ∀ t, Steps p.tables e below (s₁.setTop (mkF m 0 #[.val (.long q1), .second, .unset] [])) t → Steps p.tables e below (s₁.setTop (entryFrame m #[(.long q1)] 3)) t := fun t k => castTop (ef_rm4 m q1) k
  have S102 : ∀ t, Steps p.tables e below (s₁.setTop (mkF m 9 #[.val (.long q1), .second, .val (.int (128 : Int32))] [(.int (lcmpW q1 (-128 : Int64)))])) t → Steps p.tables e below (s₁.setTop (entryFrame m #[(.long q1)] 3)) t := fun t k => by
    refine pre0 t ?_
    show Steps p.tables e below (s₁.setTop (mkF m 0 #[.val (.long q1), .second, .unset] [])) _
    refine XS.sipush X0.here hx rfl (hb hby d4_0) ?_
    show Steps p.tables e below (s₁.setTop (mkF m 3 #[.val (.long q1), .second, .unset] [(.int (128 : Int32))])) _
    refine XS.istoreN X0.here hx rfl (hb hby d4_3) rfl (l' := #[.val (.long q1), .second, .val (.int (128 : Int32))]) rfl ?_
    show Steps p.tables e below (s₁.setTop (mkF m 4 #[.val (.long q1), .second, .val (.int (128 : Int32))] [])) _
    refine XS.lloadN X0.here hx rfl (hb hby d4_4) rfl ?_
    show Steps p.tables e below (s₁.setTop (mkF m 5 #[.val (.long q1), .second, .val (.int (128 : Int32))] [(.long q1)])) _
    refine X0.ldc2Long hx hown (mvT hZ (hwk hw 26 rfl)) (g := (mkF m 5 #[.val (.long q1), .second, .val (.int (128 : Int32))] [(.long q1)])) rfl (hb hby d4_5) _ ?_
    show Steps p.tables e below (s₁.setTop (mkF m 8 #[.val (.long q1), .second, .val (.int (128 : Int32))] [(.long (-128 : Int64)), (.long q1)])) _
    refine XS.lcmp X0.here hx rfl (hb hby d4_8) rfl ?_
    exact k
  by_cases hc101 : q1 < (-128 : Int64)
  · obtain ⟨T103, h103, X103, e103, E103, A103, D103, -, st103⟩ := newO X0 hx hZ hown (hwk hw 27 rfl) (hwk hw 28 rfl) (hwk hw 24 rfl) e0 (g := (mkF m 31 #[.val (.long q1), .second, .val (.int (128 : Int32))] [])) rfl (hb hby d4_31) (by decide) (by decide)
    obtain ⟨b103, g103⟩ : ∃ z, z = h0.size := ⟨_, rfl⟩
    rw [← g103] at A103 D103 st103
    have g_b103 : n0 ≤ b103 := Nat.le_trans (old_le O0) (Nat.le_of_eq g103.symm)
    have O104 : Old Z n0 h103 := Old.ext O0 E103
    obtain ⟨_, _, ⟨T105, L105, k105, n105⟩, -, X105, ⟨Lc105, hQ105, l105, y105, z105⟩, st105⟩ := X103.specialBack hx (y := (⟨"java/lang/Long", "<init>", "(J)V"⟩ : MethodName)) rfl hown (mvT hZ (hwk hw 29 rfl)) (mvT hZ (hwk hw 30 rfl)) (mvT hZ (hwk hw 32 rfl)) (by decide) (backOf (W := 1) (rm5 l Z a0 hw [] b103 q1 h103 n0 O104 A103 g_b103 (show Fld Z h103 b103 "java/lang/Long" "value" "J" (.long (0 : Int64)) from D103 (Or.inr (hwk hw 41 rfl)) (ty := .long) (by decide))) hZ (hwk hw 32 rfl) (hwk hw 24 rfl) (by decide) (by decide)) (g := (mkF m 36 #[.val (.long q1), .second, .val (.int (128 : Int32))] [(.long q1), (.ref b103), (.ref b103)])) rfl (by rw [hml]; rfl) (Steps.refl _) (a := b103) (argsL := [(.long q1)]) (rest := [(.ref b103)]) (lenOf pd_1 rfl) rfl (by show 2 * 0 + _ ≤ _; exact Nat.le_of_eq rfl) (hb hby d4_36) (fun _ _ => ⟨rfl, e103, (by decide : 1 + 0 ≤ _), (by decide : 1 + 0 ≤ _)⟩)
    dsimp only [Pt.U, Pt.locs, Pt.cells, Pt.slots] at X105 l105 y105 z105 st105 hQ105
    subst l105 y105 z105
    unfold Q_rm5 at hQ105
    obtain ⟨rfl, N105q, K105, f105_0⟩ := hQ105
    have N105 := Fr.app N0 N105q
    have K106 : Keep h0 h103 [] := Keep.ext (Keep.refl h0 []) E103
    have K107 : Keep h0 T105.heap [] := Keep.trans K106 K105 (allS (Or.inr (Nat.le_trans (Nat.le_refl _) (Nat.le_of_eq g103.symm))) all0)
    obtain ⟨fs, hr, hrun, hended, hW, hsame⟩ := X105.leave (v := some (.ref b103)) (fun h => by rw [Bd.returns] at h; cases h)
    refine ⟨_, _, S102 _ ?_, hrun, hended, _, _, rfl, ?_, ⟨_, rfl⟩, hW, hsame.mono (by decide) (by decide)⟩
    · show Steps p.tables e below (s₁.setTop (mkF m 9 #[.val (.long q1), .second, .val (.int (128 : Int32))] [(.int (lcmpW q1 (-128 : Int64)))])) _
      refine XS.ifYes X0.here hx rfl (pc0 := 9) (pc' := 31) rfl (hb hby d4_9) rfl ((if0 _ _).trans (tlt ((lw_lt q1 (-128 : Int64)).mpr hc101)).1) (by decide) (by decide) ?_
      show Steps p.tables e below (s₁.setTop (mkF m 31 #[.val (.long q1), .second, .val (.int (128 : Int32))] [])) _
      refine st103 _ ?_
      show Steps p.tables e below (T103.setTop (mkF m 34 #[.val (.long q1), .second, .val (.int (128 : Int32))] [(.ref b103)])) _
      refine XS.dup X103.here hx rfl (hb hby d4_34) rfl rfl ?_
      show Steps p.tables e below (T103.setTop (mkF m 35 #[.val (.long q1), .second, .val (.int (128 : Int32))] [(.ref b103), (.ref b103)])) _
      refine XS.lloadN X103.here hx rfl (hb hby d4_35) rfl ?_
      show Steps p.tables e below (T103.setTop (mkF m 36 #[.val (.long q1), .second, .val (.int (128 : Int32))] [(.long q1), (.ref b103), (.ref b103)])) _
      refine st105.trans ?_
      show Steps p.tables e below (T105.setTop (mkF m 39 #[.val (.long q1), .second, .val (.int (128 : Int32))] [(.ref b103)])) _
      exact Jvm.RoadKit.retOut X105 hx Bd.returns rfl (Or.inr (Or.inr (Or.inr (Or.inr ⟨rfl, rfl, rfl⟩)))) (hb hby d4_39) hr
    · show Q_rm4 Z q1 wc cw h0 n0 _ T105.heap _
      unfold Q_rm4
      exact ⟨b103, rfl, N105, K107, f105_0⟩
  · have S109 : ∀ t, Steps p.tables e below (s₁.setTop (mkF m 17 #[.val (.long q1), .second, .val (.int (128 : Int32))] [(.int (lcmpW q1 (127 : Int64)))])) t → Steps p.tables e below (s₁.setTop (entryFrame m #[(.long q1)] 3)) t := fun t k => by
      refine S102 t ?_
      show Steps p.tables e below (s₁.setTop (mkF m 9 #[.val (.long q1), .second, .val (.int (128 : Int32))] [(.int (lcmpW q1 (-128 : Int64)))])) _
      refine XS.ifNo X0.here hx rfl (hb hby d4_9) rfl ((if0 _ _).trans (flt (fun q => hc101 ((lw_lt q1 (-128 : Int64)).mp q))).1) ?_
      show Steps p.tables e below (s₁.setTop (mkF m 12 #[.val (.long q1), .second, .val (.int (128 : Int32))] [])) _
      refine XS.lloadN X0.here hx rfl (hb hby d4_12) rfl ?_
      show Steps p.tables e below (s₁.setTop (mkF m 13 #[.val (.long q1), .second, .val (.int (128 : Int32))] [(.long q1)])) _
      refine X0.ldc2Long hx hown (mvT hZ (hwk hw 45 rfl)) (g := (mkF m 13 #[.val (.long q1), .second, .val (.int (128 : Int32))] [(.long q1)])) rfl (hb hby d4_13) _ ?_
      show Steps p.tables e below (s₁.setTop (mkF m 16 #[.val (.long q1), .second, .val (.int (128 : Int32))] [(.long (127 : Int64)), (.long q1)])) _
      refine XS.lcmp X0.here hx rfl (hb hby d4_16) rfl ?_
      exact k
    by_cases hc108 : (127 : Int64) < q1
    · obtain ⟨T110, h110, X110, e110, E110, A110, D110, -, st110⟩ := newO X0 hx hZ hown (hwk hw 27 rfl) (hwk hw 28 rfl) (hwk hw 24 rfl) e0 (g := (mkF m 31 #[.val (.long q1), .second, .val (.int (128 : Int32))] [])) rfl (hb hby d4_31) (by decide) (by decide)
      obtain ⟨b110, g110⟩ : ∃ z, z = h0.size := ⟨_, rfl⟩
      rw [← g110] at A110 D110 st110
      have g_b110 : n0 ≤ b110 := Nat.le_trans (old_le O0) (Nat.le_of_eq g110.symm)
      have O111 : Old Z n0 h110 := Old.ext O0 E110
      obtain ⟨_, _, ⟨T112, L112, k112, n112⟩, -, X112, ⟨Lc112, hQ112, l112, y112, z112⟩, st112⟩ := X110.specialBack hx (y := (⟨"java/lang/Long", "<init>", "(J)V"⟩ : MethodName)) rfl hown (mvT hZ (hwk hw 29 rfl)) (mvT hZ (hwk hw 30 rfl)) (mvT hZ (hwk hw 32 rfl)) (by decide) (backOf (W := 1) (rm5 l Z a0 hw [] b110 q1 h110 n0 O111 A110 g_b110 (show Fld Z h110 b110 "java/lang/Long" "value" "J" (.long (0 : Int64)) from D110 (Or.inr (hwk hw 41 rfl)) (ty := .long) (by decide))) hZ (hwk hw 32 rfl) (hwk hw 24 rfl) (by decide) (by decide)) (g := (mkF m 36 #[.val (.long q1), .second, .val (.int (128 : Int32))] [(.long q1), (.ref b110), (.ref b110)])) rfl (by rw [hml]; rfl) (Steps.refl _) (a := b110) (argsL := [(.long q1)]) (rest := [(.ref b110)]) (lenOf pd_1 rfl) rfl (by show 2 * 0 + _ ≤ _; exact Nat.le_of_eq rfl) (hb hby d4_36) (fun _ _ => ⟨rfl, e110, (by decide : 1 + 0 ≤ _), (by decide : 1 + 0 ≤ _)⟩)
      dsimp only [Pt.U, Pt.locs, Pt.cells, Pt.slots] at X112 l112 y112 z112 st112 hQ112
      subst l112 y112 z112
      unfold Q_rm5 at hQ112
      obtain ⟨rfl, N112q, K112, f112_0⟩ := hQ112
      have N112 := Fr.app N0 N112q
      have K113 : Keep h0 h110 [] := Keep.ext (Keep.refl h0 []) E110
      have K114 : Keep h0 T112.heap [] := Keep.trans K113 K112 (allS (Or.inr (Nat.le_trans (Nat.le_refl _) (Nat.le_of_eq g110.symm))) all0)
      obtain ⟨fs, hr, hrun, hended, hW, hsame⟩ := X112.leave (v := some (.ref b110)) (fun h => by rw [Bd.returns] at h; cases h)
      refine ⟨_, _, S109 _ ?_, hrun, hended, _, _, rfl, ?_, ⟨_, rfl⟩, hW, hsame.mono (by decide) (by decide)⟩
      · show Steps p.tables e below (s₁.setTop (mkF m 17 #[.val (.long q1), .second, .val (.int (128 : Int32))] [(.int (lcmpW q1 (127 : Int64)))])) _
        refine XS.ifYes X0.here hx rfl (pc0 := 17) (pc' := 31) rfl (hb hby d4_17) rfl ((if0 _ _).trans (tlt ((lw_gt q1 (127 : Int64)).mpr hc108)).2.2.1) (by decide) (by decide) ?_
        show Steps p.tables e below (s₁.setTop (mkF m 31 #[.val (.long q1), .second, .val (.int (128 : Int32))] [])) _
        refine st110 _ ?_
        show Steps p.tables e below (T110.setTop (mkF m 34 #[.val (.long q1), .second, .val (.int (128 : Int32))] [(.ref b110)])) _
        refine XS.dup X110.here hx rfl (hb hby d4_34) rfl rfl ?_
        show Steps p.tables e below (T110.setTop (mkF m 35 #[.val (.long q1), .second, .val (.int (128 : Int32))] [(.ref b110), (.ref b110)])) _
        refine XS.lloadN X110.here hx rfl (hb hby d4_35) rfl ?_
        show Steps p.tables e below (T110.setTop (mkF m 36 #[.val (.long q1), .second, .val (.int (128 : Int32))] [(.long q1), (.ref b110), (.ref b110)])) _
        refine st112.trans ?_
        show Steps p.tables e below (T112.setTop (mkF m 39 #[.val (.long q1), .second, .val (.int (128 : Int32))] [(.ref b110)])) _
        exact Jvm.RoadKit.retOut X112 hx Bd.returns rfl (Or.inr (Or.inr (Or.inr (Or.inr ⟨rfl, rfl, rfl⟩)))) (hb hby d4_39) hr
      · show Q_rm4 Z q1 wc cw h0 n0 _ T112.heap _
        unfold Q_rm4
        exact ⟨b110, rfl, N112, K114, f112_0⟩
    · have c115 : Sta Z h0 "java/lang/Long$LongCache" "cache" "[Ljava/lang/Long;" (.ref wc) := Sta.ext (O0).2 SC
      obtain ⟨T116, X116, e116, st116⟩ := getS2 X0 hx hZ hown (host := "") (Or.inl (hwk hw 46 rfl)) Via.refl e0 c115 (g := (mkF m 20 #[.val (.long q1), .second, .val (.int (128 : Int32))] [])) rfl (hb hby d4_20)
      obtain ⟨Arq117, Szq117, Nnq117⟩ := BX.ext (O0).2
      have hinq117 : ¬ (((q1.toInt32) + (128 : Int32)) < 0 ∨ cw.slots.size ≤ (((q1.toInt32) + (128 : Int32))).toNatClampNeg) := inb_of Szq117 (own_cacheIdx q1 hc101 hc108)
      obtain ⟨bq, hatq117, Ebq117, -⟩ := BX.2.2.2 ((q1.toInt32) + (128 : Int32)) hinq117
      have c118 : Exa Z h0 bq "java/lang/Long" := Exa.ext (O0).2 Ebq117
      obtain ⟨fs, hr, hrun, hended, hW, hsame⟩ := X116.leave (v := some (.ref bq)) (fun h => by rw [Bd.returns] at h; cases h)
      refine ⟨_, _, S109 _ ?_, hrun, hended, _, _, rfl, ?_, ⟨_, rfl⟩, hW, hsame.mono (by decide) (by decide)⟩
      · show Steps p.tables e below (s₁.setTop (mkF m 17 #[.val (.long q1), .second, .val (.int (128 : Int32))] [(.int (lcmpW q1 (127 : Int64)))])) _
        refine XS.ifNo X0.here hx rfl (hb hby d4_17) rfl ((if0 _ _).trans (flt (fun q => hc108 ((lw_gt q1 (127 : Int64)).mp q))).2.2.1) ?_
        show Steps p.tables e below (s₁.setTop (mkF m 20 #[.val (.long q1), .second, .val (.int (128 : Int32))] [])) _
        refine st116 _ ?_
        show Steps p.tables e below (T116.setTop (mkF m 23 #[.val (.long q1), .second, .val (.int (128 : Int32))] [(.ref wc)])) _
        refine XS.lloadN X116.here hx rfl (hb hby d4_23) rfl ?_
        show Steps p.tables e below (T116.setTop (mkF m 24 #[.val (.long q1), .second, .val (.int (128 : Int32))] [(.long q1), (.ref wc)])) _
        refine XS.l2i X116.here hx rfl (hb hby d4_24) rfl ?_
        show Steps p.tables e below (T116.setTop (mkF m 25 #[.val (.long q1), .second, .val (.int (128 : Int32))] [(.int (q1.toInt32)), (.ref wc)])) _
        refine XS.sipush X116.here hx rfl (hb hby d4_25) ?_
        show Steps p.tables e below (T116.setTop (mkF m 28 #[.val (.long q1), .second, .val (.int (128 : Int32))] [(.int (128 : Int32)), (.int (q1.toInt32)), (.ref wc)])) _
        refine XS.iadd X116.here hx rfl (hb hby d4_28) rfl ?_
        show Steps p.tables e below (T116.setTop (mkF m 29 #[.val (.long q1), .second, .val (.int (128 : Int32))] [(.int ((q1.toInt32) + (128 : Int32))), (.ref wc)])) _
        refine X116.aaload hx (j := ((q1.toInt32) + (128 : Int32))) (v := (.ref bq)) (by rw [e116]; exact Arq117.1) (State.isArrayOf_alike hZ.alike Arq117.2.1) rfl Arq117.2.2 hinq117 hatq117 (g := (mkF m 29 #[.val (.long q1), .second, .val (.int (128 : Int32))] [(.int ((q1.toInt32) + (128 : Int32))), (.ref wc)])) rfl rfl (hb hby d4_29) _ ?_
        show Steps p.tables e below (T116.setTop (mkF m 30 #[.val (.long q1), .second, .val (.int (128 : Int32))] [(.ref bq)])) _
        exact Jvm.RoadKit.retOut X116 hx Bd.returns rfl (Or.inr (Or.inr (Or.inr (Or.inr ⟨rfl, rfl, rfl⟩)))) (hb hby d4_30) hr
      · show Q_rm4 Z q1 wc cw h0 n0 _ T116.heap _
        rw [e116]
        unfold Q_rm4
        exact ⟨bq, rfl, N0, (Keep.refl h0 []), c118⟩
theorem own_same1 (r s e x y z : Int64) : V3 r s e x y z = (if x = r then (if y = s then (if z = e then (1 : Int32) else (0 : Int32)) else (0 : Int32)) else (0 : Int32)) := by
  simp only [V3, @eq_comm _ x r, @eq_comm _ y s, @eq_comm _ z e]
theorem own_same2 (r s e x y z : Int64) : V3 x y z r s e = (if x = r then (if y = s then (if z = e then (1 : Int32) else (0 : Int32)) else (0 : Int32)) else (0 : Int32)) := rfl

theorem ef_rm0 (m : MethodId) (x0 : Int64) (x1 : Int64) (x2 : Int64) (x3 : Int64) (x4 : Int64) (x5 : Int32) : entryFrame m #[(.long x0), (.long x1), (.long x2), (.long x3), (.long x4), (.int x5)] maxLocals = mkF m 0 #[.val (.long x0), .second, .val (.long x1), .second, .val (.long x2), .second, .val (.long x3), .second, .val (.long x4), .second, .val (.int x5), .unset, .unset, .unset, .unset, .unset, .unset, .unset, .unset, .unset, .unset] [] := by first | (simp [entryFrame, mkF, argsToLocals, Value.category, maxLocals]; done) | rfl
def Q_rm0 (Z : State) (p0 : Int64) (p1 : Int64) (p2 : Int64) (p3 : Int64) (p4 : Int64) (p5 : Int32) (wc : Addr) (cw : Cell) (h0 : Heap) (n0 : Nat) (v : Option Value) (h : Heap) (L : List Loc) : Prop := (v = some (.int (1 : Int32))) ∧ (Fr n0 L) ∧ (Keep h0 h [])
theorem pn_3 : plainName "com/example/bill_run/billrun/InputCountsEqualsPinLaw" = true := by first | (simp [plainName, overriddenIn]; done) | decide +kernel
theorem pd_2 : parseMethodDescriptor "(JJJ)V" = some ⟨[.long, .long, .long], none⟩ := by decide +kernel
theorem pd_3 : parseMethodDescriptor "(Ljava/lang/Object;)Z" = some ⟨[(.object "java/lang/Object")], some .boolean⟩ := by decide +kernel
theorem pd_4 : parseMethodDescriptor "(J)Ljava/lang/Long;" = some ⟨[.long], some (.object "java/lang/Long")⟩ := by decide +kernel
set_option maxRecDepth 65536 in
set_option maxHeartbeats 40000000 in
theorem rm0 (l : Launch) (Z : State) (a0 : Array Value) (hw : ∀ d ∈ tables_1, d.before a0 Z = true) (ws : List Jvm.Cond) (p0 : Int64) (p1 : Int64) (p2 : Int64) (p3 : Int64) (p4 : Int64) (p5 : Int32) (wc : Addr) (cw : Cell) (h0 : Heap) (n0 : Nat) (O0 : Old Z n0 h0) (SC : Sta Z Z.heap "java/lang/Long$LongCache" "cache" "[Ljava/lang/Long;" (.ref wc)) (BX : Bxs Z wc cw "java/lang/Long" "J" (256 : Int32) (fun j => .long (j - 128).toInt64)) :
    MetFree l x (head1 (Jvm.Cond.code x code maxLocals ret :: ws) room_1) (fun a U => a = #[(.long p0), (.long p1), (.long p2), (.long p3), (.long p4), (.int p5)] ∧ Z.Warmed39 U.vm ∧ U.heap = h0) (fun _ _ _ _ _ => True) (fun _ U o U' => ∃ v L, o = .returned v ∧ Q_rm0 Z p0 p1 p2 p3 p4 p5 wc cw h0 n0 v U'.heap L ∧ FrameEnd U o U' L room_1.cells room_1.slots) := by
  refine MetFree.of_bodySF (plainFor_of_name pn_3) hisR ?_
  intro p e s m args below meth c s₁ Bd hml0 hP hK
  obtain ⟨rfl, hZ, hh⟩ := hP
  have hx := Bd.exec
  have hby := Bd.bytes
  have hml : c.maxLocals = 21 := hml0
  have hown : s.vm.findClass "com/example/bill_run/billrun/InputCountsEqualsPinLaw" = some m.cls := findClass_of_methodNamed Bd.named
  have hnm := (name_of_methodNamed Bd.named Bd.method).1
  have X0 : Stand p l e room_1 s m #[(.long p0), (.long p1), (.long p2), (.long p3), (.long p4), (.int p5)] below meth c s₁ [] 0 0 := Stand.of_body Bd
  have e0 : s₁.heap = h0 := by rw [← hh, Bd.state]; rfl
  have N0 := Fr.nil n0
  have Z0 : n0 ≤ h0.size := old_le O0
  have pre0 : ∀ t, Steps p.tables e below (s₁.setTop (mkF m 0 #[.val (.long p0), .second, .val (.long p1), .second, .val (.long p2), .second, .val (.long p3), .second, .val (.long p4), .second, .val (.int p5), .unset, .unset, .unset, .unset, .unset, .unset, .unset, .unset, .unset, .unset] [])) t → Steps p.tables e below (s₁.setTop (entryFrame m #[(.long p0), (.long p1), (.long p2), (.long p3), (.long p4), (.int p5)] maxLocals)) t := fun t k => castTop (ef_rm0 m p0 p1 p2 p3 p4 p5) k
  obtain ⟨T101, h101, X101, e101, E101, A101, D101, -, st101⟩ := newO X0 hx hZ hown (hwk hw 0 rfl) (hwk hw 1 rfl) (hwk hw 2 rfl) e0 (g := (mkF m 0 #[.val (.long p0), .second, .val (.long p1), .second, .val (.long p2), .second, .val (.long p3), .second, .val (.long p4), .second, .val (.int p5), .unset, .unset, .unset, .unset, .unset, .unset, .unset, .unset, .unset, .unset] [])) rfl (hb hby at_0) (by decide) (by decide)
  obtain ⟨b101, g101⟩ : ∃ z, z = h0.size := ⟨_, rfl⟩
  rw [← g101] at A101 D101 st101
  have g_b101 : n0 ≤ b101 := Nat.le_trans (old_le O0) (Nat.le_of_eq g101.symm)
  have O102 : Old Z n0 h101 := Old.ext O0 E101
  obtain ⟨_, _, ⟨T103, L103, k103, n103⟩, -, X103, ⟨Lc103, hQ103, l103, y103, z103⟩, st103⟩ := X101.specialBack hx (y := (⟨"com/example/bill_run/billrun/InputCounts", "<init>", "(JJJ)V"⟩ : MethodName)) rfl hown (mvT hZ (hwk hw 3 rfl)) (mvT hZ (hwk hw 4 rfl)) (mvT hZ (hwk hw 5 rfl)) (by decide) (backOf (W := 1) (rm1 l Z a0 hw [] b101 p0 p1 p2 h101 n0 O102 A101 g_b101 (show Fld Z h101 b101 "com/example/bill_run/billrun/InputCounts" "records" "J" (.long (0 : Int64)) from D101 (Or.inr (hwk hw 10 rfl)) (ty := .long) (by decide)) (show Fld Z h101 b101 "com/example/bill_run/billrun/InputCounts" "started" "J" (.long (0 : Int64)) from D101 (Or.inr (hwk hw 12 rfl)) (ty := .long) (by decide)) (show Fld Z h101 b101 "com/example/bill_run/billrun/InputCounts" "ended" "J" (.long (0 : Int64)) from D101 (Or.inr (hwk hw 14 rfl)) (ty := .long) (by decide))) hZ (hwk hw 5 rfl) (hwk hw 2 rfl) (by decide) (by decide)) (g := (mkF m 8 #[.val (.long p0), .second, .val (.long p1), .second, .val (.long p2), .second, .val (.long p3), .second, .val (.long p4), .second, .val (.int p5), .unset, .unset, .unset, .unset, .unset, .unset, .unset, .unset, .unset, .unset] [(.long p2), (.long p1), (.long p0), (.ref b101), (.ref b101)])) rfl (by rw [hml]; rfl) (Steps.refl _) (a := b101) (argsL := [(.long p0), (.long p1), (.long p2)]) (rest := [(.ref b101)]) (lenOf pd_2 rfl) rfl (by show 2 * 0 + _ ≤ _; exact Nat.le_of_eq rfl) (hb hby at_8) (fun _ _ => ⟨rfl, e101, (by decide : 1 + 0 ≤ _), (by decide : 3 + 0 ≤ _)⟩)
  dsimp only [Pt.U, Pt.locs, Pt.cells, Pt.slots] at X103 l103 y103 z103 st103 hQ103
  subst l103 y103 z103
  unfold Q_rm1 at hQ103
  obtain ⟨rfl, N103q, K103, f103_0, f103_1, f103_2, f103_3⟩ := hQ103
  have N103 := Fr.app N0 N103q
  have S104 : ∀ t, Steps p.tables e below (T103.setTop (mkF m 17 #[.val (.long p0), .second, .val (.long p1), .second, .val (.long p2), .second, .val (.long p3), .second, .val (.long p4), .second, .val (.int p5), .val (.ref b101), .unset, .unset, .unset, .unset, .unset, .unset, .unset, .unset, .unset] [(.int (p5 &&& (1 : Int32)))])) t → Steps p.tables e below (s₁.setTop (entryFrame m #[(.long p0), (.long p1), (.long p2), (.long p3), (.long p4), (.int p5)] maxLocals)) t := fun t k => by
    refine pre0 t ?_
    show Steps p.tables e below (s₁.setTop (mkF m 0 #[.val (.long p0), .second, .val (.long p1), .second, .val (.long p2), .second, .val (.long p3), .second, .val (.long p4), .second, .val (.int p5), .unset, .unset, .unset, .unset, .unset, .unset, .unset, .unset, .unset, .unset] [])) _
    refine st101 _ ?_
    show Steps p.tables e below (T101.setTop (mkF m 3 #[.val (.long p0), .second, .val (.long p1), .second, .val (.long p2), .second, .val (.long p3), .second, .val (.long p4), .second, .val (.int p5), .unset, .unset, .unset, .unset, .unset, .unset, .unset, .unset, .unset, .unset] [(.ref b101)])) _
    refine XS.dup X101.here hx rfl (hb hby at_3) rfl rfl ?_
    show Steps p.tables e below (T101.setTop (mkF m 4 #[.val (.long p0), .second, .val (.long p1), .second, .val (.long p2), .second, .val (.long p3), .second, .val (.long p4), .second, .val (.int p5), .unset, .unset, .unset, .unset, .unset, .unset, .unset, .unset, .unset, .unset] [(.ref b101), (.ref b101)])) _
    refine XS.lloadN X101.here hx rfl (hb hby at_4) rfl ?_
    show Steps p.tables e below (T101.setTop (mkF m 5 #[.val (.long p0), .second, .val (.long p1), .second, .val (.long p2), .second, .val (.long p3), .second, .val (.long p4), .second, .val (.int p5), .unset, .unset, .unset, .unset, .unset, .unset, .unset, .unset, .unset, .unset] [(.long p0), (.ref b101), (.ref b101)])) _
    refine XS.lloadN X101.here hx rfl (hb hby at_5) rfl ?_
    show Steps p.tables e below (T101.setTop (mkF m 6 #[.val (.long p0), .second, .val (.long p1), .second, .val (.long p2), .second, .val (.long p3), .second, .val (.long p4), .second, .val (.int p5), .unset, .unset, .unset, .unset, .unset, .unset, .unset, .unset, .unset, .unset] [(.long p1), (.long p0), (.ref b101), (.ref b101)])) _
    refine XS.lload X101.here hx rfl (hb hby at_6) rfl ?_
    show Steps p.tables e below (T101.setTop (mkF m 8 #[.val (.long p0), .second, .val (.long p1), .second, .val (.long p2), .second, .val (.long p3), .second, .val (.long p4), .second, .val (.int p5), .unset, .unset, .unset, .unset, .unset, .unset, .unset, .unset, .unset, .unset] [(.long p2), (.long p1), (.long p0), (.ref b101), (.ref b101)])) _
    refine st103.trans ?_
    show Steps p.tables e below (T103.setTop (mkF m 11 #[.val (.long p0), .second, .val (.long p1), .second, .val (.long p2), .second, .val (.long p3), .second, .val (.long p4), .second, .val (.int p5), .unset, .unset, .unset, .unset, .unset, .unset, .unset, .unset, .unset, .unset] [(.ref b101)])) _
    refine XS.astore X103.here hx rfl (hb hby at_11) rfl rfl (l' := #[.val (.long p0), .second, .val (.long p1), .second, .val (.long p2), .second, .val (.long p3), .second, .val (.long p4), .second, .val (.int p5), .val (.ref b101), .unset, .unset, .unset, .unset, .unset, .unset, .unset, .unset, .unset]) rfl ?_
    show Steps p.tables e below (T103.setTop (mkF m 13 #[.val (.long p0), .second, .val (.long p1), .second, .val (.long p2), .second, .val (.long p3), .second, .val (.long p4), .second, .val (.int p5), .val (.ref b101), .unset, .unset, .unset, .unset, .unset, .unset, .unset, .unset, .unset] [])) _
    refine XS.iload X103.here hx rfl (hb hby at_13) rfl ?_
    show Steps p.tables e below (T103.setTop (mkF m 15 #[.val (.long p0), .second, .val (.long p1), .second, .val (.long p2), .second, .val (.long p3), .second, .val (.long p4), .second, .val (.int p5), .val (.ref b101), .unset, .unset, .unset, .unset, .unset, .unset, .unset, .unset, .unset] [(.int p5)])) _
    refine XS.iconst X103.here hx rfl (hb hby at_15) ?_
    show Steps p.tables e below (T103.setTop (mkF m 16 #[.val (.long p0), .second, .val (.long p1), .second, .val (.long p2), .second, .val (.long p3), .second, .val (.long p4), .second, .val (.int p5), .val (.ref b101), .unset, .unset, .unset, .unset, .unset, .unset, .unset, .unset, .unset] [(.int (1 : Int32)), (.int p5)])) _
    refine XS.iand X103.here hx rfl (hb hby at_16) rfl ?_
    exact k
  have S106 : ∀ t, Steps p.tables e below (T103.setTop (mkF m 26 #[.val (.long p0), .second, .val (.long p1), .second, .val (.long p2), .second, .val (.long p3), .second, .val (.long p4), .second, .val (.int p5), .val (.ref b101), .unset, .unset, .unset, .unset, .unset, .unset, .unset, .unset, .unset] [(.long (if (p5 &&& (1 : Int32)) = (0 : Int32) then p3 else p0))])) t → Steps p.tables e below (s₁.setTop (entryFrame m #[(.long p0), (.long p1), (.long p2), (.long p3), (.long p4), (.int p5)] maxLocals)) t := by
    by_cases hc105 : (p5 &&& (1 : Int32)) = (0 : Int32)
    · intro t k
      try simp only [if_pos hc105] at k
      refine S104 t ?_
      show Steps p.tables e below (T103.setTop (mkF m 17 #[.val (.long p0), .second, .val (.long p1), .second, .val (.long p2), .second, .val (.long p3), .second, .val (.long p4), .second, .val (.int p5), .val (.ref b101), .unset, .unset, .unset, .unset, .unset, .unset, .unset, .unset, .unset] [(.int (p5 &&& (1 : Int32)))])) _
      refine XS.ifYes X103.here hx rfl (pc0 := 17) (pc' := 24) rfl (hb hby at_17) rfl ((if0 _ _).trans (teq hc105).1) (by decide) (by decide) ?_
      show Steps p.tables e below (T103.setTop (mkF m 24 #[.val (.long p0), .second, .val (.long p1), .second, .val (.long p2), .second, .val (.long p3), .second, .val (.long p4), .second, .val (.int p5), .val (.ref b101), .unset, .unset, .unset, .unset, .unset, .unset, .unset, .unset, .unset] [])) _
      refine XS.lload X103.here hx rfl (hb hby at_24) rfl ?_
      exact k
    · intro t k
      try simp only [if_neg hc105] at k
      refine S104 t ?_
      show Steps p.tables e below (T103.setTop (mkF m 17 #[.val (.long p0), .second, .val (.long p1), .second, .val (.long p2), .second, .val (.long p3), .second, .val (.long p4), .second, .val (.int p5), .val (.ref b101), .unset, .unset, .unset, .unset, .unset, .unset, .unset, .unset, .unset] [(.int (p5 &&& (1 : Int32)))])) _
      refine XS.ifNo X103.here hx rfl (hb hby at_17) rfl ((if0 _ _).trans (feq hc105).1) ?_
      show Steps p.tables e below (T103.setTop (mkF m 20 #[.val (.long p0), .second, .val (.long p1), .second, .val (.long p2), .second, .val (.long p3), .second, .val (.long p4), .second, .val (.int p5), .val (.ref b101), .unset, .unset, .unset, .unset, .unset, .unset, .unset, .unset, .unset] [])) _
      refine XS.lloadN X103.here hx rfl (hb hby at_20) rfl ?_
      show Steps p.tables e below (T103.setTop (mkF m 21 #[.val (.long p0), .second, .val (.long p1), .second, .val (.long p2), .second, .val (.long p3), .second, .val (.long p4), .second, .val (.int p5), .val (.ref b101), .unset, .unset, .unset, .unset, .unset, .unset, .unset, .unset, .unset] [(.long p0)])) _
      refine XS.goto X103.here hx rfl (pc0 := 21) (pc' := 26) rfl (hb hby at_21) (by decide) (by decide) ?_
      exact k
  have S107 : ∀ t, Steps p.tables e below (T103.setTop (mkF m 32 #[.val (.long p0), .second, .val (.long p1), .second, .val (.long p2), .second, .val (.long p3), .second, .val (.long p4), .second, .val (.int p5), .val (.ref b101), .val (.long (if (p5 &&& (1 : Int32)) = (0 : Int32) then p3 else p0)), .second, .unset, .unset, .unset, .unset, .unset, .unset, .unset] [(.int (p5 &&& (2 : Int32)))])) t → Steps p.tables e below (s₁.setTop (entryFrame m #[(.long p0), (.long p1), (.long p2), (.long p3), (.long p4), (.int p5)] maxLocals)) t := fun t k => by
    refine S106 t ?_
    show Steps p.tables e below (T103.setTop (mkF m 26 #[.val (.long p0), .second, .val (.long p1), .second, .val (.long p2), .second, .val (.long p3), .second, .val (.long p4), .second, .val (.int p5), .val (.ref b101), .unset, .unset, .unset, .unset, .unset, .unset, .unset, .unset, .unset] [(.long (if (p5 &&& (1 : Int32)) = (0 : Int32) then p3 else p0))])) _
    refine XS.lstore X103.here hx rfl (hb hby at_26) rfl (l' := #[.val (.long p0), .second, .val (.long p1), .second, .val (.long p2), .second, .val (.long p3), .second, .val (.long p4), .second, .val (.int p5), .val (.ref b101), .val (.long (if (p5 &&& (1 : Int32)) = (0 : Int32) then p3 else p0)), .second, .unset, .unset, .unset, .unset, .unset, .unset, .unset]) rfl ?_
    show Steps p.tables e below (T103.setTop (mkF m 28 #[.val (.long p0), .second, .val (.long p1), .second, .val (.long p2), .second, .val (.long p3), .second, .val (.long p4), .second, .val (.int p5), .val (.ref b101), .val (.long (if (p5 &&& (1 : Int32)) = (0 : Int32) then p3 else p0)), .second, .unset, .unset, .unset, .unset, .unset, .unset, .unset] [])) _
    refine XS.iload X103.here hx rfl (hb hby at_28) rfl ?_
    show Steps p.tables e below (T103.setTop (mkF m 30 #[.val (.long p0), .second, .val (.long p1), .second, .val (.long p2), .second, .val (.long p3), .second, .val (.long p4), .second, .val (.int p5), .val (.ref b101), .val (.long (if (p5 &&& (1 : Int32)) = (0 : Int32) then p3 else p0)), .second, .unset, .unset, .unset, .unset, .unset, .unset, .unset] [(.int p5)])) _
    refine XS.iconst X103.here hx rfl (hb hby at_30) ?_
    show Steps p.tables e below (T103.setTop (mkF m 31 #[.val (.long p0), .second, .val (.long p1), .second, .val (.long p2), .second, .val (.long p3), .second, .val (.long p4), .second, .val (.int p5), .val (.ref b101), .val (.long (if (p5 &&& (1 : Int32)) = (0 : Int32) then p3 else p0)), .second, .unset, .unset, .unset, .unset, .unset, .unset, .unset] [(.int (2 : Int32)), (.int p5)])) _
    refine XS.iand X103.here hx rfl (hb hby at_31) rfl ?_
    exact k
  have S109 : ∀ t, Steps p.tables e below (T103.setTop (mkF m 41 #[.val (.long p0), .second, .val (.long p1), .second, .val (.long p2), .second, .val (.long p3), .second, .val (.long p4), .second, .val (.int p5), .val (.ref b101), .val (.long (if (p5 &&& (1 : Int32)) = (0 : Int32) then p3 else p0)), .second, .unset, .unset, .unset, .unset, .unset, .unset, .unset] [(.long (if (p5 &&& (2 : Int32)) = (0 : Int32) then p4 else p1))])) t → Steps p.tables e below (s₁.setTop (entryFrame m #[(.long p0), (.long p1), (.long p2), (.long p3), (.long p4), (.int p5)] maxLocals)) t := by
    by_cases hc108 : (p5 &&& (2 : Int32)) = (0 : Int32)
    · intro t k
      try simp only [if_pos hc108] at k
      refine S107 t ?_
      show Steps p.tables e below (T103.setTop (mkF m 32 #[.val (.long p0), .second, .val (.long p1), .second, .val (.long p2), .second, .val (.long p3), .second, .val (.long p4), .second, .val (.int p5), .val (.ref b101), .val (.long (if (p5 &&& (1 : Int32)) = (0 : Int32) then p3 else p0)), .second, .unset, .unset, .unset, .unset, .unset, .unset, .unset] [(.int (p5 &&& (2 : Int32)))])) _
      refine XS.ifYes X103.here hx rfl (pc0 := 32) (pc' := 39) rfl (hb hby at_32) rfl ((if0 _ _).trans (teq hc108).1) (by decide) (by decide) ?_
      show Steps p.tables e below (T103.setTop (mkF m 39 #[.val (.long p0), .second, .val (.long p1), .second, .val (.long p2), .second, .val (.long p3), .second, .val (.long p4), .second, .val (.int p5), .val (.ref b101), .val (.long (if (p5 &&& (1 : Int32)) = (0 : Int32) then p3 else p0)), .second, .unset, .unset, .unset, .unset, .unset, .unset, .unset] [])) _
      refine XS.lload X103.here hx rfl (hb hby at_39) rfl ?_
      exact k
    · intro t k
      try simp only [if_neg hc108] at k
      refine S107 t ?_
      show Steps p.tables e below (T103.setTop (mkF m 32 #[.val (.long p0), .second, .val (.long p1), .second, .val (.long p2), .second, .val (.long p3), .second, .val (.long p4), .second, .val (.int p5), .val (.ref b101), .val (.long (if (p5 &&& (1 : Int32)) = (0 : Int32) then p3 else p0)), .second, .unset, .unset, .unset, .unset, .unset, .unset, .unset] [(.int (p5 &&& (2 : Int32)))])) _
      refine XS.ifNo X103.here hx rfl (hb hby at_32) rfl ((if0 _ _).trans (feq hc108).1) ?_
      show Steps p.tables e below (T103.setTop (mkF m 35 #[.val (.long p0), .second, .val (.long p1), .second, .val (.long p2), .second, .val (.long p3), .second, .val (.long p4), .second, .val (.int p5), .val (.ref b101), .val (.long (if (p5 &&& (1 : Int32)) = (0 : Int32) then p3 else p0)), .second, .unset, .unset, .unset, .unset, .unset, .unset, .unset] [])) _
      refine XS.lloadN X103.here hx rfl (hb hby at_35) rfl ?_
      show Steps p.tables e below (T103.setTop (mkF m 36 #[.val (.long p0), .second, .val (.long p1), .second, .val (.long p2), .second, .val (.long p3), .second, .val (.long p4), .second, .val (.int p5), .val (.ref b101), .val (.long (if (p5 &&& (1 : Int32)) = (0 : Int32) then p3 else p0)), .second, .unset, .unset, .unset, .unset, .unset, .unset, .unset] [(.long p1)])) _
      refine XS.goto X103.here hx rfl (pc0 := 36) (pc' := 41) rfl (hb hby at_36) (by decide) (by decide) ?_
      exact k
  have S110 : ∀ t, Steps p.tables e below (T103.setTop (mkF m 47 #[.val (.long p0), .second, .val (.long p1), .second, .val (.long p2), .second, .val (.long p3), .second, .val (.long p4), .second, .val (.int p5), .val (.ref b101), .val (.long (if (p5 &&& (1 : Int32)) = (0 : Int32) then p3 else p0)), .second, .val (.long (if (p5 &&& (2 : Int32)) = (0 : Int32) then p4 else p1)), .second, .unset, .unset, .unset, .unset, .unset] [(.int (p5 &&& (4 : Int32)))])) t → Steps p.tables e below (s₁.setTop (entryFrame m #[(.long p0), (.long p1), (.long p2), (.long p3), (.long p4), (.int p5)] maxLocals)) t := fun t k => by
    refine S109 t ?_
    show Steps p.tables e below (T103.setTop (mkF m 41 #[.val (.long p0), .second, .val (.long p1), .second, .val (.long p2), .second, .val (.long p3), .second, .val (.long p4), .second, .val (.int p5), .val (.ref b101), .val (.long (if (p5 &&& (1 : Int32)) = (0 : Int32) then p3 else p0)), .second, .unset, .unset, .unset, .unset, .unset, .unset, .unset] [(.long (if (p5 &&& (2 : Int32)) = (0 : Int32) then p4 else p1))])) _
    refine XS.lstore X103.here hx rfl (hb hby at_41) rfl (l' := #[.val (.long p0), .second, .val (.long p1), .second, .val (.long p2), .second, .val (.long p3), .second, .val (.long p4), .second, .val (.int p5), .val (.ref b101), .val (.long (if (p5 &&& (1 : Int32)) = (0 : Int32) then p3 else p0)), .second, .val (.long (if (p5 &&& (2 : Int32)) = (0 : Int32) then p4 else p1)), .second, .unset, .unset, .unset, .unset, .unset]) rfl ?_
    show Steps p.tables e below (T103.setTop (mkF m 43 #[.val (.long p0), .second, .val (.long p1), .second, .val (.long p2), .second, .val (.long p3), .second, .val (.long p4), .second, .val (.int p5), .val (.ref b101), .val (.long (if (p5 &&& (1 : Int32)) = (0 : Int32) then p3 else p0)), .second, .val (.long (if (p5 &&& (2 : Int32)) = (0 : Int32) then p4 else p1)), .second, .unset, .unset, .unset, .unset, .unset] [])) _
    refine XS.iload X103.here hx rfl (hb hby at_43) rfl ?_
    show Steps p.tables e below (T103.setTop (mkF m 45 #[.val (.long p0), .second, .val (.long p1), .second, .val (.long p2), .second, .val (.long p3), .second, .val (.long p4), .second, .val (.int p5), .val (.ref b101), .val (.long (if (p5 &&& (1 : Int32)) = (0 : Int32) then p3 else p0)), .second, .val (.long (if (p5 &&& (2 : Int32)) = (0 : Int32) then p4 else p1)), .second, .unset, .unset, .unset, .unset, .unset] [(.int p5)])) _
    refine XS.iconst X103.here hx rfl (hb hby at_45) ?_
    show Steps p.tables e below (T103.setTop (mkF m 46 #[.val (.long p0), .second, .val (.long p1), .second, .val (.long p2), .second, .val (.long p3), .second, .val (.long p4), .second, .val (.int p5), .val (.ref b101), .val (.long (if (p5 &&& (1 : Int32)) = (0 : Int32) then p3 else p0)), .second, .val (.long (if (p5 &&& (2 : Int32)) = (0 : Int32) then p4 else p1)), .second, .unset, .unset, .unset, .unset, .unset] [(.int (4 : Int32)), (.int p5)])) _
    refine XS.iand X103.here hx rfl (hb hby at_46) rfl ?_
    exact k
  have S112 : ∀ t, Steps p.tables e below (T103.setTop (mkF m 60 #[.val (.long p0), .second, .val (.long p1), .second, .val (.long p2), .second, .val (.long p3), .second, .val (.long p4), .second, .val (.int p5), .val (.ref b101), .val (.long (if (p5 &&& (1 : Int32)) = (0 : Int32) then p3 else p0)), .second, .val (.long (if (p5 &&& (2 : Int32)) = (0 : Int32) then p4 else p1)), .second, .unset, .unset, .unset, .unset, .unset] [(.long (if (p5 &&& (4 : Int32)) = (0 : Int32) then (p3 - p4) else p2))])) t → Steps p.tables e below (s₁.setTop (entryFrame m #[(.long p0), (.long p1), (.long p2), (.long p3), (.long p4), (.int p5)] maxLocals)) t := by
    by_cases hc111 : (p5 &&& (4 : Int32)) = (0 : Int32)
    · intro t k
      try simp only [if_pos hc111] at k
      refine S110 t ?_
      show Steps p.tables e below (T103.setTop (mkF m 47 #[.val (.long p0), .second, .val (.long p1), .second, .val (.long p2), .second, .val (.long p3), .second, .val (.long p4), .second, .val (.int p5), .val (.ref b101), .val (.long (if (p5 &&& (1 : Int32)) = (0 : Int32) then p3 else p0)), .second, .val (.long (if (p5 &&& (2 : Int32)) = (0 : Int32) then p4 else p1)), .second, .unset, .unset, .unset, .unset, .unset] [(.int (p5 &&& (4 : Int32)))])) _
      refine XS.ifYes X103.here hx rfl (pc0 := 47) (pc' := 55) rfl (hb hby at_47) rfl ((if0 _ _).trans (teq hc111).1) (by decide) (by decide) ?_
      show Steps p.tables e below (T103.setTop (mkF m 55 #[.val (.long p0), .second, .val (.long p1), .second, .val (.long p2), .second, .val (.long p3), .second, .val (.long p4), .second, .val (.int p5), .val (.ref b101), .val (.long (if (p5 &&& (1 : Int32)) = (0 : Int32) then p3 else p0)), .second, .val (.long (if (p5 &&& (2 : Int32)) = (0 : Int32) then p4 else p1)), .second, .unset, .unset, .unset, .unset, .unset] [])) _
      refine XS.lload X103.here hx rfl (hb hby at_55) rfl ?_
      show Steps p.tables e below (T103.setTop (mkF m 57 #[.val (.long p0), .second, .val (.long p1), .second, .val (.long p2), .second, .val (.long p3), .second, .val (.long p4), .second, .val (.int p5), .val (.ref b101), .val (.long (if (p5 &&& (1 : Int32)) = (0 : Int32) then p3 else p0)), .second, .val (.long (if (p5 &&& (2 : Int32)) = (0 : Int32) then p4 else p1)), .second, .unset, .unset, .unset, .unset, .unset] [(.long p3)])) _
      refine XS.lload X103.here hx rfl (hb hby at_57) rfl ?_
      show Steps p.tables e below (T103.setTop (mkF m 59 #[.val (.long p0), .second, .val (.long p1), .second, .val (.long p2), .second, .val (.long p3), .second, .val (.long p4), .second, .val (.int p5), .val (.ref b101), .val (.long (if (p5 &&& (1 : Int32)) = (0 : Int32) then p3 else p0)), .second, .val (.long (if (p5 &&& (2 : Int32)) = (0 : Int32) then p4 else p1)), .second, .unset, .unset, .unset, .unset, .unset] [(.long p4), (.long p3)])) _
      refine XS.lsub X103.here hx rfl (hb hby at_59) rfl ?_
      exact k
    · intro t k
      try simp only [if_neg hc111] at k
      refine S110 t ?_
      show Steps p.tables e below (T103.setTop (mkF m 47 #[.val (.long p0), .second, .val (.long p1), .second, .val (.long p2), .second, .val (.long p3), .second, .val (.long p4), .second, .val (.int p5), .val (.ref b101), .val (.long (if (p5 &&& (1 : Int32)) = (0 : Int32) then p3 else p0)), .second, .val (.long (if (p5 &&& (2 : Int32)) = (0 : Int32) then p4 else p1)), .second, .unset, .unset, .unset, .unset, .unset] [(.int (p5 &&& (4 : Int32)))])) _
      refine XS.ifNo X103.here hx rfl (hb hby at_47) rfl ((if0 _ _).trans (feq hc111).1) ?_
      show Steps p.tables e below (T103.setTop (mkF m 50 #[.val (.long p0), .second, .val (.long p1), .second, .val (.long p2), .second, .val (.long p3), .second, .val (.long p4), .second, .val (.int p5), .val (.ref b101), .val (.long (if (p5 &&& (1 : Int32)) = (0 : Int32) then p3 else p0)), .second, .val (.long (if (p5 &&& (2 : Int32)) = (0 : Int32) then p4 else p1)), .second, .unset, .unset, .unset, .unset, .unset] [])) _
      refine XS.lload X103.here hx rfl (hb hby at_50) rfl ?_
      show Steps p.tables e below (T103.setTop (mkF m 52 #[.val (.long p0), .second, .val (.long p1), .second, .val (.long p2), .second, .val (.long p3), .second, .val (.long p4), .second, .val (.int p5), .val (.ref b101), .val (.long (if (p5 &&& (1 : Int32)) = (0 : Int32) then p3 else p0)), .second, .val (.long (if (p5 &&& (2 : Int32)) = (0 : Int32) then p4 else p1)), .second, .unset, .unset, .unset, .unset, .unset] [(.long p2)])) _
      refine XS.goto X103.here hx rfl (pc0 := 52) (pc' := 60) rfl (hb hby at_52) (by decide) (by decide) ?_
      exact k
  have O113 : Old Z n0 T103.heap := Old.keep O102 K103 (allS g_b101 all0)
  obtain ⟨T114, h114, X114, e114, E114, A114, D114, -, st114⟩ := newO X103 hx hZ hown (hwk hw 0 rfl) (hwk hw 1 rfl) (hwk hw 2 rfl) (rfl : T103.heap = T103.heap) (g := (mkF m 62 #[.val (.long p0), .second, .val (.long p1), .second, .val (.long p2), .second, .val (.long p3), .second, .val (.long p4), .second, .val (.int p5), .val (.ref b101), .val (.long (if (p5 &&& (1 : Int32)) = (0 : Int32) then p3 else p0)), .second, .val (.long (if (p5 &&& (2 : Int32)) = (0 : Int32) then p4 else p1)), .second, .val (.long (if (p5 &&& (4 : Int32)) = (0 : Int32) then (p3 - p4) else p2)), .second, .unset, .unset, .unset] [])) rfl (hb hby at_62) (by decide) (by decide)
  obtain ⟨b114, g114⟩ : ∃ z, z = T103.heap.size := ⟨_, rfl⟩
  rw [← g114] at A114 D114 st114
  have g_b114 : n0 ≤ b114 := Nat.le_trans (old_le O113) (Nat.le_of_eq g114.symm)
  have O115 : Old Z n0 h114 := Old.ext O113 E114
  obtain ⟨_, _, ⟨T116, L116, k116, n116⟩, -, X116, ⟨Lc116, hQ116, l116, y116, z116⟩, st116⟩ := X114.specialBack hx (y := (⟨"com/example/bill_run/billrun/InputCounts", "<init>", "(JJJ)V"⟩ : MethodName)) rfl hown (mvT hZ (hwk hw 3 rfl)) (mvT hZ (hwk hw 4 rfl)) (mvT hZ (hwk hw 5 rfl)) (by decide) (backOf (W := 1) (rm1 l Z a0 hw [] b114 (if (p5 &&& (1 : Int32)) = (0 : Int32) then p3 else p0) (if (p5 &&& (2 : Int32)) = (0 : Int32) then p4 else p1) (if (p5 &&& (4 : Int32)) = (0 : Int32) then (p3 - p4) else p2) h114 n0 O115 A114 g_b114 (show Fld Z h114 b114 "com/example/bill_run/billrun/InputCounts" "records" "J" (.long (0 : Int64)) from D114 (Or.inr (hwk hw 10 rfl)) (ty := .long) (by decide)) (show Fld Z h114 b114 "com/example/bill_run/billrun/InputCounts" "started" "J" (.long (0 : Int64)) from D114 (Or.inr (hwk hw 12 rfl)) (ty := .long) (by decide)) (show Fld Z h114 b114 "com/example/bill_run/billrun/InputCounts" "ended" "J" (.long (0 : Int64)) from D114 (Or.inr (hwk hw 14 rfl)) (ty := .long) (by decide))) hZ (hwk hw 5 rfl) (hwk hw 2 rfl) (by decide) (by decide)) (g := (mkF m 72 #[.val (.long p0), .second, .val (.long p1), .second, .val (.long p2), .second, .val (.long p3), .second, .val (.long p4), .second, .val (.int p5), .val (.ref b101), .val (.long (if (p5 &&& (1 : Int32)) = (0 : Int32) then p3 else p0)), .second, .val (.long (if (p5 &&& (2 : Int32)) = (0 : Int32) then p4 else p1)), .second, .val (.long (if (p5 &&& (4 : Int32)) = (0 : Int32) then (p3 - p4) else p2)), .second, .unset, .unset, .unset] [(.long (if (p5 &&& (4 : Int32)) = (0 : Int32) then (p3 - p4) else p2)), (.long (if (p5 &&& (2 : Int32)) = (0 : Int32) then p4 else p1)), (.long (if (p5 &&& (1 : Int32)) = (0 : Int32) then p3 else p0)), (.ref b114), (.ref b114)])) rfl (by rw [hml]; rfl) (Steps.refl _) (a := b114) (argsL := [(.long (if (p5 &&& (1 : Int32)) = (0 : Int32) then p3 else p0)), (.long (if (p5 &&& (2 : Int32)) = (0 : Int32) then p4 else p1)), (.long (if (p5 &&& (4 : Int32)) = (0 : Int32) then (p3 - p4) else p2))]) (rest := [(.ref b114)]) (lenOf pd_2 rfl) rfl (by show 2 * 0 + _ ≤ _; exact Nat.le_of_eq rfl) (hb hby at_72) (fun _ _ => ⟨rfl, e114, (by decide : 2 + 0 ≤ _), (by decide : 6 + 0 ≤ _)⟩)
  dsimp only [Pt.U, Pt.locs, Pt.cells, Pt.slots] at X116 l116 y116 z116 st116 hQ116
  subst l116 y116 z116
  unfold Q_rm1 at hQ116
  obtain ⟨rfl, N116q, K116, f116_0, f116_1, f116_2, f116_3⟩ := hQ116
  have N116 := Fr.app N103 N116q
  have S117 : ∀ t, Steps p.tables e below (T116.setTop (mkF m 81 #[.val (.long p0), .second, .val (.long p1), .second, .val (.long p2), .second, .val (.long p3), .second, .val (.long p4), .second, .val (.int p5), .val (.ref b101), .val (.long (if (p5 &&& (1 : Int32)) = (0 : Int32) then p3 else p0)), .second, .val (.long (if (p5 &&& (2 : Int32)) = (0 : Int32) then p4 else p1)), .second, .val (.long (if (p5 &&& (4 : Int32)) = (0 : Int32) then (p3 - p4) else p2)), .second, .val (.ref b114), .unset, .unset] [(.int (lcmpW (if (p5 &&& (1 : Int32)) = (0 : Int32) then p3 else p0) p0))])) t → Steps p.tables e below (s₁.setTop (entryFrame m #[(.long p0), (.long p1), (.long p2), (.long p3), (.long p4), (.int p5)] maxLocals)) t := fun t k => by
    refine S112 t ?_
    show Steps p.tables e below (T103.setTop (mkF m 60 #[.val (.long p0), .second, .val (.long p1), .second, .val (.long p2), .second, .val (.long p3), .second, .val (.long p4), .second, .val (.int p5), .val (.ref b101), .val (.long (if (p5 &&& (1 : Int32)) = (0 : Int32) then p3 else p0)), .second, .val (.long (if (p5 &&& (2 : Int32)) = (0 : Int32) then p4 else p1)), .second, .unset, .unset, .unset, .unset, .unset] [(.long (if (p5 &&& (4 : Int32)) = (0 : Int32) then (p3 - p4) else p2))])) _
    refine XS.lstore X103.here hx rfl (hb hby at_60) rfl (l' := #[.val (.long p0), .second, .val (.long p1), .second, .val (.long p2), .second, .val (.long p3), .second, .val (.long p4), .second, .val (.int p5), .val (.ref b101), .val (.long (if (p5 &&& (1 : Int32)) = (0 : Int32) then p3 else p0)), .second, .val (.long (if (p5 &&& (2 : Int32)) = (0 : Int32) then p4 else p1)), .second, .val (.long (if (p5 &&& (4 : Int32)) = (0 : Int32) then (p3 - p4) else p2)), .second, .unset, .unset, .unset]) rfl ?_
    show Steps p.tables e below (T103.setTop (mkF m 62 #[.val (.long p0), .second, .val (.long p1), .second, .val (.long p2), .second, .val (.long p3), .second, .val (.long p4), .second, .val (.int p5), .val (.ref b101), .val (.long (if (p5 &&& (1 : Int32)) = (0 : Int32) then p3 else p0)), .second, .val (.long (if (p5 &&& (2 : Int32)) = (0 : Int32) then p4 else p1)), .second, .val (.long (if (p5 &&& (4 : Int32)) = (0 : Int32) then (p3 - p4) else p2)), .second, .unset, .unset, .unset] [])) _
    refine st114 _ ?_
    show Steps p.tables e below (T114.setTop (mkF m 65 #[.val (.long p0), .second, .val (.long p1), .second, .val (.long p2), .second, .val (.long p3), .second, .val (.long p4), .second, .val (.int p5), .val (.ref b101), .val (.long (if (p5 &&& (1 : Int32)) = (0 : Int32) then p3 else p0)), .second, .val (.long (if (p5 &&& (2 : Int32)) = (0 : Int32) then p4 else p1)), .second, .val (.long (if (p5 &&& (4 : Int32)) = (0 : Int32) then (p3 - p4) else p2)), .second, .unset, .unset, .unset] [(.ref b114)])) _
    refine XS.dup X114.here hx rfl (hb hby at_65) rfl rfl ?_
    show Steps p.tables e below (T114.setTop (mkF m 66 #[.val (.long p0), .second, .val (.long p1), .second, .val (.long p2), .second, .val (.long p3), .second, .val (.long p4), .second, .val (.int p5), .val (.ref b101), .val (.long (if (p5 &&& (1 : Int32)) = (0 : Int32) then p3 else p0)), .second, .val (.long (if (p5 &&& (2 : Int32)) = (0 : Int32) then p4 else p1)), .second, .val (.long (if (p5 &&& (4 : Int32)) = (0 : Int32) then (p3 - p4) else p2)), .second, .unset, .unset, .unset] [(.ref b114), (.ref b114)])) _
    refine XS.lload X114.here hx rfl (hb hby at_66) rfl ?_
    show Steps p.tables e below (T114.setTop (mkF m 68 #[.val (.long p0), .second, .val (.long p1), .second, .val (.long p2), .second, .val (.long p3), .second, .val (.long p4), .second, .val (.int p5), .val (.ref b101), .val (.long (if (p5 &&& (1 : Int32)) = (0 : Int32) then p3 else p0)), .second, .val (.long (if (p5 &&& (2 : Int32)) = (0 : Int32) then p4 else p1)), .second, .val (.long (if (p5 &&& (4 : Int32)) = (0 : Int32) then (p3 - p4) else p2)), .second, .unset, .unset, .unset] [(.long (if (p5 &&& (1 : Int32)) = (0 : Int32) then p3 else p0)), (.ref b114), (.ref b114)])) _
    refine XS.lload X114.here hx rfl (hb hby at_68) rfl ?_
    show Steps p.tables e below (T114.setTop (mkF m 70 #[.val (.long p0), .second, .val (.long p1), .second, .val (.long p2), .second, .val (.long p3), .second, .val (.long p4), .second, .val (.int p5), .val (.ref b101), .val (.long (if (p5 &&& (1 : Int32)) = (0 : Int32) then p3 else p0)), .second, .val (.long (if (p5 &&& (2 : Int32)) = (0 : Int32) then p4 else p1)), .second, .val (.long (if (p5 &&& (4 : Int32)) = (0 : Int32) then (p3 - p4) else p2)), .second, .unset, .unset, .unset] [(.long (if (p5 &&& (2 : Int32)) = (0 : Int32) then p4 else p1)), (.long (if (p5 &&& (1 : Int32)) = (0 : Int32) then p3 else p0)), (.ref b114), (.ref b114)])) _
    refine XS.lload X114.here hx rfl (hb hby at_70) rfl ?_
    show Steps p.tables e below (T114.setTop (mkF m 72 #[.val (.long p0), .second, .val (.long p1), .second, .val (.long p2), .second, .val (.long p3), .second, .val (.long p4), .second, .val (.int p5), .val (.ref b101), .val (.long (if (p5 &&& (1 : Int32)) = (0 : Int32) then p3 else p0)), .second, .val (.long (if (p5 &&& (2 : Int32)) = (0 : Int32) then p4 else p1)), .second, .val (.long (if (p5 &&& (4 : Int32)) = (0 : Int32) then (p3 - p4) else p2)), .second, .unset, .unset, .unset] [(.long (if (p5 &&& (4 : Int32)) = (0 : Int32) then (p3 - p4) else p2)), (.long (if (p5 &&& (2 : Int32)) = (0 : Int32) then p4 else p1)), (.long (if (p5 &&& (1 : Int32)) = (0 : Int32) then p3 else p0)), (.ref b114), (.ref b114)])) _
    refine st116.trans ?_
    show Steps p.tables e below (T116.setTop (mkF m 75 #[.val (.long p0), .second, .val (.long p1), .second, .val (.long p2), .second, .val (.long p3), .second, .val (.long p4), .second, .val (.int p5), .val (.ref b101), .val (.long (if (p5 &&& (1 : Int32)) = (0 : Int32) then p3 else p0)), .second, .val (.long (if (p5 &&& (2 : Int32)) = (0 : Int32) then p4 else p1)), .second, .val (.long (if (p5 &&& (4 : Int32)) = (0 : Int32) then (p3 - p4) else p2)), .second, .unset, .unset, .unset] [(.ref b114)])) _
    refine XS.astore X116.here hx rfl (hb hby at_75) rfl rfl (l' := #[.val (.long p0), .second, .val (.long p1), .second, .val (.long p2), .second, .val (.long p3), .second, .val (.long p4), .second, .val (.int p5), .val (.ref b101), .val (.long (if (p5 &&& (1 : Int32)) = (0 : Int32) then p3 else p0)), .second, .val (.long (if (p5 &&& (2 : Int32)) = (0 : Int32) then p4 else p1)), .second, .val (.long (if (p5 &&& (4 : Int32)) = (0 : Int32) then (p3 - p4) else p2)), .second, .val (.ref b114), .unset, .unset]) rfl ?_
    show Steps p.tables e below (T116.setTop (mkF m 77 #[.val (.long p0), .second, .val (.long p1), .second, .val (.long p2), .second, .val (.long p3), .second, .val (.long p4), .second, .val (.int p5), .val (.ref b101), .val (.long (if (p5 &&& (1 : Int32)) = (0 : Int32) then p3 else p0)), .second, .val (.long (if (p5 &&& (2 : Int32)) = (0 : Int32) then p4 else p1)), .second, .val (.long (if (p5 &&& (4 : Int32)) = (0 : Int32) then (p3 - p4) else p2)), .second, .val (.ref b114), .unset, .unset] [])) _
    refine XS.lload X116.here hx rfl (hb hby at_77) rfl ?_
    show Steps p.tables e below (T116.setTop (mkF m 79 #[.val (.long p0), .second, .val (.long p1), .second, .val (.long p2), .second, .val (.long p3), .second, .val (.long p4), .second, .val (.int p5), .val (.ref b101), .val (.long (if (p5 &&& (1 : Int32)) = (0 : Int32) then p3 else p0)), .second, .val (.long (if (p5 &&& (2 : Int32)) = (0 : Int32) then p4 else p1)), .second, .val (.long (if (p5 &&& (4 : Int32)) = (0 : Int32) then (p3 - p4) else p2)), .second, .val (.ref b114), .unset, .unset] [(.long (if (p5 &&& (1 : Int32)) = (0 : Int32) then p3 else p0))])) _
    refine XS.lloadN X116.here hx rfl (hb hby at_79) rfl ?_
    show Steps p.tables e below (T116.setTop (mkF m 80 #[.val (.long p0), .second, .val (.long p1), .second, .val (.long p2), .second, .val (.long p3), .second, .val (.long p4), .second, .val (.int p5), .val (.ref b101), .val (.long (if (p5 &&& (1 : Int32)) = (0 : Int32) then p3 else p0)), .second, .val (.long (if (p5 &&& (2 : Int32)) = (0 : Int32) then p4 else p1)), .second, .val (.long (if (p5 &&& (4 : Int32)) = (0 : Int32) then (p3 - p4) else p2)), .second, .val (.ref b114), .unset, .unset] [(.long p0), (.long (if (p5 &&& (1 : Int32)) = (0 : Int32) then p3 else p0))])) _
    refine XS.lcmp X116.here hx rfl (hb hby at_80) rfl ?_
    exact k
  have S119 : ∀ t, Steps p.tables e below (T116.setTop (mkF m 104 #[.val (.long p0), .second, .val (.long p1), .second, .val (.long p2), .second, .val (.long p3), .second, .val (.long p4), .second, .val (.int p5), .val (.ref b101), .val (.long (if (p5 &&& (1 : Int32)) = (0 : Int32) then p3 else p0)), .second, .val (.long (if (p5 &&& (2 : Int32)) = (0 : Int32) then p4 else p1)), .second, .val (.long (if (p5 &&& (4 : Int32)) = (0 : Int32) then (p3 - p4) else p2)), .second, .val (.ref b114), .unset, .unset] [(.int (if (if (p5 &&& (1 : Int32)) = (0 : Int32) then p3 else p0) = p0 then (if (if (p5 &&& (2 : Int32)) = (0 : Int32) then p4 else p1) = p1 then (if (if (p5 &&& (4 : Int32)) = (0 : Int32) then (p3 - p4) else p2) = p2 then (1 : Int32) else (0 : Int32)) else (0 : Int32)) else (0 : Int32)))])) t → Steps p.tables e below (s₁.setTop (entryFrame m #[(.long p0), (.long p1), (.long p2), (.long p3), (.long p4), (.int p5)] maxLocals)) t := by
    by_cases hc118 : (if (p5 &&& (1 : Int32)) = (0 : Int32) then p3 else p0) = p0
    · by_cases hc120 : (if (p5 &&& (2 : Int32)) = (0 : Int32) then p4 else p1) = p1
      · by_cases hc121 : (if (p5 &&& (4 : Int32)) = (0 : Int32) then (p3 - p4) else p2) = p2
        · intro t k
          try simp only [if_pos hc118, if_pos hc120, if_pos hc121] at k
          refine S117 t ?_
          show Steps p.tables e below (T116.setTop (mkF m 81 #[.val (.long p0), .second, .val (.long p1), .second, .val (.long p2), .second, .val (.long p3), .second, .val (.long p4), .second, .val (.int p5), .val (.ref b101), .val (.long (if (p5 &&& (1 : Int32)) = (0 : Int32) then p3 else p0)), .second, .val (.long (if (p5 &&& (2 : Int32)) = (0 : Int32) then p4 else p1)), .second, .val (.long (if (p5 &&& (4 : Int32)) = (0 : Int32) then (p3 - p4) else p2)), .second, .val (.ref b114), .unset, .unset] [(.int (lcmpW (if (p5 &&& (1 : Int32)) = (0 : Int32) then p3 else p0) p0))])) _
          refine XS.ifNo X116.here hx rfl (hb hby at_81) rfl ((if0 _ _).trans (teq ((lw_eq (if (p5 &&& (1 : Int32)) = (0 : Int32) then p3 else p0) p0).mpr hc118)).2) ?_
          show Steps p.tables e below (T116.setTop (mkF m 84 #[.val (.long p0), .second, .val (.long p1), .second, .val (.long p2), .second, .val (.long p3), .second, .val (.long p4), .second, .val (.int p5), .val (.ref b101), .val (.long (if (p5 &&& (1 : Int32)) = (0 : Int32) then p3 else p0)), .second, .val (.long (if (p5 &&& (2 : Int32)) = (0 : Int32) then p4 else p1)), .second, .val (.long (if (p5 &&& (4 : Int32)) = (0 : Int32) then (p3 - p4) else p2)), .second, .val (.ref b114), .unset, .unset] [])) _
          refine XS.lload X116.here hx rfl (hb hby at_84) rfl ?_
          show Steps p.tables e below (T116.setTop (mkF m 86 #[.val (.long p0), .second, .val (.long p1), .second, .val (.long p2), .second, .val (.long p3), .second, .val (.long p4), .second, .val (.int p5), .val (.ref b101), .val (.long (if (p5 &&& (1 : Int32)) = (0 : Int32) then p3 else p0)), .second, .val (.long (if (p5 &&& (2 : Int32)) = (0 : Int32) then p4 else p1)), .second, .val (.long (if (p5 &&& (4 : Int32)) = (0 : Int32) then (p3 - p4) else p2)), .second, .val (.ref b114), .unset, .unset] [(.long (if (p5 &&& (2 : Int32)) = (0 : Int32) then p4 else p1))])) _
          refine XS.lloadN X116.here hx rfl (hb hby at_86) rfl ?_
          show Steps p.tables e below (T116.setTop (mkF m 87 #[.val (.long p0), .second, .val (.long p1), .second, .val (.long p2), .second, .val (.long p3), .second, .val (.long p4), .second, .val (.int p5), .val (.ref b101), .val (.long (if (p5 &&& (1 : Int32)) = (0 : Int32) then p3 else p0)), .second, .val (.long (if (p5 &&& (2 : Int32)) = (0 : Int32) then p4 else p1)), .second, .val (.long (if (p5 &&& (4 : Int32)) = (0 : Int32) then (p3 - p4) else p2)), .second, .val (.ref b114), .unset, .unset] [(.long p1), (.long (if (p5 &&& (2 : Int32)) = (0 : Int32) then p4 else p1))])) _
          refine XS.lcmp X116.here hx rfl (hb hby at_87) rfl ?_
          show Steps p.tables e below (T116.setTop (mkF m 88 #[.val (.long p0), .second, .val (.long p1), .second, .val (.long p2), .second, .val (.long p3), .second, .val (.long p4), .second, .val (.int p5), .val (.ref b101), .val (.long (if (p5 &&& (1 : Int32)) = (0 : Int32) then p3 else p0)), .second, .val (.long (if (p5 &&& (2 : Int32)) = (0 : Int32) then p4 else p1)), .second, .val (.long (if (p5 &&& (4 : Int32)) = (0 : Int32) then (p3 - p4) else p2)), .second, .val (.ref b114), .unset, .unset] [(.int (lcmpW (if (p5 &&& (2 : Int32)) = (0 : Int32) then p4 else p1) p1))])) _
          refine XS.ifNo X116.here hx rfl (hb hby at_88) rfl ((if0 _ _).trans (teq ((lw_eq (if (p5 &&& (2 : Int32)) = (0 : Int32) then p4 else p1) p1).mpr hc120)).2) ?_
          show Steps p.tables e below (T116.setTop (mkF m 91 #[.val (.long p0), .second, .val (.long p1), .second, .val (.long p2), .second, .val (.long p3), .second, .val (.long p4), .second, .val (.int p5), .val (.ref b101), .val (.long (if (p5 &&& (1 : Int32)) = (0 : Int32) then p3 else p0)), .second, .val (.long (if (p5 &&& (2 : Int32)) = (0 : Int32) then p4 else p1)), .second, .val (.long (if (p5 &&& (4 : Int32)) = (0 : Int32) then (p3 - p4) else p2)), .second, .val (.ref b114), .unset, .unset] [])) _
          refine XS.lload X116.here hx rfl (hb hby at_91) rfl ?_
          show Steps p.tables e below (T116.setTop (mkF m 93 #[.val (.long p0), .second, .val (.long p1), .second, .val (.long p2), .second, .val (.long p3), .second, .val (.long p4), .second, .val (.int p5), .val (.ref b101), .val (.long (if (p5 &&& (1 : Int32)) = (0 : Int32) then p3 else p0)), .second, .val (.long (if (p5 &&& (2 : Int32)) = (0 : Int32) then p4 else p1)), .second, .val (.long (if (p5 &&& (4 : Int32)) = (0 : Int32) then (p3 - p4) else p2)), .second, .val (.ref b114), .unset, .unset] [(.long (if (p5 &&& (4 : Int32)) = (0 : Int32) then (p3 - p4) else p2))])) _
          refine XS.lload X116.here hx rfl (hb hby at_93) rfl ?_
          show Steps p.tables e below (T116.setTop (mkF m 95 #[.val (.long p0), .second, .val (.long p1), .second, .val (.long p2), .second, .val (.long p3), .second, .val (.long p4), .second, .val (.int p5), .val (.ref b101), .val (.long (if (p5 &&& (1 : Int32)) = (0 : Int32) then p3 else p0)), .second, .val (.long (if (p5 &&& (2 : Int32)) = (0 : Int32) then p4 else p1)), .second, .val (.long (if (p5 &&& (4 : Int32)) = (0 : Int32) then (p3 - p4) else p2)), .second, .val (.ref b114), .unset, .unset] [(.long p2), (.long (if (p5 &&& (4 : Int32)) = (0 : Int32) then (p3 - p4) else p2))])) _
          refine XS.lcmp X116.here hx rfl (hb hby at_95) rfl ?_
          show Steps p.tables e below (T116.setTop (mkF m 96 #[.val (.long p0), .second, .val (.long p1), .second, .val (.long p2), .second, .val (.long p3), .second, .val (.long p4), .second, .val (.int p5), .val (.ref b101), .val (.long (if (p5 &&& (1 : Int32)) = (0 : Int32) then p3 else p0)), .second, .val (.long (if (p5 &&& (2 : Int32)) = (0 : Int32) then p4 else p1)), .second, .val (.long (if (p5 &&& (4 : Int32)) = (0 : Int32) then (p3 - p4) else p2)), .second, .val (.ref b114), .unset, .unset] [(.int (lcmpW (if (p5 &&& (4 : Int32)) = (0 : Int32) then (p3 - p4) else p2) p2))])) _
          refine XS.ifNo X116.here hx rfl (hb hby at_96) rfl ((if0 _ _).trans (teq ((lw_eq (if (p5 &&& (4 : Int32)) = (0 : Int32) then (p3 - p4) else p2) p2).mpr hc121)).2) ?_
          show Steps p.tables e below (T116.setTop (mkF m 99 #[.val (.long p0), .second, .val (.long p1), .second, .val (.long p2), .second, .val (.long p3), .second, .val (.long p4), .second, .val (.int p5), .val (.ref b101), .val (.long (if (p5 &&& (1 : Int32)) = (0 : Int32) then p3 else p0)), .second, .val (.long (if (p5 &&& (2 : Int32)) = (0 : Int32) then p4 else p1)), .second, .val (.long (if (p5 &&& (4 : Int32)) = (0 : Int32) then (p3 - p4) else p2)), .second, .val (.ref b114), .unset, .unset] [])) _
          refine XS.iconst X116.here hx rfl (hb hby at_99) ?_
          show Steps p.tables e below (T116.setTop (mkF m 100 #[.val (.long p0), .second, .val (.long p1), .second, .val (.long p2), .second, .val (.long p3), .second, .val (.long p4), .second, .val (.int p5), .val (.ref b101), .val (.long (if (p5 &&& (1 : Int32)) = (0 : Int32) then p3 else p0)), .second, .val (.long (if (p5 &&& (2 : Int32)) = (0 : Int32) then p4 else p1)), .second, .val (.long (if (p5 &&& (4 : Int32)) = (0 : Int32) then (p3 - p4) else p2)), .second, .val (.ref b114), .unset, .unset] [(.int (1 : Int32))])) _
          refine XS.goto X116.here hx rfl (pc0 := 100) (pc' := 104) rfl (hb hby at_100) (by decide) (by decide) ?_
          exact k
        · intro t k
          try simp only [if_pos hc118, if_pos hc120, if_neg hc121] at k
          refine S117 t ?_
          show Steps p.tables e below (T116.setTop (mkF m 81 #[.val (.long p0), .second, .val (.long p1), .second, .val (.long p2), .second, .val (.long p3), .second, .val (.long p4), .second, .val (.int p5), .val (.ref b101), .val (.long (if (p5 &&& (1 : Int32)) = (0 : Int32) then p3 else p0)), .second, .val (.long (if (p5 &&& (2 : Int32)) = (0 : Int32) then p4 else p1)), .second, .val (.long (if (p5 &&& (4 : Int32)) = (0 : Int32) then (p3 - p4) else p2)), .second, .val (.ref b114), .unset, .unset] [(.int (lcmpW (if (p5 &&& (1 : Int32)) = (0 : Int32) then p3 else p0) p0))])) _
          refine XS.ifNo X116.here hx rfl (hb hby at_81) rfl ((if0 _ _).trans (teq ((lw_eq (if (p5 &&& (1 : Int32)) = (0 : Int32) then p3 else p0) p0).mpr hc118)).2) ?_
          show Steps p.tables e below (T116.setTop (mkF m 84 #[.val (.long p0), .second, .val (.long p1), .second, .val (.long p2), .second, .val (.long p3), .second, .val (.long p4), .second, .val (.int p5), .val (.ref b101), .val (.long (if (p5 &&& (1 : Int32)) = (0 : Int32) then p3 else p0)), .second, .val (.long (if (p5 &&& (2 : Int32)) = (0 : Int32) then p4 else p1)), .second, .val (.long (if (p5 &&& (4 : Int32)) = (0 : Int32) then (p3 - p4) else p2)), .second, .val (.ref b114), .unset, .unset] [])) _
          refine XS.lload X116.here hx rfl (hb hby at_84) rfl ?_
          show Steps p.tables e below (T116.setTop (mkF m 86 #[.val (.long p0), .second, .val (.long p1), .second, .val (.long p2), .second, .val (.long p3), .second, .val (.long p4), .second, .val (.int p5), .val (.ref b101), .val (.long (if (p5 &&& (1 : Int32)) = (0 : Int32) then p3 else p0)), .second, .val (.long (if (p5 &&& (2 : Int32)) = (0 : Int32) then p4 else p1)), .second, .val (.long (if (p5 &&& (4 : Int32)) = (0 : Int32) then (p3 - p4) else p2)), .second, .val (.ref b114), .unset, .unset] [(.long (if (p5 &&& (2 : Int32)) = (0 : Int32) then p4 else p1))])) _
          refine XS.lloadN X116.here hx rfl (hb hby at_86) rfl ?_
          show Steps p.tables e below (T116.setTop (mkF m 87 #[.val (.long p0), .second, .val (.long p1), .second, .val (.long p2), .second, .val (.long p3), .second, .val (.long p4), .second, .val (.int p5), .val (.ref b101), .val (.long (if (p5 &&& (1 : Int32)) = (0 : Int32) then p3 else p0)), .second, .val (.long (if (p5 &&& (2 : Int32)) = (0 : Int32) then p4 else p1)), .second, .val (.long (if (p5 &&& (4 : Int32)) = (0 : Int32) then (p3 - p4) else p2)), .second, .val (.ref b114), .unset, .unset] [(.long p1), (.long (if (p5 &&& (2 : Int32)) = (0 : Int32) then p4 else p1))])) _
          refine XS.lcmp X116.here hx rfl (hb hby at_87) rfl ?_
          show Steps p.tables e below (T116.setTop (mkF m 88 #[.val (.long p0), .second, .val (.long p1), .second, .val (.long p2), .second, .val (.long p3), .second, .val (.long p4), .second, .val (.int p5), .val (.ref b101), .val (.long (if (p5 &&& (1 : Int32)) = (0 : Int32) then p3 else p0)), .second, .val (.long (if (p5 &&& (2 : Int32)) = (0 : Int32) then p4 else p1)), .second, .val (.long (if (p5 &&& (4 : Int32)) = (0 : Int32) then (p3 - p4) else p2)), .second, .val (.ref b114), .unset, .unset] [(.int (lcmpW (if (p5 &&& (2 : Int32)) = (0 : Int32) then p4 else p1) p1))])) _
          refine XS.ifNo X116.here hx rfl (hb hby at_88) rfl ((if0 _ _).trans (teq ((lw_eq (if (p5 &&& (2 : Int32)) = (0 : Int32) then p4 else p1) p1).mpr hc120)).2) ?_
          show Steps p.tables e below (T116.setTop (mkF m 91 #[.val (.long p0), .second, .val (.long p1), .second, .val (.long p2), .second, .val (.long p3), .second, .val (.long p4), .second, .val (.int p5), .val (.ref b101), .val (.long (if (p5 &&& (1 : Int32)) = (0 : Int32) then p3 else p0)), .second, .val (.long (if (p5 &&& (2 : Int32)) = (0 : Int32) then p4 else p1)), .second, .val (.long (if (p5 &&& (4 : Int32)) = (0 : Int32) then (p3 - p4) else p2)), .second, .val (.ref b114), .unset, .unset] [])) _
          refine XS.lload X116.here hx rfl (hb hby at_91) rfl ?_
          show Steps p.tables e below (T116.setTop (mkF m 93 #[.val (.long p0), .second, .val (.long p1), .second, .val (.long p2), .second, .val (.long p3), .second, .val (.long p4), .second, .val (.int p5), .val (.ref b101), .val (.long (if (p5 &&& (1 : Int32)) = (0 : Int32) then p3 else p0)), .second, .val (.long (if (p5 &&& (2 : Int32)) = (0 : Int32) then p4 else p1)), .second, .val (.long (if (p5 &&& (4 : Int32)) = (0 : Int32) then (p3 - p4) else p2)), .second, .val (.ref b114), .unset, .unset] [(.long (if (p5 &&& (4 : Int32)) = (0 : Int32) then (p3 - p4) else p2))])) _
          refine XS.lload X116.here hx rfl (hb hby at_93) rfl ?_
          show Steps p.tables e below (T116.setTop (mkF m 95 #[.val (.long p0), .second, .val (.long p1), .second, .val (.long p2), .second, .val (.long p3), .second, .val (.long p4), .second, .val (.int p5), .val (.ref b101), .val (.long (if (p5 &&& (1 : Int32)) = (0 : Int32) then p3 else p0)), .second, .val (.long (if (p5 &&& (2 : Int32)) = (0 : Int32) then p4 else p1)), .second, .val (.long (if (p5 &&& (4 : Int32)) = (0 : Int32) then (p3 - p4) else p2)), .second, .val (.ref b114), .unset, .unset] [(.long p2), (.long (if (p5 &&& (4 : Int32)) = (0 : Int32) then (p3 - p4) else p2))])) _
          refine XS.lcmp X116.here hx rfl (hb hby at_95) rfl ?_
          show Steps p.tables e below (T116.setTop (mkF m 96 #[.val (.long p0), .second, .val (.long p1), .second, .val (.long p2), .second, .val (.long p3), .second, .val (.long p4), .second, .val (.int p5), .val (.ref b101), .val (.long (if (p5 &&& (1 : Int32)) = (0 : Int32) then p3 else p0)), .second, .val (.long (if (p5 &&& (2 : Int32)) = (0 : Int32) then p4 else p1)), .second, .val (.long (if (p5 &&& (4 : Int32)) = (0 : Int32) then (p3 - p4) else p2)), .second, .val (.ref b114), .unset, .unset] [(.int (lcmpW (if (p5 &&& (4 : Int32)) = (0 : Int32) then (p3 - p4) else p2) p2))])) _
          refine XS.ifYes X116.here hx rfl (pc0 := 96) (pc' := 103) rfl (hb hby at_96) rfl ((if0 _ _).trans (feq (fun q => hc121 ((lw_eq (if (p5 &&& (4 : Int32)) = (0 : Int32) then (p3 - p4) else p2) p2).mp q))).2) (by decide) (by decide) ?_
          show Steps p.tables e below (T116.setTop (mkF m 103 #[.val (.long p0), .second, .val (.long p1), .second, .val (.long p2), .second, .val (.long p3), .second, .val (.long p4), .second, .val (.int p5), .val (.ref b101), .val (.long (if (p5 &&& (1 : Int32)) = (0 : Int32) then p3 else p0)), .second, .val (.long (if (p5 &&& (2 : Int32)) = (0 : Int32) then p4 else p1)), .second, .val (.long (if (p5 &&& (4 : Int32)) = (0 : Int32) then (p3 - p4) else p2)), .second, .val (.ref b114), .unset, .unset] [])) _
          refine XS.iconst X116.here hx rfl (hb hby at_103) ?_
          exact k
      · intro t k
        try simp only [if_pos hc118, if_neg hc120] at k
        refine S117 t ?_
        show Steps p.tables e below (T116.setTop (mkF m 81 #[.val (.long p0), .second, .val (.long p1), .second, .val (.long p2), .second, .val (.long p3), .second, .val (.long p4), .second, .val (.int p5), .val (.ref b101), .val (.long (if (p5 &&& (1 : Int32)) = (0 : Int32) then p3 else p0)), .second, .val (.long (if (p5 &&& (2 : Int32)) = (0 : Int32) then p4 else p1)), .second, .val (.long (if (p5 &&& (4 : Int32)) = (0 : Int32) then (p3 - p4) else p2)), .second, .val (.ref b114), .unset, .unset] [(.int (lcmpW (if (p5 &&& (1 : Int32)) = (0 : Int32) then p3 else p0) p0))])) _
        refine XS.ifNo X116.here hx rfl (hb hby at_81) rfl ((if0 _ _).trans (teq ((lw_eq (if (p5 &&& (1 : Int32)) = (0 : Int32) then p3 else p0) p0).mpr hc118)).2) ?_
        show Steps p.tables e below (T116.setTop (mkF m 84 #[.val (.long p0), .second, .val (.long p1), .second, .val (.long p2), .second, .val (.long p3), .second, .val (.long p4), .second, .val (.int p5), .val (.ref b101), .val (.long (if (p5 &&& (1 : Int32)) = (0 : Int32) then p3 else p0)), .second, .val (.long (if (p5 &&& (2 : Int32)) = (0 : Int32) then p4 else p1)), .second, .val (.long (if (p5 &&& (4 : Int32)) = (0 : Int32) then (p3 - p4) else p2)), .second, .val (.ref b114), .unset, .unset] [])) _
        refine XS.lload X116.here hx rfl (hb hby at_84) rfl ?_
        show Steps p.tables e below (T116.setTop (mkF m 86 #[.val (.long p0), .second, .val (.long p1), .second, .val (.long p2), .second, .val (.long p3), .second, .val (.long p4), .second, .val (.int p5), .val (.ref b101), .val (.long (if (p5 &&& (1 : Int32)) = (0 : Int32) then p3 else p0)), .second, .val (.long (if (p5 &&& (2 : Int32)) = (0 : Int32) then p4 else p1)), .second, .val (.long (if (p5 &&& (4 : Int32)) = (0 : Int32) then (p3 - p4) else p2)), .second, .val (.ref b114), .unset, .unset] [(.long (if (p5 &&& (2 : Int32)) = (0 : Int32) then p4 else p1))])) _
        refine XS.lloadN X116.here hx rfl (hb hby at_86) rfl ?_
        show Steps p.tables e below (T116.setTop (mkF m 87 #[.val (.long p0), .second, .val (.long p1), .second, .val (.long p2), .second, .val (.long p3), .second, .val (.long p4), .second, .val (.int p5), .val (.ref b101), .val (.long (if (p5 &&& (1 : Int32)) = (0 : Int32) then p3 else p0)), .second, .val (.long (if (p5 &&& (2 : Int32)) = (0 : Int32) then p4 else p1)), .second, .val (.long (if (p5 &&& (4 : Int32)) = (0 : Int32) then (p3 - p4) else p2)), .second, .val (.ref b114), .unset, .unset] [(.long p1), (.long (if (p5 &&& (2 : Int32)) = (0 : Int32) then p4 else p1))])) _
        refine XS.lcmp X116.here hx rfl (hb hby at_87) rfl ?_
        show Steps p.tables e below (T116.setTop (mkF m 88 #[.val (.long p0), .second, .val (.long p1), .second, .val (.long p2), .second, .val (.long p3), .second, .val (.long p4), .second, .val (.int p5), .val (.ref b101), .val (.long (if (p5 &&& (1 : Int32)) = (0 : Int32) then p3 else p0)), .second, .val (.long (if (p5 &&& (2 : Int32)) = (0 : Int32) then p4 else p1)), .second, .val (.long (if (p5 &&& (4 : Int32)) = (0 : Int32) then (p3 - p4) else p2)), .second, .val (.ref b114), .unset, .unset] [(.int (lcmpW (if (p5 &&& (2 : Int32)) = (0 : Int32) then p4 else p1) p1))])) _
        refine XS.ifYes X116.here hx rfl (pc0 := 88) (pc' := 103) rfl (hb hby at_88) rfl ((if0 _ _).trans (feq (fun q => hc120 ((lw_eq (if (p5 &&& (2 : Int32)) = (0 : Int32) then p4 else p1) p1).mp q))).2) (by decide) (by decide) ?_
        show Steps p.tables e below (T116.setTop (mkF m 103 #[.val (.long p0), .second, .val (.long p1), .second, .val (.long p2), .second, .val (.long p3), .second, .val (.long p4), .second, .val (.int p5), .val (.ref b101), .val (.long (if (p5 &&& (1 : Int32)) = (0 : Int32) then p3 else p0)), .second, .val (.long (if (p5 &&& (2 : Int32)) = (0 : Int32) then p4 else p1)), .second, .val (.long (if (p5 &&& (4 : Int32)) = (0 : Int32) then (p3 - p4) else p2)), .second, .val (.ref b114), .unset, .unset] [])) _
        refine XS.iconst X116.here hx rfl (hb hby at_103) ?_
        exact k
    · intro t k
      try simp only [if_neg hc118] at k
      refine S117 t ?_
      show Steps p.tables e below (T116.setTop (mkF m 81 #[.val (.long p0), .second, .val (.long p1), .second, .val (.long p2), .second, .val (.long p3), .second, .val (.long p4), .second, .val (.int p5), .val (.ref b101), .val (.long (if (p5 &&& (1 : Int32)) = (0 : Int32) then p3 else p0)), .second, .val (.long (if (p5 &&& (2 : Int32)) = (0 : Int32) then p4 else p1)), .second, .val (.long (if (p5 &&& (4 : Int32)) = (0 : Int32) then (p3 - p4) else p2)), .second, .val (.ref b114), .unset, .unset] [(.int (lcmpW (if (p5 &&& (1 : Int32)) = (0 : Int32) then p3 else p0) p0))])) _
      refine XS.ifYes X116.here hx rfl (pc0 := 81) (pc' := 103) rfl (hb hby at_81) rfl ((if0 _ _).trans (feq (fun q => hc118 ((lw_eq (if (p5 &&& (1 : Int32)) = (0 : Int32) then p3 else p0) p0).mp q))).2) (by decide) (by decide) ?_
      show Steps p.tables e below (T116.setTop (mkF m 103 #[.val (.long p0), .second, .val (.long p1), .second, .val (.long p2), .second, .val (.long p3), .second, .val (.long p4), .second, .val (.int p5), .val (.ref b101), .val (.long (if (p5 &&& (1 : Int32)) = (0 : Int32) then p3 else p0)), .second, .val (.long (if (p5 &&& (2 : Int32)) = (0 : Int32) then p4 else p1)), .second, .val (.long (if (p5 &&& (4 : Int32)) = (0 : Int32) then (p3 - p4) else p2)), .second, .val (.ref b114), .unset, .unset] [])) _
      refine XS.iconst X116.here hx rfl (hb hby at_103) ?_
      exact k
  have S123 : ∀ t, Steps p.tables e below (T116.setTop (mkF m 117 #[.val (.long p0), .second, .val (.long p1), .second, .val (.long p2), .second, .val (.long p3), .second, .val (.long p4), .second, .val (.int p5), .val (.ref b101), .val (.long (if (p5 &&& (1 : Int32)) = (0 : Int32) then p3 else p0)), .second, .val (.long (if (p5 &&& (2 : Int32)) = (0 : Int32) then p4 else p1)), .second, .val (.long (if (p5 &&& (4 : Int32)) = (0 : Int32) then (p3 - p4) else p2)), .second, .val (.ref b114), .val (.int (if (if (p5 &&& (1 : Int32)) = (0 : Int32) then p3 else p0) = p0 then (if (if (p5 &&& (2 : Int32)) = (0 : Int32) then p4 else p1) = p1 then (if (if (p5 &&& (4 : Int32)) = (0 : Int32) then (p3 - p4) else p2) = p2 then (1 : Int32) else (0 : Int32)) else (0 : Int32)) else (0 : Int32))), .val (.int (((p5.toUInt32 >>> ((3 : Int32) &&& 31).toUInt32).toInt32) &&& (3 : Int32)))] [(.int (1 : Int32)), (.int (((p5.toUInt32 >>> ((3 : Int32) &&& 31).toUInt32).toInt32) &&& (3 : Int32)))])) t → Steps p.tables e below (s₁.setTop (entryFrame m #[(.long p0), (.long p1), (.long p2), (.long p3), (.long p4), (.int p5)] maxLocals)) t := fun t k => by
    refine S119 t ?_
    show Steps p.tables e below (T116.setTop (mkF m 104 #[.val (.long p0), .second, .val (.long p1), .second, .val (.long p2), .second, .val (.long p3), .second, .val (.long p4), .second, .val (.int p5), .val (.ref b101), .val (.long (if (p5 &&& (1 : Int32)) = (0 : Int32) then p3 else p0)), .second, .val (.long (if (p5 &&& (2 : Int32)) = (0 : Int32) then p4 else p1)), .second, .val (.long (if (p5 &&& (4 : Int32)) = (0 : Int32) then (p3 - p4) else p2)), .second, .val (.ref b114), .unset, .unset] [(.int (if (if (p5 &&& (1 : Int32)) = (0 : Int32) then p3 else p0) = p0 then (if (if (p5 &&& (2 : Int32)) = (0 : Int32) then p4 else p1) = p1 then (if (if (p5 &&& (4 : Int32)) = (0 : Int32) then (p3 - p4) else p2) = p2 then (1 : Int32) else (0 : Int32)) else (0 : Int32)) else (0 : Int32)))])) _
    refine XS.istore X116.here hx rfl (hb hby at_104) rfl (l' := #[.val (.long p0), .second, .val (.long p1), .second, .val (.long p2), .second, .val (.long p3), .second, .val (.long p4), .second, .val (.int p5), .val (.ref b101), .val (.long (if (p5 &&& (1 : Int32)) = (0 : Int32) then p3 else p0)), .second, .val (.long (if (p5 &&& (2 : Int32)) = (0 : Int32) then p4 else p1)), .second, .val (.long (if (p5 &&& (4 : Int32)) = (0 : Int32) then (p3 - p4) else p2)), .second, .val (.ref b114), .val (.int (if (if (p5 &&& (1 : Int32)) = (0 : Int32) then p3 else p0) = p0 then (if (if (p5 &&& (2 : Int32)) = (0 : Int32) then p4 else p1) = p1 then (if (if (p5 &&& (4 : Int32)) = (0 : Int32) then (p3 - p4) else p2) = p2 then (1 : Int32) else (0 : Int32)) else (0 : Int32)) else (0 : Int32))), .unset]) rfl ?_
    show Steps p.tables e below (T116.setTop (mkF m 106 #[.val (.long p0), .second, .val (.long p1), .second, .val (.long p2), .second, .val (.long p3), .second, .val (.long p4), .second, .val (.int p5), .val (.ref b101), .val (.long (if (p5 &&& (1 : Int32)) = (0 : Int32) then p3 else p0)), .second, .val (.long (if (p5 &&& (2 : Int32)) = (0 : Int32) then p4 else p1)), .second, .val (.long (if (p5 &&& (4 : Int32)) = (0 : Int32) then (p3 - p4) else p2)), .second, .val (.ref b114), .val (.int (if (if (p5 &&& (1 : Int32)) = (0 : Int32) then p3 else p0) = p0 then (if (if (p5 &&& (2 : Int32)) = (0 : Int32) then p4 else p1) = p1 then (if (if (p5 &&& (4 : Int32)) = (0 : Int32) then (p3 - p4) else p2) = p2 then (1 : Int32) else (0 : Int32)) else (0 : Int32)) else (0 : Int32))), .unset] [])) _
    refine XS.iload X116.here hx rfl (hb hby at_106) rfl ?_
    show Steps p.tables e below (T116.setTop (mkF m 108 #[.val (.long p0), .second, .val (.long p1), .second, .val (.long p2), .second, .val (.long p3), .second, .val (.long p4), .second, .val (.int p5), .val (.ref b101), .val (.long (if (p5 &&& (1 : Int32)) = (0 : Int32) then p3 else p0)), .second, .val (.long (if (p5 &&& (2 : Int32)) = (0 : Int32) then p4 else p1)), .second, .val (.long (if (p5 &&& (4 : Int32)) = (0 : Int32) then (p3 - p4) else p2)), .second, .val (.ref b114), .val (.int (if (if (p5 &&& (1 : Int32)) = (0 : Int32) then p3 else p0) = p0 then (if (if (p5 &&& (2 : Int32)) = (0 : Int32) then p4 else p1) = p1 then (if (if (p5 &&& (4 : Int32)) = (0 : Int32) then (p3 - p4) else p2) = p2 then (1 : Int32) else (0 : Int32)) else (0 : Int32)) else (0 : Int32))), .unset] [(.int p5)])) _
    refine XS.iconst X116.here hx rfl (hb hby at_108) ?_
    show Steps p.tables e below (T116.setTop (mkF m 109 #[.val (.long p0), .second, .val (.long p1), .second, .val (.long p2), .second, .val (.long p3), .second, .val (.long p4), .second, .val (.int p5), .val (.ref b101), .val (.long (if (p5 &&& (1 : Int32)) = (0 : Int32) then p3 else p0)), .second, .val (.long (if (p5 &&& (2 : Int32)) = (0 : Int32) then p4 else p1)), .second, .val (.long (if (p5 &&& (4 : Int32)) = (0 : Int32) then (p3 - p4) else p2)), .second, .val (.ref b114), .val (.int (if (if (p5 &&& (1 : Int32)) = (0 : Int32) then p3 else p0) = p0 then (if (if (p5 &&& (2 : Int32)) = (0 : Int32) then p4 else p1) = p1 then (if (if (p5 &&& (4 : Int32)) = (0 : Int32) then (p3 - p4) else p2) = p2 then (1 : Int32) else (0 : Int32)) else (0 : Int32)) else (0 : Int32))), .unset] [(.int (3 : Int32)), (.int p5)])) _
    refine XS.iushr X116.here hx rfl (hb hby at_109) rfl ?_
    show Steps p.tables e below (T116.setTop (mkF m 110 #[.val (.long p0), .second, .val (.long p1), .second, .val (.long p2), .second, .val (.long p3), .second, .val (.long p4), .second, .val (.int p5), .val (.ref b101), .val (.long (if (p5 &&& (1 : Int32)) = (0 : Int32) then p3 else p0)), .second, .val (.long (if (p5 &&& (2 : Int32)) = (0 : Int32) then p4 else p1)), .second, .val (.long (if (p5 &&& (4 : Int32)) = (0 : Int32) then (p3 - p4) else p2)), .second, .val (.ref b114), .val (.int (if (if (p5 &&& (1 : Int32)) = (0 : Int32) then p3 else p0) = p0 then (if (if (p5 &&& (2 : Int32)) = (0 : Int32) then p4 else p1) = p1 then (if (if (p5 &&& (4 : Int32)) = (0 : Int32) then (p3 - p4) else p2) = p2 then (1 : Int32) else (0 : Int32)) else (0 : Int32)) else (0 : Int32))), .unset] [(.int ((p5.toUInt32 >>> ((3 : Int32) &&& 31).toUInt32).toInt32))])) _
    refine XS.iconst X116.here hx rfl (hb hby at_110) ?_
    show Steps p.tables e below (T116.setTop (mkF m 111 #[.val (.long p0), .second, .val (.long p1), .second, .val (.long p2), .second, .val (.long p3), .second, .val (.long p4), .second, .val (.int p5), .val (.ref b101), .val (.long (if (p5 &&& (1 : Int32)) = (0 : Int32) then p3 else p0)), .second, .val (.long (if (p5 &&& (2 : Int32)) = (0 : Int32) then p4 else p1)), .second, .val (.long (if (p5 &&& (4 : Int32)) = (0 : Int32) then (p3 - p4) else p2)), .second, .val (.ref b114), .val (.int (if (if (p5 &&& (1 : Int32)) = (0 : Int32) then p3 else p0) = p0 then (if (if (p5 &&& (2 : Int32)) = (0 : Int32) then p4 else p1) = p1 then (if (if (p5 &&& (4 : Int32)) = (0 : Int32) then (p3 - p4) else p2) = p2 then (1 : Int32) else (0 : Int32)) else (0 : Int32)) else (0 : Int32))), .unset] [(.int (3 : Int32)), (.int ((p5.toUInt32 >>> ((3 : Int32) &&& 31).toUInt32).toInt32))])) _
    refine XS.iand X116.here hx rfl (hb hby at_111) rfl ?_
    show Steps p.tables e below (T116.setTop (mkF m 112 #[.val (.long p0), .second, .val (.long p1), .second, .val (.long p2), .second, .val (.long p3), .second, .val (.long p4), .second, .val (.int p5), .val (.ref b101), .val (.long (if (p5 &&& (1 : Int32)) = (0 : Int32) then p3 else p0)), .second, .val (.long (if (p5 &&& (2 : Int32)) = (0 : Int32) then p4 else p1)), .second, .val (.long (if (p5 &&& (4 : Int32)) = (0 : Int32) then (p3 - p4) else p2)), .second, .val (.ref b114), .val (.int (if (if (p5 &&& (1 : Int32)) = (0 : Int32) then p3 else p0) = p0 then (if (if (p5 &&& (2 : Int32)) = (0 : Int32) then p4 else p1) = p1 then (if (if (p5 &&& (4 : Int32)) = (0 : Int32) then (p3 - p4) else p2) = p2 then (1 : Int32) else (0 : Int32)) else (0 : Int32)) else (0 : Int32))), .unset] [(.int (((p5.toUInt32 >>> ((3 : Int32) &&& 31).toUInt32).toInt32) &&& (3 : Int32)))])) _
    refine XS.istore X116.here hx rfl (hb hby at_112) rfl (l' := #[.val (.long p0), .second, .val (.long p1), .second, .val (.long p2), .second, .val (.long p3), .second, .val (.long p4), .second, .val (.int p5), .val (.ref b101), .val (.long (if (p5 &&& (1 : Int32)) = (0 : Int32) then p3 else p0)), .second, .val (.long (if (p5 &&& (2 : Int32)) = (0 : Int32) then p4 else p1)), .second, .val (.long (if (p5 &&& (4 : Int32)) = (0 : Int32) then (p3 - p4) else p2)), .second, .val (.ref b114), .val (.int (if (if (p5 &&& (1 : Int32)) = (0 : Int32) then p3 else p0) = p0 then (if (if (p5 &&& (2 : Int32)) = (0 : Int32) then p4 else p1) = p1 then (if (if (p5 &&& (4 : Int32)) = (0 : Int32) then (p3 - p4) else p2) = p2 then (1 : Int32) else (0 : Int32)) else (0 : Int32)) else (0 : Int32))), .val (.int (((p5.toUInt32 >>> ((3 : Int32) &&& 31).toUInt32).toInt32) &&& (3 : Int32)))]) rfl ?_
    show Steps p.tables e below (T116.setTop (mkF m 114 #[.val (.long p0), .second, .val (.long p1), .second, .val (.long p2), .second, .val (.long p3), .second, .val (.long p4), .second, .val (.int p5), .val (.ref b101), .val (.long (if (p5 &&& (1 : Int32)) = (0 : Int32) then p3 else p0)), .second, .val (.long (if (p5 &&& (2 : Int32)) = (0 : Int32) then p4 else p1)), .second, .val (.long (if (p5 &&& (4 : Int32)) = (0 : Int32) then (p3 - p4) else p2)), .second, .val (.ref b114), .val (.int (if (if (p5 &&& (1 : Int32)) = (0 : Int32) then p3 else p0) = p0 then (if (if (p5 &&& (2 : Int32)) = (0 : Int32) then p4 else p1) = p1 then (if (if (p5 &&& (4 : Int32)) = (0 : Int32) then (p3 - p4) else p2) = p2 then (1 : Int32) else (0 : Int32)) else (0 : Int32)) else (0 : Int32))), .val (.int (((p5.toUInt32 >>> ((3 : Int32) &&& 31).toUInt32).toInt32) &&& (3 : Int32)))] [])) _
    refine XS.iload X116.here hx rfl (hb hby at_114) rfl ?_
    show Steps p.tables e below (T116.setTop (mkF m 116 #[.val (.long p0), .second, .val (.long p1), .second, .val (.long p2), .second, .val (.long p3), .second, .val (.long p4), .second, .val (.int p5), .val (.ref b101), .val (.long (if (p5 &&& (1 : Int32)) = (0 : Int32) then p3 else p0)), .second, .val (.long (if (p5 &&& (2 : Int32)) = (0 : Int32) then p4 else p1)), .second, .val (.long (if (p5 &&& (4 : Int32)) = (0 : Int32) then (p3 - p4) else p2)), .second, .val (.ref b114), .val (.int (if (if (p5 &&& (1 : Int32)) = (0 : Int32) then p3 else p0) = p0 then (if (if (p5 &&& (2 : Int32)) = (0 : Int32) then p4 else p1) = p1 then (if (if (p5 &&& (4 : Int32)) = (0 : Int32) then (p3 - p4) else p2) = p2 then (1 : Int32) else (0 : Int32)) else (0 : Int32)) else (0 : Int32))), .val (.int (((p5.toUInt32 >>> ((3 : Int32) &&& 31).toUInt32).toInt32) &&& (3 : Int32)))] [(.int (((p5.toUInt32 >>> ((3 : Int32) &&& 31).toUInt32).toInt32) &&& (3 : Int32)))])) _
    refine XS.iconst X116.here hx rfl (hb hby at_116) ?_
    exact k
  by_cases hc122 : (((p5.toUInt32 >>> ((3 : Int32) &&& 31).toUInt32).toInt32) &&& (3 : Int32)) = (1 : Int32)
  · have O124 : Old Z n0 T116.heap := Old.keep O115 K116 (allS g_b114 all0)
    have c126 : Exa Z T116.heap b101 "com/example/bill_run/billrun/InputCounts" := (Exa.keep (Exa.ext E114 f103_0) K116)
    obtain ⟨cq125, kq125, q125a, q125b, q125c⟩ := isOf hZ (rfl : T116.heap = T116.heap) c126
    obtain ⟨_, _, ⟨T125, L125, k125, n125⟩, -, X125, ⟨Lc125, hQ125, l125, y125, z125⟩, st125⟩ := X116.virtualBack hx (y := (⟨"com/example/bill_run/billrun/InputCounts", "equals", "(Ljava/lang/Object;)Z"⟩ : MethodName)) (z := (⟨"com/example/bill_run/billrun/InputCounts", "equals", "(Ljava/lang/Object;)Z"⟩ : MethodName)) hown (mvT hZ (hwk hw 15 rfl)) (mvT hZ (hwk hw 16 rfl)) (notFace_of_selects (args := #[]) (mvT hZ (hwk hw 18 rfl))) (mvT hZ (hwk hw 18 rfl)) (mvT hZ (hwk hw 17 rfl)) (by decide) (backOf (W := 0) (rm3n l Z a0 hw [] b101 T116.heap n0 O124 ) hZ (hwk hw 19 rfl) (hwk hw 2 rfl) (by decide) (by decide)) q125a q125c (g := (mkF m 123 #[.val (.long p0), .second, .val (.long p1), .second, .val (.long p2), .second, .val (.long p3), .second, .val (.long p4), .second, .val (.int p5), .val (.ref b101), .val (.long (if (p5 &&& (1 : Int32)) = (0 : Int32) then p3 else p0)), .second, .val (.long (if (p5 &&& (2 : Int32)) = (0 : Int32) then p4 else p1)), .second, .val (.long (if (p5 &&& (4 : Int32)) = (0 : Int32) then (p3 - p4) else p2)), .second, .val (.ref b114), .val (.int (if (if (p5 &&& (1 : Int32)) = (0 : Int32) then p3 else p0) = p0 then (if (if (p5 &&& (2 : Int32)) = (0 : Int32) then p4 else p1) = p1 then (if (if (p5 &&& (4 : Int32)) = (0 : Int32) then (p3 - p4) else p2) = p2 then (1 : Int32) else (0 : Int32)) else (0 : Int32)) else (0 : Int32))), .val (.int (((p5.toUInt32 >>> ((3 : Int32) &&& 31).toUInt32).toInt32) &&& (3 : Int32)))] [.null, (.ref b101)])) rfl (by rw [hml]; rfl) (Steps.refl _) (argsL := [.null]) (rest := []) (lenOf pd_3 rfl) rfl (by show 2 * 0 + _ ≤ _; exact Nat.le_of_eq rfl) (hb hby at_123) (fun _ _ => ⟨rfl, (rfl : T116.heap = T116.heap), (by decide : 2 + 0 ≤ _), (by decide : 6 + 0 ≤ _)⟩)
    dsimp only [Pt.U, Pt.locs, Pt.cells, Pt.slots] at X125 l125 y125 z125 st125 hQ125
    subst l125 y125 z125
    unfold Q_rm3n at hQ125
    obtain ⟨rfl, N125q, e125⟩ := hQ125
    have N125 := Fr.app N116 N125q
    have K127 : Keep h0 h101 [] := Keep.ext (Keep.refl h0 []) E101
    have K128 : Keep h0 T103.heap [] := Keep.trans K127 K103 (allS (Or.inr (Nat.le_trans (Nat.le_refl _) (Nat.le_of_eq g101.symm))) all0)
    have K129 : Keep h0 h114 [] := Keep.ext K128 E114
    have K130 : Keep h0 T116.heap [] := Keep.trans K129 K116 (allS (Or.inr (Nat.le_trans (Nat.le_trans (Nat.le_trans (Nat.le_refl _) E101.1) K103.1) (Nat.le_of_eq g114.symm))) all0)
    obtain ⟨fs, hr, hrun, hended, hW, hsame⟩ := X125.leave (v := some (.int (1 : Int32))) (fun h => by rw [Bd.returns] at h; cases h)
    refine ⟨_, _, S123 _ ?_, hrun, hended, _, _, rfl, ?_, ⟨_, rfl⟩, hW, hsame.mono (by decide) (by decide)⟩
    · show Steps p.tables e below (T116.setTop (mkF m 117 #[.val (.long p0), .second, .val (.long p1), .second, .val (.long p2), .second, .val (.long p3), .second, .val (.long p4), .second, .val (.int p5), .val (.ref b101), .val (.long (if (p5 &&& (1 : Int32)) = (0 : Int32) then p3 else p0)), .second, .val (.long (if (p5 &&& (2 : Int32)) = (0 : Int32) then p4 else p1)), .second, .val (.long (if (p5 &&& (4 : Int32)) = (0 : Int32) then (p3 - p4) else p2)), .second, .val (.ref b114), .val (.int (if (if (p5 &&& (1 : Int32)) = (0 : Int32) then p3 else p0) = p0 then (if (if (p5 &&& (2 : Int32)) = (0 : Int32) then p4 else p1) = p1 then (if (if (p5 &&& (4 : Int32)) = (0 : Int32) then (p3 - p4) else p2) = p2 then (1 : Int32) else (0 : Int32)) else (0 : Int32)) else (0 : Int32))), .val (.int (((p5.toUInt32 >>> ((3 : Int32) &&& 31).toUInt32).toInt32) &&& (3 : Int32)))] [(.int (1 : Int32)), (.int (((p5.toUInt32 >>> ((3 : Int32) &&& 31).toUInt32).toInt32) &&& (3 : Int32)))])) _
      refine XS.icmpNo X116.here hx rfl (hb hby at_117) rfl (teq hc122).2 ?_
      show Steps p.tables e below (T116.setTop (mkF m 120 #[.val (.long p0), .second, .val (.long p1), .second, .val (.long p2), .second, .val (.long p3), .second, .val (.long p4), .second, .val (.int p5), .val (.ref b101), .val (.long (if (p5 &&& (1 : Int32)) = (0 : Int32) then p3 else p0)), .second, .val (.long (if (p5 &&& (2 : Int32)) = (0 : Int32) then p4 else p1)), .second, .val (.long (if (p5 &&& (4 : Int32)) = (0 : Int32) then (p3 - p4) else p2)), .second, .val (.ref b114), .val (.int (if (if (p5 &&& (1 : Int32)) = (0 : Int32) then p3 else p0) = p0 then (if (if (p5 &&& (2 : Int32)) = (0 : Int32) then p4 else p1) = p1 then (if (if (p5 &&& (4 : Int32)) = (0 : Int32) then (p3 - p4) else p2) = p2 then (1 : Int32) else (0 : Int32)) else (0 : Int32)) else (0 : Int32))), .val (.int (((p5.toUInt32 >>> ((3 : Int32) &&& 31).toUInt32).toInt32) &&& (3 : Int32)))] [])) _
      refine XS.aload X116.here hx rfl (hb hby at_120) rfl rfl ?_
      show Steps p.tables e below (T116.setTop (mkF m 122 #[.val (.long p0), .second, .val (.long p1), .second, .val (.long p2), .second, .val (.long p3), .second, .val (.long p4), .second, .val (.int p5), .val (.ref b101), .val (.long (if (p5 &&& (1 : Int32)) = (0 : Int32) then p3 else p0)), .second, .val (.long (if (p5 &&& (2 : Int32)) = (0 : Int32) then p4 else p1)), .second, .val (.long (if (p5 &&& (4 : Int32)) = (0 : Int32) then (p3 - p4) else p2)), .second, .val (.ref b114), .val (.int (if (if (p5 &&& (1 : Int32)) = (0 : Int32) then p3 else p0) = p0 then (if (if (p5 &&& (2 : Int32)) = (0 : Int32) then p4 else p1) = p1 then (if (if (p5 &&& (4 : Int32)) = (0 : Int32) then (p3 - p4) else p2) = p2 then (1 : Int32) else (0 : Int32)) else (0 : Int32)) else (0 : Int32))), .val (.int (((p5.toUInt32 >>> ((3 : Int32) &&& 31).toUInt32).toInt32) &&& (3 : Int32)))] [(.ref b101)])) _
      refine XS.aconstNull X116.here hx rfl (hb hby at_122) ?_
      show Steps p.tables e below (T116.setTop (mkF m 123 #[.val (.long p0), .second, .val (.long p1), .second, .val (.long p2), .second, .val (.long p3), .second, .val (.long p4), .second, .val (.int p5), .val (.ref b101), .val (.long (if (p5 &&& (1 : Int32)) = (0 : Int32) then p3 else p0)), .second, .val (.long (if (p5 &&& (2 : Int32)) = (0 : Int32) then p4 else p1)), .second, .val (.long (if (p5 &&& (4 : Int32)) = (0 : Int32) then (p3 - p4) else p2)), .second, .val (.ref b114), .val (.int (if (if (p5 &&& (1 : Int32)) = (0 : Int32) then p3 else p0) = p0 then (if (if (p5 &&& (2 : Int32)) = (0 : Int32) then p4 else p1) = p1 then (if (if (p5 &&& (4 : Int32)) = (0 : Int32) then (p3 - p4) else p2) = p2 then (1 : Int32) else (0 : Int32)) else (0 : Int32)) else (0 : Int32))), .val (.int (((p5.toUInt32 >>> ((3 : Int32) &&& 31).toUInt32).toInt32) &&& (3 : Int32)))] [.null, (.ref b101)])) _
      refine st125.trans ?_
      show Steps p.tables e below (T125.setTop (mkF m 126 #[.val (.long p0), .second, .val (.long p1), .second, .val (.long p2), .second, .val (.long p3), .second, .val (.long p4), .second, .val (.int p5), .val (.ref b101), .val (.long (if (p5 &&& (1 : Int32)) = (0 : Int32) then p3 else p0)), .second, .val (.long (if (p5 &&& (2 : Int32)) = (0 : Int32) then p4 else p1)), .second, .val (.long (if (p5 &&& (4 : Int32)) = (0 : Int32) then (p3 - p4) else p2)), .second, .val (.ref b114), .val (.int (if (if (p5 &&& (1 : Int32)) = (0 : Int32) then p3 else p0) = p0 then (if (if (p5 &&& (2 : Int32)) = (0 : Int32) then p4 else p1) = p1 then (if (if (p5 &&& (4 : Int32)) = (0 : Int32) then (p3 - p4) else p2) = p2 then (1 : Int32) else (0 : Int32)) else (0 : Int32)) else (0 : Int32))), .val (.int (((p5.toUInt32 >>> ((3 : Int32) &&& 31).toUInt32).toInt32) &&& (3 : Int32)))] [(.int (0 : Int32))])) _
      refine XS.ifNo X125.here hx rfl (hb hby at_126) rfl ((if0 _ _).trans (teq (by decide : (0 : Int32) = (0 : Int32))).2) ?_
      show Steps p.tables e below (T125.setTop (mkF m 129 #[.val (.long p0), .second, .val (.long p1), .second, .val (.long p2), .second, .val (.long p3), .second, .val (.long p4), .second, .val (.int p5), .val (.ref b101), .val (.long (if (p5 &&& (1 : Int32)) = (0 : Int32) then p3 else p0)), .second, .val (.long (if (p5 &&& (2 : Int32)) = (0 : Int32) then p4 else p1)), .second, .val (.long (if (p5 &&& (4 : Int32)) = (0 : Int32) then (p3 - p4) else p2)), .second, .val (.ref b114), .val (.int (if (if (p5 &&& (1 : Int32)) = (0 : Int32) then p3 else p0) = p0 then (if (if (p5 &&& (2 : Int32)) = (0 : Int32) then p4 else p1) = p1 then (if (if (p5 &&& (4 : Int32)) = (0 : Int32) then (p3 - p4) else p2) = p2 then (1 : Int32) else (0 : Int32)) else (0 : Int32)) else (0 : Int32))), .val (.int (((p5.toUInt32 >>> ((3 : Int32) &&& 31).toUInt32).toInt32) &&& (3 : Int32)))] [])) _
      refine XS.iconst X125.here hx rfl (hb hby at_129) ?_
      show Steps p.tables e below (T125.setTop (mkF m 130 #[.val (.long p0), .second, .val (.long p1), .second, .val (.long p2), .second, .val (.long p3), .second, .val (.long p4), .second, .val (.int p5), .val (.ref b101), .val (.long (if (p5 &&& (1 : Int32)) = (0 : Int32) then p3 else p0)), .second, .val (.long (if (p5 &&& (2 : Int32)) = (0 : Int32) then p4 else p1)), .second, .val (.long (if (p5 &&& (4 : Int32)) = (0 : Int32) then (p3 - p4) else p2)), .second, .val (.ref b114), .val (.int (if (if (p5 &&& (1 : Int32)) = (0 : Int32) then p3 else p0) = p0 then (if (if (p5 &&& (2 : Int32)) = (0 : Int32) then p4 else p1) = p1 then (if (if (p5 &&& (4 : Int32)) = (0 : Int32) then (p3 - p4) else p2) = p2 then (1 : Int32) else (0 : Int32)) else (0 : Int32)) else (0 : Int32))), .val (.int (((p5.toUInt32 >>> ((3 : Int32) &&& 31).toUInt32).toInt32) &&& (3 : Int32)))] [(.int (1 : Int32))])) _
      refine XS.goto X125.here hx rfl (pc0 := 130) (pc' := 134) rfl (hb hby at_130) (by decide) (by decide) ?_
      show Steps p.tables e below (T125.setTop (mkF m 134 #[.val (.long p0), .second, .val (.long p1), .second, .val (.long p2), .second, .val (.long p3), .second, .val (.long p4), .second, .val (.int p5), .val (.ref b101), .val (.long (if (p5 &&& (1 : Int32)) = (0 : Int32) then p3 else p0)), .second, .val (.long (if (p5 &&& (2 : Int32)) = (0 : Int32) then p4 else p1)), .second, .val (.long (if (p5 &&& (4 : Int32)) = (0 : Int32) then (p3 - p4) else p2)), .second, .val (.ref b114), .val (.int (if (if (p5 &&& (1 : Int32)) = (0 : Int32) then p3 else p0) = p0 then (if (if (p5 &&& (2 : Int32)) = (0 : Int32) then p4 else p1) = p1 then (if (if (p5 &&& (4 : Int32)) = (0 : Int32) then (p3 - p4) else p2) = p2 then (1 : Int32) else (0 : Int32)) else (0 : Int32)) else (0 : Int32))), .val (.int (((p5.toUInt32 >>> ((3 : Int32) &&& 31).toUInt32).toInt32) &&& (3 : Int32)))] [(.int (1 : Int32))])) _
      exact Jvm.RoadKit.retOut X125 hx Bd.returns rfl (Or.inl ⟨rfl, by simp, _, rfl⟩) (hb hby at_134) hr
    · show Q_rm0 Z p0 p1 p2 p3 p4 p5 wc cw h0 n0 _ T125.heap _
      rw [e125]
      unfold Q_rm0
      exact ⟨rfl, N125, K130⟩
  · have S132 : ∀ t, Steps p.tables e below (T116.setTop (mkF m 138 #[.val (.long p0), .second, .val (.long p1), .second, .val (.long p2), .second, .val (.long p3), .second, .val (.long p4), .second, .val (.int p5), .val (.ref b101), .val (.long (if (p5 &&& (1 : Int32)) = (0 : Int32) then p3 else p0)), .second, .val (.long (if (p5 &&& (2 : Int32)) = (0 : Int32) then p4 else p1)), .second, .val (.long (if (p5 &&& (4 : Int32)) = (0 : Int32) then (p3 - p4) else p2)), .second, .val (.ref b114), .val (.int (if (if (p5 &&& (1 : Int32)) = (0 : Int32) then p3 else p0) = p0 then (if (if (p5 &&& (2 : Int32)) = (0 : Int32) then p4 else p1) = p1 then (if (if (p5 &&& (4 : Int32)) = (0 : Int32) then (p3 - p4) else p2) = p2 then (1 : Int32) else (0 : Int32)) else (0 : Int32)) else (0 : Int32))), .val (.int (((p5.toUInt32 >>> ((3 : Int32) &&& 31).toUInt32).toInt32) &&& (3 : Int32)))] [(.int (2 : Int32)), (.int (((p5.toUInt32 >>> ((3 : Int32) &&& 31).toUInt32).toInt32) &&& (3 : Int32)))])) t → Steps p.tables e below (s₁.setTop (entryFrame m #[(.long p0), (.long p1), (.long p2), (.long p3), (.long p4), (.int p5)] maxLocals)) t := fun t k => by
      refine S123 t ?_
      show Steps p.tables e below (T116.setTop (mkF m 117 #[.val (.long p0), .second, .val (.long p1), .second, .val (.long p2), .second, .val (.long p3), .second, .val (.long p4), .second, .val (.int p5), .val (.ref b101), .val (.long (if (p5 &&& (1 : Int32)) = (0 : Int32) then p3 else p0)), .second, .val (.long (if (p5 &&& (2 : Int32)) = (0 : Int32) then p4 else p1)), .second, .val (.long (if (p5 &&& (4 : Int32)) = (0 : Int32) then (p3 - p4) else p2)), .second, .val (.ref b114), .val (.int (if (if (p5 &&& (1 : Int32)) = (0 : Int32) then p3 else p0) = p0 then (if (if (p5 &&& (2 : Int32)) = (0 : Int32) then p4 else p1) = p1 then (if (if (p5 &&& (4 : Int32)) = (0 : Int32) then (p3 - p4) else p2) = p2 then (1 : Int32) else (0 : Int32)) else (0 : Int32)) else (0 : Int32))), .val (.int (((p5.toUInt32 >>> ((3 : Int32) &&& 31).toUInt32).toInt32) &&& (3 : Int32)))] [(.int (1 : Int32)), (.int (((p5.toUInt32 >>> ((3 : Int32) &&& 31).toUInt32).toInt32) &&& (3 : Int32)))])) _
      refine XS.icmpYes X116.here hx rfl (pc0 := 117) (pc' := 135) rfl (hb hby at_117) rfl (feq hc122).2 (by decide) (by decide) ?_
      show Steps p.tables e below (T116.setTop (mkF m 135 #[.val (.long p0), .second, .val (.long p1), .second, .val (.long p2), .second, .val (.long p3), .second, .val (.long p4), .second, .val (.int p5), .val (.ref b101), .val (.long (if (p5 &&& (1 : Int32)) = (0 : Int32) then p3 else p0)), .second, .val (.long (if (p5 &&& (2 : Int32)) = (0 : Int32) then p4 else p1)), .second, .val (.long (if (p5 &&& (4 : Int32)) = (0 : Int32) then (p3 - p4) else p2)), .second, .val (.ref b114), .val (.int (if (if (p5 &&& (1 : Int32)) = (0 : Int32) then p3 else p0) = p0 then (if (if (p5 &&& (2 : Int32)) = (0 : Int32) then p4 else p1) = p1 then (if (if (p5 &&& (4 : Int32)) = (0 : Int32) then (p3 - p4) else p2) = p2 then (1 : Int32) else (0 : Int32)) else (0 : Int32)) else (0 : Int32))), .val (.int (((p5.toUInt32 >>> ((3 : Int32) &&& 31).toUInt32).toInt32) &&& (3 : Int32)))] [])) _
      refine XS.iload X116.here hx rfl (hb hby at_135) rfl ?_
      show Steps p.tables e below (T116.setTop (mkF m 137 #[.val (.long p0), .second, .val (.long p1), .second, .val (.long p2), .second, .val (.long p3), .second, .val (.long p4), .second, .val (.int p5), .val (.ref b101), .val (.long (if (p5 &&& (1 : Int32)) = (0 : Int32) then p3 else p0)), .second, .val (.long (if (p5 &&& (2 : Int32)) = (0 : Int32) then p4 else p1)), .second, .val (.long (if (p5 &&& (4 : Int32)) = (0 : Int32) then (p3 - p4) else p2)), .second, .val (.ref b114), .val (.int (if (if (p5 &&& (1 : Int32)) = (0 : Int32) then p3 else p0) = p0 then (if (if (p5 &&& (2 : Int32)) = (0 : Int32) then p4 else p1) = p1 then (if (if (p5 &&& (4 : Int32)) = (0 : Int32) then (p3 - p4) else p2) = p2 then (1 : Int32) else (0 : Int32)) else (0 : Int32)) else (0 : Int32))), .val (.int (((p5.toUInt32 >>> ((3 : Int32) &&& 31).toUInt32).toInt32) &&& (3 : Int32)))] [(.int (((p5.toUInt32 >>> ((3 : Int32) &&& 31).toUInt32).toInt32) &&& (3 : Int32)))])) _
      refine XS.iconst X116.here hx rfl (hb hby at_137) ?_
      exact k
    by_cases hc131 : (((p5.toUInt32 >>> ((3 : Int32) &&& 31).toUInt32).toInt32) &&& (3 : Int32)) = (2 : Int32)
    · have O133 : Old Z n0 T116.heap := Old.keep O115 K116 (allS g_b114 all0)
      obtain ⟨_, _, ⟨T134, L134, k134, n134⟩, -, X134, ⟨Lc134, hQ134, l134, y134, z134⟩, st134⟩ := Jvm.LawKit.callS X116 hx (y := (⟨"java/lang/Long", "valueOf", "(J)Ljava/lang/Long;"⟩ : MethodName)) hown (mvT hZ (hwk hw 22 rfl)) (mvT hZ (hwk hw 23 rfl)) (mvT hZ (hwk hw 24 rfl)) (mvT hZ (hwk hw 25 rfl)) (by decide) (backOf (W := 1) (rm4 l Z a0 hw [] p0 wc cw T116.heap n0 O133 SC BX) hZ (hwk hw 25 rfl) (hwk hw 24 rfl) (by decide) (by decide)) (g := (mkF m 144 #[.val (.long p0), .second, .val (.long p1), .second, .val (.long p2), .second, .val (.long p3), .second, .val (.long p4), .second, .val (.int p5), .val (.ref b101), .val (.long (if (p5 &&& (1 : Int32)) = (0 : Int32) then p3 else p0)), .second, .val (.long (if (p5 &&& (2 : Int32)) = (0 : Int32) then p4 else p1)), .second, .val (.long (if (p5 &&& (4 : Int32)) = (0 : Int32) then (p3 - p4) else p2)), .second, .val (.ref b114), .val (.int (if (if (p5 &&& (1 : Int32)) = (0 : Int32) then p3 else p0) = p0 then (if (if (p5 &&& (2 : Int32)) = (0 : Int32) then p4 else p1) = p1 then (if (if (p5 &&& (4 : Int32)) = (0 : Int32) then (p3 - p4) else p2) = p2 then (1 : Int32) else (0 : Int32)) else (0 : Int32)) else (0 : Int32))), .val (.int (((p5.toUInt32 >>> ((3 : Int32) &&& 31).toUInt32).toInt32) &&& (3 : Int32)))] [(.long p0), (.ref b101)])) rfl (by rw [hml]; rfl) (argsL := [(.long p0)]) (rest := [(.ref b101)]) (lenOf pd_4 rfl) rfl (by show 2 * 0 + _ ≤ _; exact Nat.le_of_eq rfl) (hb hby at_144) (fun _ _ => ⟨rfl, (rfl : T116.heap = T116.heap), (by decide : 2 + 1 ≤ _), (by decide : 6 + 1 ≤ _)⟩)
      dsimp only [Pt.U, Pt.locs, Pt.cells, Pt.slots] at X134 l134 y134 z134 st134 hQ134
      subst l134 y134 z134
      unfold Q_rm4 at hQ134
      obtain ⟨b_134, rfl, N134q, K134, f134_0⟩ := hQ134
      have N134 := Fr.app N116 N134q
      have O135 : Old Z n0 T134.heap := Old.keep O133 K134 all0
      have c137 : Exa Z T134.heap b101 "com/example/bill_run/billrun/InputCounts" := (Exa.keep (Exa.keep (Exa.ext E114 f103_0) K116) K134)
      obtain ⟨cq136, kq136, q136a, q136b, q136c⟩ := isOf hZ (rfl : T134.heap = T134.heap) c137
      obtain ⟨_, _, ⟨T136, L136, k136, n136⟩, -, X136, ⟨Lc136, hQ136, l136, y136, z136⟩, st136⟩ := X134.virtualBack hx (y := (⟨"com/example/bill_run/billrun/InputCounts", "equals", "(Ljava/lang/Object;)Z"⟩ : MethodName)) (z := (⟨"com/example/bill_run/billrun/InputCounts", "equals", "(Ljava/lang/Object;)Z"⟩ : MethodName)) hown (mvT hZ (hwk hw 15 rfl)) (mvT hZ (hwk hw 16 rfl)) (notFace_of_selects (args := #[]) (mvT hZ (hwk hw 18 rfl))) (mvT hZ (hwk hw 18 rfl)) (mvT hZ (hwk hw 17 rfl)) (by decide) (backOf (W := 0) (rm3l l Z a0 hw [] b101 b_134 T134.heap n0 O135 f134_0) hZ (hwk hw 19 rfl) (hwk hw 2 rfl) (by decide) (by decide)) q136a q136c (g := (mkF m 147 #[.val (.long p0), .second, .val (.long p1), .second, .val (.long p2), .second, .val (.long p3), .second, .val (.long p4), .second, .val (.int p5), .val (.ref b101), .val (.long (if (p5 &&& (1 : Int32)) = (0 : Int32) then p3 else p0)), .second, .val (.long (if (p5 &&& (2 : Int32)) = (0 : Int32) then p4 else p1)), .second, .val (.long (if (p5 &&& (4 : Int32)) = (0 : Int32) then (p3 - p4) else p2)), .second, .val (.ref b114), .val (.int (if (if (p5 &&& (1 : Int32)) = (0 : Int32) then p3 else p0) = p0 then (if (if (p5 &&& (2 : Int32)) = (0 : Int32) then p4 else p1) = p1 then (if (if (p5 &&& (4 : Int32)) = (0 : Int32) then (p3 - p4) else p2) = p2 then (1 : Int32) else (0 : Int32)) else (0 : Int32)) else (0 : Int32))), .val (.int (((p5.toUInt32 >>> ((3 : Int32) &&& 31).toUInt32).toInt32) &&& (3 : Int32)))] [(.ref b_134), (.ref b101)])) rfl (by rw [hml]; rfl) (Steps.refl _) (argsL := [(.ref b_134)]) (rest := []) (lenOf pd_3 rfl) rfl (by show 2 * 0 + _ ≤ _; exact Nat.le_of_eq rfl) (hb hby at_147) (fun _ _ => ⟨rfl, (rfl : T134.heap = T134.heap), (by decide : 3 + 0 ≤ _), (by decide : 7 + 0 ≤ _)⟩)
      dsimp only [Pt.U, Pt.locs, Pt.cells, Pt.slots] at X136 l136 y136 z136 st136 hQ136
      subst l136 y136 z136
      unfold Q_rm3l at hQ136
      obtain ⟨rfl, N136q, e136⟩ := hQ136
      have N136 := Fr.app N134 N136q
      have K138 : Keep h0 h101 [] := Keep.ext (Keep.refl h0 []) E101
      have K139 : Keep h0 T103.heap [] := Keep.trans K138 K103 (allS (Or.inr (Nat.le_trans (Nat.le_refl _) (Nat.le_of_eq g101.symm))) all0)
      have K140 : Keep h0 h114 [] := Keep.ext K139 E114
      have K141 : Keep h0 T116.heap [] := Keep.trans K140 K116 (allS (Or.inr (Nat.le_trans (Nat.le_trans (Nat.le_trans (Nat.le_refl _) E101.1) K103.1) (Nat.le_of_eq g114.symm))) all0)
      have K142 : Keep h0 T134.heap [] := Keep.trans K141 K134 all0
      obtain ⟨fs, hr, hrun, hended, hW, hsame⟩ := X136.leave (v := some (.int (1 : Int32))) (fun h => by rw [Bd.returns] at h; cases h)
      refine ⟨_, _, S132 _ ?_, hrun, hended, _, _, rfl, ?_, ⟨_, rfl⟩, hW, hsame.mono (by decide) (by decide)⟩
      · show Steps p.tables e below (T116.setTop (mkF m 138 #[.val (.long p0), .second, .val (.long p1), .second, .val (.long p2), .second, .val (.long p3), .second, .val (.long p4), .second, .val (.int p5), .val (.ref b101), .val (.long (if (p5 &&& (1 : Int32)) = (0 : Int32) then p3 else p0)), .second, .val (.long (if (p5 &&& (2 : Int32)) = (0 : Int32) then p4 else p1)), .second, .val (.long (if (p5 &&& (4 : Int32)) = (0 : Int32) then (p3 - p4) else p2)), .second, .val (.ref b114), .val (.int (if (if (p5 &&& (1 : Int32)) = (0 : Int32) then p3 else p0) = p0 then (if (if (p5 &&& (2 : Int32)) = (0 : Int32) then p4 else p1) = p1 then (if (if (p5 &&& (4 : Int32)) = (0 : Int32) then (p3 - p4) else p2) = p2 then (1 : Int32) else (0 : Int32)) else (0 : Int32)) else (0 : Int32))), .val (.int (((p5.toUInt32 >>> ((3 : Int32) &&& 31).toUInt32).toInt32) &&& (3 : Int32)))] [(.int (2 : Int32)), (.int (((p5.toUInt32 >>> ((3 : Int32) &&& 31).toUInt32).toInt32) &&& (3 : Int32)))])) _
        refine XS.icmpNo X116.here hx rfl (hb hby at_138) rfl (teq hc131).2 ?_
        show Steps p.tables e below (T116.setTop (mkF m 141 #[.val (.long p0), .second, .val (.long p1), .second, .val (.long p2), .second, .val (.long p3), .second, .val (.long p4), .second, .val (.int p5), .val (.ref b101), .val (.long (if (p5 &&& (1 : Int32)) = (0 : Int32) then p3 else p0)), .second, .val (.long (if (p5 &&& (2 : Int32)) = (0 : Int32) then p4 else p1)), .second, .val (.long (if (p5 &&& (4 : Int32)) = (0 : Int32) then (p3 - p4) else p2)), .second, .val (.ref b114), .val (.int (if (if (p5 &&& (1 : Int32)) = (0 : Int32) then p3 else p0) = p0 then (if (if (p5 &&& (2 : Int32)) = (0 : Int32) then p4 else p1) = p1 then (if (if (p5 &&& (4 : Int32)) = (0 : Int32) then (p3 - p4) else p2) = p2 then (1 : Int32) else (0 : Int32)) else (0 : Int32)) else (0 : Int32))), .val (.int (((p5.toUInt32 >>> ((3 : Int32) &&& 31).toUInt32).toInt32) &&& (3 : Int32)))] [])) _
        refine XS.aload X116.here hx rfl (hb hby at_141) rfl rfl ?_
        show Steps p.tables e below (T116.setTop (mkF m 143 #[.val (.long p0), .second, .val (.long p1), .second, .val (.long p2), .second, .val (.long p3), .second, .val (.long p4), .second, .val (.int p5), .val (.ref b101), .val (.long (if (p5 &&& (1 : Int32)) = (0 : Int32) then p3 else p0)), .second, .val (.long (if (p5 &&& (2 : Int32)) = (0 : Int32) then p4 else p1)), .second, .val (.long (if (p5 &&& (4 : Int32)) = (0 : Int32) then (p3 - p4) else p2)), .second, .val (.ref b114), .val (.int (if (if (p5 &&& (1 : Int32)) = (0 : Int32) then p3 else p0) = p0 then (if (if (p5 &&& (2 : Int32)) = (0 : Int32) then p4 else p1) = p1 then (if (if (p5 &&& (4 : Int32)) = (0 : Int32) then (p3 - p4) else p2) = p2 then (1 : Int32) else (0 : Int32)) else (0 : Int32)) else (0 : Int32))), .val (.int (((p5.toUInt32 >>> ((3 : Int32) &&& 31).toUInt32).toInt32) &&& (3 : Int32)))] [(.ref b101)])) _
        refine XS.lloadN X116.here hx rfl (hb hby at_143) rfl ?_
        show Steps p.tables e below (T116.setTop (mkF m 144 #[.val (.long p0), .second, .val (.long p1), .second, .val (.long p2), .second, .val (.long p3), .second, .val (.long p4), .second, .val (.int p5), .val (.ref b101), .val (.long (if (p5 &&& (1 : Int32)) = (0 : Int32) then p3 else p0)), .second, .val (.long (if (p5 &&& (2 : Int32)) = (0 : Int32) then p4 else p1)), .second, .val (.long (if (p5 &&& (4 : Int32)) = (0 : Int32) then (p3 - p4) else p2)), .second, .val (.ref b114), .val (.int (if (if (p5 &&& (1 : Int32)) = (0 : Int32) then p3 else p0) = p0 then (if (if (p5 &&& (2 : Int32)) = (0 : Int32) then p4 else p1) = p1 then (if (if (p5 &&& (4 : Int32)) = (0 : Int32) then (p3 - p4) else p2) = p2 then (1 : Int32) else (0 : Int32)) else (0 : Int32)) else (0 : Int32))), .val (.int (((p5.toUInt32 >>> ((3 : Int32) &&& 31).toUInt32).toInt32) &&& (3 : Int32)))] [(.long p0), (.ref b101)])) _
        refine st134 _ ?_
        show Steps p.tables e below (T134.setTop (mkF m 147 #[.val (.long p0), .second, .val (.long p1), .second, .val (.long p2), .second, .val (.long p3), .second, .val (.long p4), .second, .val (.int p5), .val (.ref b101), .val (.long (if (p5 &&& (1 : Int32)) = (0 : Int32) then p3 else p0)), .second, .val (.long (if (p5 &&& (2 : Int32)) = (0 : Int32) then p4 else p1)), .second, .val (.long (if (p5 &&& (4 : Int32)) = (0 : Int32) then (p3 - p4) else p2)), .second, .val (.ref b114), .val (.int (if (if (p5 &&& (1 : Int32)) = (0 : Int32) then p3 else p0) = p0 then (if (if (p5 &&& (2 : Int32)) = (0 : Int32) then p4 else p1) = p1 then (if (if (p5 &&& (4 : Int32)) = (0 : Int32) then (p3 - p4) else p2) = p2 then (1 : Int32) else (0 : Int32)) else (0 : Int32)) else (0 : Int32))), .val (.int (((p5.toUInt32 >>> ((3 : Int32) &&& 31).toUInt32).toInt32) &&& (3 : Int32)))] [(.ref b_134), (.ref b101)])) _
        refine st136.trans ?_
        show Steps p.tables e below (T136.setTop (mkF m 150 #[.val (.long p0), .second, .val (.long p1), .second, .val (.long p2), .second, .val (.long p3), .second, .val (.long p4), .second, .val (.int p5), .val (.ref b101), .val (.long (if (p5 &&& (1 : Int32)) = (0 : Int32) then p3 else p0)), .second, .val (.long (if (p5 &&& (2 : Int32)) = (0 : Int32) then p4 else p1)), .second, .val (.long (if (p5 &&& (4 : Int32)) = (0 : Int32) then (p3 - p4) else p2)), .second, .val (.ref b114), .val (.int (if (if (p5 &&& (1 : Int32)) = (0 : Int32) then p3 else p0) = p0 then (if (if (p5 &&& (2 : Int32)) = (0 : Int32) then p4 else p1) = p1 then (if (if (p5 &&& (4 : Int32)) = (0 : Int32) then (p3 - p4) else p2) = p2 then (1 : Int32) else (0 : Int32)) else (0 : Int32)) else (0 : Int32))), .val (.int (((p5.toUInt32 >>> ((3 : Int32) &&& 31).toUInt32).toInt32) &&& (3 : Int32)))] [(.int (0 : Int32))])) _
        refine XS.ifNo X136.here hx rfl (hb hby at_150) rfl ((if0 _ _).trans (teq (by decide : (0 : Int32) = (0 : Int32))).2) ?_
        show Steps p.tables e below (T136.setTop (mkF m 153 #[.val (.long p0), .second, .val (.long p1), .second, .val (.long p2), .second, .val (.long p3), .second, .val (.long p4), .second, .val (.int p5), .val (.ref b101), .val (.long (if (p5 &&& (1 : Int32)) = (0 : Int32) then p3 else p0)), .second, .val (.long (if (p5 &&& (2 : Int32)) = (0 : Int32) then p4 else p1)), .second, .val (.long (if (p5 &&& (4 : Int32)) = (0 : Int32) then (p3 - p4) else p2)), .second, .val (.ref b114), .val (.int (if (if (p5 &&& (1 : Int32)) = (0 : Int32) then p3 else p0) = p0 then (if (if (p5 &&& (2 : Int32)) = (0 : Int32) then p4 else p1) = p1 then (if (if (p5 &&& (4 : Int32)) = (0 : Int32) then (p3 - p4) else p2) = p2 then (1 : Int32) else (0 : Int32)) else (0 : Int32)) else (0 : Int32))), .val (.int (((p5.toUInt32 >>> ((3 : Int32) &&& 31).toUInt32).toInt32) &&& (3 : Int32)))] [])) _
        refine XS.iconst X136.here hx rfl (hb hby at_153) ?_
        show Steps p.tables e below (T136.setTop (mkF m 154 #[.val (.long p0), .second, .val (.long p1), .second, .val (.long p2), .second, .val (.long p3), .second, .val (.long p4), .second, .val (.int p5), .val (.ref b101), .val (.long (if (p5 &&& (1 : Int32)) = (0 : Int32) then p3 else p0)), .second, .val (.long (if (p5 &&& (2 : Int32)) = (0 : Int32) then p4 else p1)), .second, .val (.long (if (p5 &&& (4 : Int32)) = (0 : Int32) then (p3 - p4) else p2)), .second, .val (.ref b114), .val (.int (if (if (p5 &&& (1 : Int32)) = (0 : Int32) then p3 else p0) = p0 then (if (if (p5 &&& (2 : Int32)) = (0 : Int32) then p4 else p1) = p1 then (if (if (p5 &&& (4 : Int32)) = (0 : Int32) then (p3 - p4) else p2) = p2 then (1 : Int32) else (0 : Int32)) else (0 : Int32)) else (0 : Int32))), .val (.int (((p5.toUInt32 >>> ((3 : Int32) &&& 31).toUInt32).toInt32) &&& (3 : Int32)))] [(.int (1 : Int32))])) _
        refine XS.goto X136.here hx rfl (pc0 := 154) (pc' := 158) rfl (hb hby at_154) (by decide) (by decide) ?_
        show Steps p.tables e below (T136.setTop (mkF m 158 #[.val (.long p0), .second, .val (.long p1), .second, .val (.long p2), .second, .val (.long p3), .second, .val (.long p4), .second, .val (.int p5), .val (.ref b101), .val (.long (if (p5 &&& (1 : Int32)) = (0 : Int32) then p3 else p0)), .second, .val (.long (if (p5 &&& (2 : Int32)) = (0 : Int32) then p4 else p1)), .second, .val (.long (if (p5 &&& (4 : Int32)) = (0 : Int32) then (p3 - p4) else p2)), .second, .val (.ref b114), .val (.int (if (if (p5 &&& (1 : Int32)) = (0 : Int32) then p3 else p0) = p0 then (if (if (p5 &&& (2 : Int32)) = (0 : Int32) then p4 else p1) = p1 then (if (if (p5 &&& (4 : Int32)) = (0 : Int32) then (p3 - p4) else p2) = p2 then (1 : Int32) else (0 : Int32)) else (0 : Int32)) else (0 : Int32))), .val (.int (((p5.toUInt32 >>> ((3 : Int32) &&& 31).toUInt32).toInt32) &&& (3 : Int32)))] [(.int (1 : Int32))])) _
        exact Jvm.RoadKit.retOut X136 hx Bd.returns rfl (Or.inl ⟨rfl, by simp, _, rfl⟩) (hb hby at_158) hr
      · show Q_rm0 Z p0 p1 p2 p3 p4 p5 wc cw h0 n0 _ T136.heap _
        rw [e136]
        unfold Q_rm0
        exact ⟨rfl, N136, K142⟩
    · have S144 : ∀ t, Steps p.tables e below (T116.setTop (mkF m 162 #[.val (.long p0), .second, .val (.long p1), .second, .val (.long p2), .second, .val (.long p3), .second, .val (.long p4), .second, .val (.int p5), .val (.ref b101), .val (.long (if (p5 &&& (1 : Int32)) = (0 : Int32) then p3 else p0)), .second, .val (.long (if (p5 &&& (2 : Int32)) = (0 : Int32) then p4 else p1)), .second, .val (.long (if (p5 &&& (4 : Int32)) = (0 : Int32) then (p3 - p4) else p2)), .second, .val (.ref b114), .val (.int (if (if (p5 &&& (1 : Int32)) = (0 : Int32) then p3 else p0) = p0 then (if (if (p5 &&& (2 : Int32)) = (0 : Int32) then p4 else p1) = p1 then (if (if (p5 &&& (4 : Int32)) = (0 : Int32) then (p3 - p4) else p2) = p2 then (1 : Int32) else (0 : Int32)) else (0 : Int32)) else (0 : Int32))), .val (.int (((p5.toUInt32 >>> ((3 : Int32) &&& 31).toUInt32).toInt32) &&& (3 : Int32)))] [(.int (3 : Int32)), (.int (((p5.toUInt32 >>> ((3 : Int32) &&& 31).toUInt32).toInt32) &&& (3 : Int32)))])) t → Steps p.tables e below (s₁.setTop (entryFrame m #[(.long p0), (.long p1), (.long p2), (.long p3), (.long p4), (.int p5)] maxLocals)) t := fun t k => by
        refine S132 t ?_
        show Steps p.tables e below (T116.setTop (mkF m 138 #[.val (.long p0), .second, .val (.long p1), .second, .val (.long p2), .second, .val (.long p3), .second, .val (.long p4), .second, .val (.int p5), .val (.ref b101), .val (.long (if (p5 &&& (1 : Int32)) = (0 : Int32) then p3 else p0)), .second, .val (.long (if (p5 &&& (2 : Int32)) = (0 : Int32) then p4 else p1)), .second, .val (.long (if (p5 &&& (4 : Int32)) = (0 : Int32) then (p3 - p4) else p2)), .second, .val (.ref b114), .val (.int (if (if (p5 &&& (1 : Int32)) = (0 : Int32) then p3 else p0) = p0 then (if (if (p5 &&& (2 : Int32)) = (0 : Int32) then p4 else p1) = p1 then (if (if (p5 &&& (4 : Int32)) = (0 : Int32) then (p3 - p4) else p2) = p2 then (1 : Int32) else (0 : Int32)) else (0 : Int32)) else (0 : Int32))), .val (.int (((p5.toUInt32 >>> ((3 : Int32) &&& 31).toUInt32).toInt32) &&& (3 : Int32)))] [(.int (2 : Int32)), (.int (((p5.toUInt32 >>> ((3 : Int32) &&& 31).toUInt32).toInt32) &&& (3 : Int32)))])) _
        refine XS.icmpYes X116.here hx rfl (pc0 := 138) (pc' := 159) rfl (hb hby at_138) rfl (feq hc131).2 (by decide) (by decide) ?_
        show Steps p.tables e below (T116.setTop (mkF m 159 #[.val (.long p0), .second, .val (.long p1), .second, .val (.long p2), .second, .val (.long p3), .second, .val (.long p4), .second, .val (.int p5), .val (.ref b101), .val (.long (if (p5 &&& (1 : Int32)) = (0 : Int32) then p3 else p0)), .second, .val (.long (if (p5 &&& (2 : Int32)) = (0 : Int32) then p4 else p1)), .second, .val (.long (if (p5 &&& (4 : Int32)) = (0 : Int32) then (p3 - p4) else p2)), .second, .val (.ref b114), .val (.int (if (if (p5 &&& (1 : Int32)) = (0 : Int32) then p3 else p0) = p0 then (if (if (p5 &&& (2 : Int32)) = (0 : Int32) then p4 else p1) = p1 then (if (if (p5 &&& (4 : Int32)) = (0 : Int32) then (p3 - p4) else p2) = p2 then (1 : Int32) else (0 : Int32)) else (0 : Int32)) else (0 : Int32))), .val (.int (((p5.toUInt32 >>> ((3 : Int32) &&& 31).toUInt32).toInt32) &&& (3 : Int32)))] [])) _
        refine XS.iload X116.here hx rfl (hb hby at_159) rfl ?_
        show Steps p.tables e below (T116.setTop (mkF m 161 #[.val (.long p0), .second, .val (.long p1), .second, .val (.long p2), .second, .val (.long p3), .second, .val (.long p4), .second, .val (.int p5), .val (.ref b101), .val (.long (if (p5 &&& (1 : Int32)) = (0 : Int32) then p3 else p0)), .second, .val (.long (if (p5 &&& (2 : Int32)) = (0 : Int32) then p4 else p1)), .second, .val (.long (if (p5 &&& (4 : Int32)) = (0 : Int32) then (p3 - p4) else p2)), .second, .val (.ref b114), .val (.int (if (if (p5 &&& (1 : Int32)) = (0 : Int32) then p3 else p0) = p0 then (if (if (p5 &&& (2 : Int32)) = (0 : Int32) then p4 else p1) = p1 then (if (if (p5 &&& (4 : Int32)) = (0 : Int32) then (p3 - p4) else p2) = p2 then (1 : Int32) else (0 : Int32)) else (0 : Int32)) else (0 : Int32))), .val (.int (((p5.toUInt32 >>> ((3 : Int32) &&& 31).toUInt32).toInt32) &&& (3 : Int32)))] [(.int (((p5.toUInt32 >>> ((3 : Int32) &&& 31).toUInt32).toInt32) &&& (3 : Int32)))])) _
        refine XS.iconst X116.here hx rfl (hb hby at_161) ?_
        exact k
      by_cases hc143 : (((p5.toUInt32 >>> ((3 : Int32) &&& 31).toUInt32).toInt32) &&& (3 : Int32)) = (3 : Int32)
      · have c145 : Exa Z T116.heap b101 "com/example/bill_run/billrun/InputCounts" := (Exa.keep (Exa.ext E114 f103_0) K116)
        have c146 : Fld Z T116.heap b101 "com/example/bill_run/billrun/InputCounts" "records" "J" (.long p0) := (Fld.keep (Fld.ext E114 f103_1) K116 (ninS (Nat.ne_of_lt (Nat.lt_of_lt_of_le (f103_0).lt (Nat.le_of_eq g114.symm))) nin0))
        have c147 : Fld Z T116.heap b101 "com/example/bill_run/billrun/InputCounts" "started" "J" (.long p1) := (Fld.keep (Fld.ext E114 f103_2) K116 (ninS (Nat.ne_of_lt (Nat.lt_of_lt_of_le (f103_0).lt (Nat.le_of_eq g114.symm))) nin0))
        have c148 : Fld Z T116.heap b101 "com/example/bill_run/billrun/InputCounts" "ended" "J" (.long p2) := (Fld.keep (Fld.ext E114 f103_3) K116 (ninS (Nat.ne_of_lt (Nat.lt_of_lt_of_le (f103_0).lt (Nat.le_of_eq g114.symm))) nin0))
        have O149 : Old Z n0 T116.heap := Old.keep O115 K116 (allS g_b114 all0)
        obtain ⟨cq150, kq150, q150a, q150b, q150c⟩ := isOf hZ (rfl : T116.heap = T116.heap) c145
        obtain ⟨_, _, ⟨T150, L150, k150, n150⟩, -, X150, ⟨Lc150, hQ150, l150, y150, z150⟩, st150⟩ := X116.virtualBack hx (y := (⟨"com/example/bill_run/billrun/InputCounts", "equals", "(Ljava/lang/Object;)Z"⟩ : MethodName)) (z := (⟨"com/example/bill_run/billrun/InputCounts", "equals", "(Ljava/lang/Object;)Z"⟩ : MethodName)) hown (mvT hZ (hwk hw 15 rfl)) (mvT hZ (hwk hw 16 rfl)) (notFace_of_selects (args := #[]) (mvT hZ (hwk hw 18 rfl))) (mvT hZ (hwk hw 18 rfl)) (mvT hZ (hwk hw 17 rfl)) (by decide) (backOf (W := 0) (rm3e l Z a0 hw [] b101 p0 p1 p2 T116.heap n0 O149 c145 c146 c147 c148) hZ (hwk hw 19 rfl) (hwk hw 2 rfl) (by decide) (by decide)) q150a q150c (g := (mkF m 169 #[.val (.long p0), .second, .val (.long p1), .second, .val (.long p2), .second, .val (.long p3), .second, .val (.long p4), .second, .val (.int p5), .val (.ref b101), .val (.long (if (p5 &&& (1 : Int32)) = (0 : Int32) then p3 else p0)), .second, .val (.long (if (p5 &&& (2 : Int32)) = (0 : Int32) then p4 else p1)), .second, .val (.long (if (p5 &&& (4 : Int32)) = (0 : Int32) then (p3 - p4) else p2)), .second, .val (.ref b114), .val (.int (if (if (p5 &&& (1 : Int32)) = (0 : Int32) then p3 else p0) = p0 then (if (if (p5 &&& (2 : Int32)) = (0 : Int32) then p4 else p1) = p1 then (if (if (p5 &&& (4 : Int32)) = (0 : Int32) then (p3 - p4) else p2) = p2 then (1 : Int32) else (0 : Int32)) else (0 : Int32)) else (0 : Int32))), .val (.int (((p5.toUInt32 >>> ((3 : Int32) &&& 31).toUInt32).toInt32) &&& (3 : Int32)))] [(.ref b101), (.ref b101)])) rfl (by rw [hml]; rfl) (Steps.refl _) (argsL := [(.ref b101)]) (rest := []) (lenOf pd_3 rfl) rfl (by show 2 * 0 + _ ≤ _; exact Nat.le_of_eq rfl) (hb hby at_169) (fun _ _ => ⟨rfl, (rfl : T116.heap = T116.heap), (by decide : 2 + 0 ≤ _), (by decide : 6 + 0 ≤ _)⟩)
        dsimp only [Pt.U, Pt.locs, Pt.cells, Pt.slots] at X150 l150 y150 z150 st150 hQ150
        subst l150 y150 z150
        unfold Q_rm3e at hQ150
        obtain ⟨rfl, N150q, e150⟩ := hQ150
        have N150 := Fr.app N116 N150q
        have K151 : Keep h0 h101 [] := Keep.ext (Keep.refl h0 []) E101
        have K152 : Keep h0 T103.heap [] := Keep.trans K151 K103 (allS (Or.inr (Nat.le_trans (Nat.le_refl _) (Nat.le_of_eq g101.symm))) all0)
        have K153 : Keep h0 h114 [] := Keep.ext K152 E114
        have K154 : Keep h0 T116.heap [] := Keep.trans K153 K116 (allS (Or.inr (Nat.le_trans (Nat.le_trans (Nat.le_trans (Nat.le_refl _) E101.1) K103.1) (Nat.le_of_eq g114.symm))) all0)
        obtain ⟨fs, hr, hrun, hended, hW, hsame⟩ := X150.leave (v := some (.int (1 : Int32))) (fun h => by rw [Bd.returns] at h; cases h)
        refine ⟨_, _, S144 _ ?_, hrun, hended, _, _, rfl, ?_, ⟨_, rfl⟩, hW, hsame.mono (by decide) (by decide)⟩
        · show Steps p.tables e below (T116.setTop (mkF m 162 #[.val (.long p0), .second, .val (.long p1), .second, .val (.long p2), .second, .val (.long p3), .second, .val (.long p4), .second, .val (.int p5), .val (.ref b101), .val (.long (if (p5 &&& (1 : Int32)) = (0 : Int32) then p3 else p0)), .second, .val (.long (if (p5 &&& (2 : Int32)) = (0 : Int32) then p4 else p1)), .second, .val (.long (if (p5 &&& (4 : Int32)) = (0 : Int32) then (p3 - p4) else p2)), .second, .val (.ref b114), .val (.int (if (if (p5 &&& (1 : Int32)) = (0 : Int32) then p3 else p0) = p0 then (if (if (p5 &&& (2 : Int32)) = (0 : Int32) then p4 else p1) = p1 then (if (if (p5 &&& (4 : Int32)) = (0 : Int32) then (p3 - p4) else p2) = p2 then (1 : Int32) else (0 : Int32)) else (0 : Int32)) else (0 : Int32))), .val (.int (((p5.toUInt32 >>> ((3 : Int32) &&& 31).toUInt32).toInt32) &&& (3 : Int32)))] [(.int (3 : Int32)), (.int (((p5.toUInt32 >>> ((3 : Int32) &&& 31).toUInt32).toInt32) &&& (3 : Int32)))])) _
          refine XS.icmpNo X116.here hx rfl (hb hby at_162) rfl (teq hc143).2 ?_
          show Steps p.tables e below (T116.setTop (mkF m 165 #[.val (.long p0), .second, .val (.long p1), .second, .val (.long p2), .second, .val (.long p3), .second, .val (.long p4), .second, .val (.int p5), .val (.ref b101), .val (.long (if (p5 &&& (1 : Int32)) = (0 : Int32) then p3 else p0)), .second, .val (.long (if (p5 &&& (2 : Int32)) = (0 : Int32) then p4 else p1)), .second, .val (.long (if (p5 &&& (4 : Int32)) = (0 : Int32) then (p3 - p4) else p2)), .second, .val (.ref b114), .val (.int (if (if (p5 &&& (1 : Int32)) = (0 : Int32) then p3 else p0) = p0 then (if (if (p5 &&& (2 : Int32)) = (0 : Int32) then p4 else p1) = p1 then (if (if (p5 &&& (4 : Int32)) = (0 : Int32) then (p3 - p4) else p2) = p2 then (1 : Int32) else (0 : Int32)) else (0 : Int32)) else (0 : Int32))), .val (.int (((p5.toUInt32 >>> ((3 : Int32) &&& 31).toUInt32).toInt32) &&& (3 : Int32)))] [])) _
          refine XS.aload X116.here hx rfl (hb hby at_165) rfl rfl ?_
          show Steps p.tables e below (T116.setTop (mkF m 167 #[.val (.long p0), .second, .val (.long p1), .second, .val (.long p2), .second, .val (.long p3), .second, .val (.long p4), .second, .val (.int p5), .val (.ref b101), .val (.long (if (p5 &&& (1 : Int32)) = (0 : Int32) then p3 else p0)), .second, .val (.long (if (p5 &&& (2 : Int32)) = (0 : Int32) then p4 else p1)), .second, .val (.long (if (p5 &&& (4 : Int32)) = (0 : Int32) then (p3 - p4) else p2)), .second, .val (.ref b114), .val (.int (if (if (p5 &&& (1 : Int32)) = (0 : Int32) then p3 else p0) = p0 then (if (if (p5 &&& (2 : Int32)) = (0 : Int32) then p4 else p1) = p1 then (if (if (p5 &&& (4 : Int32)) = (0 : Int32) then (p3 - p4) else p2) = p2 then (1 : Int32) else (0 : Int32)) else (0 : Int32)) else (0 : Int32))), .val (.int (((p5.toUInt32 >>> ((3 : Int32) &&& 31).toUInt32).toInt32) &&& (3 : Int32)))] [(.ref b101)])) _
          refine XS.aload X116.here hx rfl (hb hby at_167) rfl rfl ?_
          show Steps p.tables e below (T116.setTop (mkF m 169 #[.val (.long p0), .second, .val (.long p1), .second, .val (.long p2), .second, .val (.long p3), .second, .val (.long p4), .second, .val (.int p5), .val (.ref b101), .val (.long (if (p5 &&& (1 : Int32)) = (0 : Int32) then p3 else p0)), .second, .val (.long (if (p5 &&& (2 : Int32)) = (0 : Int32) then p4 else p1)), .second, .val (.long (if (p5 &&& (4 : Int32)) = (0 : Int32) then (p3 - p4) else p2)), .second, .val (.ref b114), .val (.int (if (if (p5 &&& (1 : Int32)) = (0 : Int32) then p3 else p0) = p0 then (if (if (p5 &&& (2 : Int32)) = (0 : Int32) then p4 else p1) = p1 then (if (if (p5 &&& (4 : Int32)) = (0 : Int32) then (p3 - p4) else p2) = p2 then (1 : Int32) else (0 : Int32)) else (0 : Int32)) else (0 : Int32))), .val (.int (((p5.toUInt32 >>> ((3 : Int32) &&& 31).toUInt32).toInt32) &&& (3 : Int32)))] [(.ref b101), (.ref b101)])) _
          refine st150.trans ?_
          show Steps p.tables e below (T150.setTop (mkF m 172 #[.val (.long p0), .second, .val (.long p1), .second, .val (.long p2), .second, .val (.long p3), .second, .val (.long p4), .second, .val (.int p5), .val (.ref b101), .val (.long (if (p5 &&& (1 : Int32)) = (0 : Int32) then p3 else p0)), .second, .val (.long (if (p5 &&& (2 : Int32)) = (0 : Int32) then p4 else p1)), .second, .val (.long (if (p5 &&& (4 : Int32)) = (0 : Int32) then (p3 - p4) else p2)), .second, .val (.ref b114), .val (.int (if (if (p5 &&& (1 : Int32)) = (0 : Int32) then p3 else p0) = p0 then (if (if (p5 &&& (2 : Int32)) = (0 : Int32) then p4 else p1) = p1 then (if (if (p5 &&& (4 : Int32)) = (0 : Int32) then (p3 - p4) else p2) = p2 then (1 : Int32) else (0 : Int32)) else (0 : Int32)) else (0 : Int32))), .val (.int (((p5.toUInt32 >>> ((3 : Int32) &&& 31).toUInt32).toInt32) &&& (3 : Int32)))] [(.int (1 : Int32))])) _
          exact Jvm.RoadKit.retOut X150 hx Bd.returns rfl (Or.inl ⟨rfl, by simp, _, rfl⟩) (hb hby at_172) hr
        · show Q_rm0 Z p0 p1 p2 p3 p4 p5 wc cw h0 n0 _ T150.heap _
          rw [e150]
          unfold Q_rm0
          exact ⟨rfl, N150, K154⟩
      · have c155 : Exa Z T116.heap b101 "com/example/bill_run/billrun/InputCounts" := (Exa.keep (Exa.ext E114 f103_0) K116)
        have c156 : Fld Z T116.heap b101 "com/example/bill_run/billrun/InputCounts" "records" "J" (.long p0) := (Fld.keep (Fld.ext E114 f103_1) K116 (ninS (Nat.ne_of_lt (Nat.lt_of_lt_of_le (f103_0).lt (Nat.le_of_eq g114.symm))) nin0))
        have c157 : Fld Z T116.heap b101 "com/example/bill_run/billrun/InputCounts" "started" "J" (.long p1) := (Fld.keep (Fld.ext E114 f103_2) K116 (ninS (Nat.ne_of_lt (Nat.lt_of_lt_of_le (f103_0).lt (Nat.le_of_eq g114.symm))) nin0))
        have c158 : Fld Z T116.heap b101 "com/example/bill_run/billrun/InputCounts" "ended" "J" (.long p2) := (Fld.keep (Fld.ext E114 f103_3) K116 (ninS (Nat.ne_of_lt (Nat.lt_of_lt_of_le (f103_0).lt (Nat.le_of_eq g114.symm))) nin0))
        have O159 : Old Z n0 T116.heap := Old.keep O115 K116 (allS g_b114 all0)
        obtain ⟨cq160, kq160, q160a, q160b, q160c⟩ := isOf hZ (rfl : T116.heap = T116.heap) c155
        obtain ⟨_, _, ⟨T160, L160, k160, n160⟩, -, X160, ⟨Lc160, hQ160, l160, y160, z160⟩, st160⟩ := X116.virtualBack hx (y := (⟨"com/example/bill_run/billrun/InputCounts", "equals", "(Ljava/lang/Object;)Z"⟩ : MethodName)) (z := (⟨"com/example/bill_run/billrun/InputCounts", "equals", "(Ljava/lang/Object;)Z"⟩ : MethodName)) hown (mvT hZ (hwk hw 15 rfl)) (mvT hZ (hwk hw 16 rfl)) (notFace_of_selects (args := #[]) (mvT hZ (hwk hw 18 rfl))) (mvT hZ (hwk hw 18 rfl)) (mvT hZ (hwk hw 17 rfl)) (by decide) (backOf (W := 0) (rm3s l Z a0 hw [] b101 b114 p0 p1 p2 (if (p5 &&& (1 : Int32)) = (0 : Int32) then p3 else p0) (if (p5 &&& (2 : Int32)) = (0 : Int32) then p4 else p1) (if (p5 &&& (4 : Int32)) = (0 : Int32) then (p3 - p4) else p2) T116.heap n0 O159 c155 f116_0 c156 c157 c158 f116_1 f116_2 f116_3) hZ (hwk hw 19 rfl) (hwk hw 2 rfl) (by decide) (by decide)) q160a q160c (g := (mkF m 177 #[.val (.long p0), .second, .val (.long p1), .second, .val (.long p2), .second, .val (.long p3), .second, .val (.long p4), .second, .val (.int p5), .val (.ref b101), .val (.long (if (p5 &&& (1 : Int32)) = (0 : Int32) then p3 else p0)), .second, .val (.long (if (p5 &&& (2 : Int32)) = (0 : Int32) then p4 else p1)), .second, .val (.long (if (p5 &&& (4 : Int32)) = (0 : Int32) then (p3 - p4) else p2)), .second, .val (.ref b114), .val (.int (if (if (p5 &&& (1 : Int32)) = (0 : Int32) then p3 else p0) = p0 then (if (if (p5 &&& (2 : Int32)) = (0 : Int32) then p4 else p1) = p1 then (if (if (p5 &&& (4 : Int32)) = (0 : Int32) then (p3 - p4) else p2) = p2 then (1 : Int32) else (0 : Int32)) else (0 : Int32)) else (0 : Int32))), .val (.int (((p5.toUInt32 >>> ((3 : Int32) &&& 31).toUInt32).toInt32) &&& (3 : Int32)))] [(.ref b114), (.ref b101)])) rfl (by rw [hml]; rfl) (Steps.refl _) (argsL := [(.ref b114)]) (rest := []) (lenOf pd_3 rfl) rfl (by show 2 * 0 + _ ≤ _; exact Nat.le_of_eq rfl) (hb hby at_177) (fun _ _ => ⟨rfl, (rfl : T116.heap = T116.heap), (by decide : 2 + 0 ≤ _), (by decide : 6 + 0 ≤ _)⟩)
        dsimp only [Pt.U, Pt.locs, Pt.cells, Pt.slots] at X160 l160 y160 z160 st160 hQ160
        subst l160 y160 z160
        unfold Q_rm3s at hQ160
        obtain ⟨rfl, N160q, e160⟩ := hQ160
        have N160 := Fr.app N116 N160q
        obtain ⟨cq161, kq161, q161a, q161b, q161c⟩ := isOf hZ e160 f116_0
        obtain ⟨_, _, ⟨T161, L161, k161, n161⟩, -, X161, ⟨Lc161, hQ161, l161, y161, z161⟩, st161⟩ := X160.virtualBack hx (y := (⟨"com/example/bill_run/billrun/InputCounts", "equals", "(Ljava/lang/Object;)Z"⟩ : MethodName)) (z := (⟨"com/example/bill_run/billrun/InputCounts", "equals", "(Ljava/lang/Object;)Z"⟩ : MethodName)) hown (mvT hZ (hwk hw 15 rfl)) (mvT hZ (hwk hw 16 rfl)) (notFace_of_selects (args := #[]) (mvT hZ (hwk hw 18 rfl))) (mvT hZ (hwk hw 18 rfl)) (mvT hZ (hwk hw 17 rfl)) (by decide) (backOf (W := 0) (rm3s l Z a0 hw [] b114 b101 (if (p5 &&& (1 : Int32)) = (0 : Int32) then p3 else p0) (if (p5 &&& (2 : Int32)) = (0 : Int32) then p4 else p1) (if (p5 &&& (4 : Int32)) = (0 : Int32) then (p3 - p4) else p2) p0 p1 p2 T116.heap n0 O159 f116_0 c155 f116_1 f116_2 f116_3 c156 c157 c158) hZ (hwk hw 19 rfl) (hwk hw 2 rfl) (by decide) (by decide)) q161a q161c (g := (mkF m 189 #[.val (.long p0), .second, .val (.long p1), .second, .val (.long p2), .second, .val (.long p3), .second, .val (.long p4), .second, .val (.int p5), .val (.ref b101), .val (.long (if (p5 &&& (1 : Int32)) = (0 : Int32) then p3 else p0)), .second, .val (.long (if (p5 &&& (2 : Int32)) = (0 : Int32) then p4 else p1)), .second, .val (.long (if (p5 &&& (4 : Int32)) = (0 : Int32) then (p3 - p4) else p2)), .second, .val (.ref b114), .val (.int (if (if (p5 &&& (1 : Int32)) = (0 : Int32) then p3 else p0) = p0 then (if (if (p5 &&& (2 : Int32)) = (0 : Int32) then p4 else p1) = p1 then (if (if (p5 &&& (4 : Int32)) = (0 : Int32) then (p3 - p4) else p2) = p2 then (1 : Int32) else (0 : Int32)) else (0 : Int32)) else (0 : Int32))), .val (.int (((p5.toUInt32 >>> ((3 : Int32) &&& 31).toUInt32).toInt32) &&& (3 : Int32)))] [(.ref b101), (.ref b114)])) rfl (by rw [hml]; rfl) (Steps.refl _) (argsL := [(.ref b101)]) (rest := []) (lenOf pd_3 rfl) rfl (by show 2 * 0 + _ ≤ _; exact Nat.le_of_eq rfl) (hb hby at_189) (fun _ _ => ⟨rfl, e160, (by decide : 2 + 0 ≤ _), (by decide : 6 + 0 ≤ _)⟩)
        dsimp only [Pt.U, Pt.locs, Pt.cells, Pt.slots] at X161 l161 y161 z161 st161 hQ161
        subst l161 y161 z161
        unfold Q_rm3s at hQ161
        obtain ⟨rfl, N161q, e161⟩ := hQ161
        have N161 := Fr.app N160 N161q
        have K162 : Keep h0 h101 [] := Keep.ext (Keep.refl h0 []) E101
        have K163 : Keep h0 T103.heap [] := Keep.trans K162 K103 (allS (Or.inr (Nat.le_trans (Nat.le_refl _) (Nat.le_of_eq g101.symm))) all0)
        have K164 : Keep h0 h114 [] := Keep.ext K163 E114
        have K165 : Keep h0 T116.heap [] := Keep.trans K164 K116 (allS (Or.inr (Nat.le_trans (Nat.le_trans (Nat.le_trans (Nat.le_refl _) E101.1) K103.1) (Nat.le_of_eq g114.symm))) all0)
        obtain ⟨fs, hr, hrun, hended, hW, hsame⟩ := X161.leave (v := some (.int (1 : Int32))) (fun h => by rw [Bd.returns] at h; cases h)
        refine ⟨_, _, S144 _ ?_, hrun, hended, _, _, rfl, ?_, ⟨_, rfl⟩, hW, hsame.mono (by decide) (by decide)⟩
        · show Steps p.tables e below (T116.setTop (mkF m 162 #[.val (.long p0), .second, .val (.long p1), .second, .val (.long p2), .second, .val (.long p3), .second, .val (.long p4), .second, .val (.int p5), .val (.ref b101), .val (.long (if (p5 &&& (1 : Int32)) = (0 : Int32) then p3 else p0)), .second, .val (.long (if (p5 &&& (2 : Int32)) = (0 : Int32) then p4 else p1)), .second, .val (.long (if (p5 &&& (4 : Int32)) = (0 : Int32) then (p3 - p4) else p2)), .second, .val (.ref b114), .val (.int (if (if (p5 &&& (1 : Int32)) = (0 : Int32) then p3 else p0) = p0 then (if (if (p5 &&& (2 : Int32)) = (0 : Int32) then p4 else p1) = p1 then (if (if (p5 &&& (4 : Int32)) = (0 : Int32) then (p3 - p4) else p2) = p2 then (1 : Int32) else (0 : Int32)) else (0 : Int32)) else (0 : Int32))), .val (.int (((p5.toUInt32 >>> ((3 : Int32) &&& 31).toUInt32).toInt32) &&& (3 : Int32)))] [(.int (3 : Int32)), (.int (((p5.toUInt32 >>> ((3 : Int32) &&& 31).toUInt32).toInt32) &&& (3 : Int32)))])) _
          refine XS.icmpYes X116.here hx rfl (pc0 := 162) (pc' := 173) rfl (hb hby at_162) rfl (feq hc143).2 (by decide) (by decide) ?_
          show Steps p.tables e below (T116.setTop (mkF m 173 #[.val (.long p0), .second, .val (.long p1), .second, .val (.long p2), .second, .val (.long p3), .second, .val (.long p4), .second, .val (.int p5), .val (.ref b101), .val (.long (if (p5 &&& (1 : Int32)) = (0 : Int32) then p3 else p0)), .second, .val (.long (if (p5 &&& (2 : Int32)) = (0 : Int32) then p4 else p1)), .second, .val (.long (if (p5 &&& (4 : Int32)) = (0 : Int32) then (p3 - p4) else p2)), .second, .val (.ref b114), .val (.int (if (if (p5 &&& (1 : Int32)) = (0 : Int32) then p3 else p0) = p0 then (if (if (p5 &&& (2 : Int32)) = (0 : Int32) then p4 else p1) = p1 then (if (if (p5 &&& (4 : Int32)) = (0 : Int32) then (p3 - p4) else p2) = p2 then (1 : Int32) else (0 : Int32)) else (0 : Int32)) else (0 : Int32))), .val (.int (((p5.toUInt32 >>> ((3 : Int32) &&& 31).toUInt32).toInt32) &&& (3 : Int32)))] [])) _
          refine XS.aload X116.here hx rfl (hb hby at_173) rfl rfl ?_
          show Steps p.tables e below (T116.setTop (mkF m 175 #[.val (.long p0), .second, .val (.long p1), .second, .val (.long p2), .second, .val (.long p3), .second, .val (.long p4), .second, .val (.int p5), .val (.ref b101), .val (.long (if (p5 &&& (1 : Int32)) = (0 : Int32) then p3 else p0)), .second, .val (.long (if (p5 &&& (2 : Int32)) = (0 : Int32) then p4 else p1)), .second, .val (.long (if (p5 &&& (4 : Int32)) = (0 : Int32) then (p3 - p4) else p2)), .second, .val (.ref b114), .val (.int (if (if (p5 &&& (1 : Int32)) = (0 : Int32) then p3 else p0) = p0 then (if (if (p5 &&& (2 : Int32)) = (0 : Int32) then p4 else p1) = p1 then (if (if (p5 &&& (4 : Int32)) = (0 : Int32) then (p3 - p4) else p2) = p2 then (1 : Int32) else (0 : Int32)) else (0 : Int32)) else (0 : Int32))), .val (.int (((p5.toUInt32 >>> ((3 : Int32) &&& 31).toUInt32).toInt32) &&& (3 : Int32)))] [(.ref b101)])) _
          refine XS.aload X116.here hx rfl (hb hby at_175) rfl rfl ?_
          show Steps p.tables e below (T116.setTop (mkF m 177 #[.val (.long p0), .second, .val (.long p1), .second, .val (.long p2), .second, .val (.long p3), .second, .val (.long p4), .second, .val (.int p5), .val (.ref b101), .val (.long (if (p5 &&& (1 : Int32)) = (0 : Int32) then p3 else p0)), .second, .val (.long (if (p5 &&& (2 : Int32)) = (0 : Int32) then p4 else p1)), .second, .val (.long (if (p5 &&& (4 : Int32)) = (0 : Int32) then (p3 - p4) else p2)), .second, .val (.ref b114), .val (.int (if (if (p5 &&& (1 : Int32)) = (0 : Int32) then p3 else p0) = p0 then (if (if (p5 &&& (2 : Int32)) = (0 : Int32) then p4 else p1) = p1 then (if (if (p5 &&& (4 : Int32)) = (0 : Int32) then (p3 - p4) else p2) = p2 then (1 : Int32) else (0 : Int32)) else (0 : Int32)) else (0 : Int32))), .val (.int (((p5.toUInt32 >>> ((3 : Int32) &&& 31).toUInt32).toInt32) &&& (3 : Int32)))] [(.ref b114), (.ref b101)])) _
          refine st160.trans ?_
          show Steps p.tables e below (T160.setTop (mkF m 180 #[.val (.long p0), .second, .val (.long p1), .second, .val (.long p2), .second, .val (.long p3), .second, .val (.long p4), .second, .val (.int p5), .val (.ref b101), .val (.long (if (p5 &&& (1 : Int32)) = (0 : Int32) then p3 else p0)), .second, .val (.long (if (p5 &&& (2 : Int32)) = (0 : Int32) then p4 else p1)), .second, .val (.long (if (p5 &&& (4 : Int32)) = (0 : Int32) then (p3 - p4) else p2)), .second, .val (.ref b114), .val (.int (if (if (p5 &&& (1 : Int32)) = (0 : Int32) then p3 else p0) = p0 then (if (if (p5 &&& (2 : Int32)) = (0 : Int32) then p4 else p1) = p1 then (if (if (p5 &&& (4 : Int32)) = (0 : Int32) then (p3 - p4) else p2) = p2 then (1 : Int32) else (0 : Int32)) else (0 : Int32)) else (0 : Int32))), .val (.int (((p5.toUInt32 >>> ((3 : Int32) &&& 31).toUInt32).toInt32) &&& (3 : Int32)))] [(.int (V3 p0 p1 p2 (if (p5 &&& (1 : Int32)) = (0 : Int32) then p3 else p0) (if (p5 &&& (2 : Int32)) = (0 : Int32) then p4 else p1) (if (p5 &&& (4 : Int32)) = (0 : Int32) then (p3 - p4) else p2)))])) _
          refine XS.iload X160.here hx rfl (hb hby at_180) rfl ?_
          show Steps p.tables e below (T160.setTop (mkF m 182 #[.val (.long p0), .second, .val (.long p1), .second, .val (.long p2), .second, .val (.long p3), .second, .val (.long p4), .second, .val (.int p5), .val (.ref b101), .val (.long (if (p5 &&& (1 : Int32)) = (0 : Int32) then p3 else p0)), .second, .val (.long (if (p5 &&& (2 : Int32)) = (0 : Int32) then p4 else p1)), .second, .val (.long (if (p5 &&& (4 : Int32)) = (0 : Int32) then (p3 - p4) else p2)), .second, .val (.ref b114), .val (.int (if (if (p5 &&& (1 : Int32)) = (0 : Int32) then p3 else p0) = p0 then (if (if (p5 &&& (2 : Int32)) = (0 : Int32) then p4 else p1) = p1 then (if (if (p5 &&& (4 : Int32)) = (0 : Int32) then (p3 - p4) else p2) = p2 then (1 : Int32) else (0 : Int32)) else (0 : Int32)) else (0 : Int32))), .val (.int (((p5.toUInt32 >>> ((3 : Int32) &&& 31).toUInt32).toInt32) &&& (3 : Int32)))] [(.int (if (if (p5 &&& (1 : Int32)) = (0 : Int32) then p3 else p0) = p0 then (if (if (p5 &&& (2 : Int32)) = (0 : Int32) then p4 else p1) = p1 then (if (if (p5 &&& (4 : Int32)) = (0 : Int32) then (p3 - p4) else p2) = p2 then (1 : Int32) else (0 : Int32)) else (0 : Int32)) else (0 : Int32))), (.int (V3 p0 p1 p2 (if (p5 &&& (1 : Int32)) = (0 : Int32) then p3 else p0) (if (p5 &&& (2 : Int32)) = (0 : Int32) then p4 else p1) (if (p5 &&& (4 : Int32)) = (0 : Int32) then (p3 - p4) else p2)))])) _
          refine XS.icmpNo X160.here hx rfl (hb hby at_182) rfl (teq (own_same1 _ _ _ _ _ _ : (V3 p0 p1 p2 (if (p5 &&& (1 : Int32)) = (0 : Int32) then p3 else p0) (if (p5 &&& (2 : Int32)) = (0 : Int32) then p4 else p1) (if (p5 &&& (4 : Int32)) = (0 : Int32) then (p3 - p4) else p2)) = (if (if (p5 &&& (1 : Int32)) = (0 : Int32) then p3 else p0) = p0 then (if (if (p5 &&& (2 : Int32)) = (0 : Int32) then p4 else p1) = p1 then (if (if (p5 &&& (4 : Int32)) = (0 : Int32) then (p3 - p4) else p2) = p2 then (1 : Int32) else (0 : Int32)) else (0 : Int32)) else (0 : Int32)))).2 ?_
          show Steps p.tables e below (T160.setTop (mkF m 185 #[.val (.long p0), .second, .val (.long p1), .second, .val (.long p2), .second, .val (.long p3), .second, .val (.long p4), .second, .val (.int p5), .val (.ref b101), .val (.long (if (p5 &&& (1 : Int32)) = (0 : Int32) then p3 else p0)), .second, .val (.long (if (p5 &&& (2 : Int32)) = (0 : Int32) then p4 else p1)), .second, .val (.long (if (p5 &&& (4 : Int32)) = (0 : Int32) then (p3 - p4) else p2)), .second, .val (.ref b114), .val (.int (if (if (p5 &&& (1 : Int32)) = (0 : Int32) then p3 else p0) = p0 then (if (if (p5 &&& (2 : Int32)) = (0 : Int32) then p4 else p1) = p1 then (if (if (p5 &&& (4 : Int32)) = (0 : Int32) then (p3 - p4) else p2) = p2 then (1 : Int32) else (0 : Int32)) else (0 : Int32)) else (0 : Int32))), .val (.int (((p5.toUInt32 >>> ((3 : Int32) &&& 31).toUInt32).toInt32) &&& (3 : Int32)))] [])) _
          refine XS.aload X160.here hx rfl (hb hby at_185) rfl rfl ?_
          show Steps p.tables e below (T160.setTop (mkF m 187 #[.val (.long p0), .second, .val (.long p1), .second, .val (.long p2), .second, .val (.long p3), .second, .val (.long p4), .second, .val (.int p5), .val (.ref b101), .val (.long (if (p5 &&& (1 : Int32)) = (0 : Int32) then p3 else p0)), .second, .val (.long (if (p5 &&& (2 : Int32)) = (0 : Int32) then p4 else p1)), .second, .val (.long (if (p5 &&& (4 : Int32)) = (0 : Int32) then (p3 - p4) else p2)), .second, .val (.ref b114), .val (.int (if (if (p5 &&& (1 : Int32)) = (0 : Int32) then p3 else p0) = p0 then (if (if (p5 &&& (2 : Int32)) = (0 : Int32) then p4 else p1) = p1 then (if (if (p5 &&& (4 : Int32)) = (0 : Int32) then (p3 - p4) else p2) = p2 then (1 : Int32) else (0 : Int32)) else (0 : Int32)) else (0 : Int32))), .val (.int (((p5.toUInt32 >>> ((3 : Int32) &&& 31).toUInt32).toInt32) &&& (3 : Int32)))] [(.ref b114)])) _
          refine XS.aload X160.here hx rfl (hb hby at_187) rfl rfl ?_
          show Steps p.tables e below (T160.setTop (mkF m 189 #[.val (.long p0), .second, .val (.long p1), .second, .val (.long p2), .second, .val (.long p3), .second, .val (.long p4), .second, .val (.int p5), .val (.ref b101), .val (.long (if (p5 &&& (1 : Int32)) = (0 : Int32) then p3 else p0)), .second, .val (.long (if (p5 &&& (2 : Int32)) = (0 : Int32) then p4 else p1)), .second, .val (.long (if (p5 &&& (4 : Int32)) = (0 : Int32) then (p3 - p4) else p2)), .second, .val (.ref b114), .val (.int (if (if (p5 &&& (1 : Int32)) = (0 : Int32) then p3 else p0) = p0 then (if (if (p5 &&& (2 : Int32)) = (0 : Int32) then p4 else p1) = p1 then (if (if (p5 &&& (4 : Int32)) = (0 : Int32) then (p3 - p4) else p2) = p2 then (1 : Int32) else (0 : Int32)) else (0 : Int32)) else (0 : Int32))), .val (.int (((p5.toUInt32 >>> ((3 : Int32) &&& 31).toUInt32).toInt32) &&& (3 : Int32)))] [(.ref b101), (.ref b114)])) _
          refine st161.trans ?_
          show Steps p.tables e below (T161.setTop (mkF m 192 #[.val (.long p0), .second, .val (.long p1), .second, .val (.long p2), .second, .val (.long p3), .second, .val (.long p4), .second, .val (.int p5), .val (.ref b101), .val (.long (if (p5 &&& (1 : Int32)) = (0 : Int32) then p3 else p0)), .second, .val (.long (if (p5 &&& (2 : Int32)) = (0 : Int32) then p4 else p1)), .second, .val (.long (if (p5 &&& (4 : Int32)) = (0 : Int32) then (p3 - p4) else p2)), .second, .val (.ref b114), .val (.int (if (if (p5 &&& (1 : Int32)) = (0 : Int32) then p3 else p0) = p0 then (if (if (p5 &&& (2 : Int32)) = (0 : Int32) then p4 else p1) = p1 then (if (if (p5 &&& (4 : Int32)) = (0 : Int32) then (p3 - p4) else p2) = p2 then (1 : Int32) else (0 : Int32)) else (0 : Int32)) else (0 : Int32))), .val (.int (((p5.toUInt32 >>> ((3 : Int32) &&& 31).toUInt32).toInt32) &&& (3 : Int32)))] [(.int (V3 (if (p5 &&& (1 : Int32)) = (0 : Int32) then p3 else p0) (if (p5 &&& (2 : Int32)) = (0 : Int32) then p4 else p1) (if (p5 &&& (4 : Int32)) = (0 : Int32) then (p3 - p4) else p2) p0 p1 p2))])) _
          refine XS.iload X161.here hx rfl (hb hby at_192) rfl ?_
          show Steps p.tables e below (T161.setTop (mkF m 194 #[.val (.long p0), .second, .val (.long p1), .second, .val (.long p2), .second, .val (.long p3), .second, .val (.long p4), .second, .val (.int p5), .val (.ref b101), .val (.long (if (p5 &&& (1 : Int32)) = (0 : Int32) then p3 else p0)), .second, .val (.long (if (p5 &&& (2 : Int32)) = (0 : Int32) then p4 else p1)), .second, .val (.long (if (p5 &&& (4 : Int32)) = (0 : Int32) then (p3 - p4) else p2)), .second, .val (.ref b114), .val (.int (if (if (p5 &&& (1 : Int32)) = (0 : Int32) then p3 else p0) = p0 then (if (if (p5 &&& (2 : Int32)) = (0 : Int32) then p4 else p1) = p1 then (if (if (p5 &&& (4 : Int32)) = (0 : Int32) then (p3 - p4) else p2) = p2 then (1 : Int32) else (0 : Int32)) else (0 : Int32)) else (0 : Int32))), .val (.int (((p5.toUInt32 >>> ((3 : Int32) &&& 31).toUInt32).toInt32) &&& (3 : Int32)))] [(.int (if (if (p5 &&& (1 : Int32)) = (0 : Int32) then p3 else p0) = p0 then (if (if (p5 &&& (2 : Int32)) = (0 : Int32) then p4 else p1) = p1 then (if (if (p5 &&& (4 : Int32)) = (0 : Int32) then (p3 - p4) else p2) = p2 then (1 : Int32) else (0 : Int32)) else (0 : Int32)) else (0 : Int32))), (.int (V3 (if (p5 &&& (1 : Int32)) = (0 : Int32) then p3 else p0) (if (p5 &&& (2 : Int32)) = (0 : Int32) then p4 else p1) (if (p5 &&& (4 : Int32)) = (0 : Int32) then (p3 - p4) else p2) p0 p1 p2))])) _
          refine XS.icmpNo X161.here hx rfl (hb hby at_194) rfl (teq (own_same2 _ _ _ _ _ _ : (V3 (if (p5 &&& (1 : Int32)) = (0 : Int32) then p3 else p0) (if (p5 &&& (2 : Int32)) = (0 : Int32) then p4 else p1) (if (p5 &&& (4 : Int32)) = (0 : Int32) then (p3 - p4) else p2) p0 p1 p2) = (if (if (p5 &&& (1 : Int32)) = (0 : Int32) then p3 else p0) = p0 then (if (if (p5 &&& (2 : Int32)) = (0 : Int32) then p4 else p1) = p1 then (if (if (p5 &&& (4 : Int32)) = (0 : Int32) then (p3 - p4) else p2) = p2 then (1 : Int32) else (0 : Int32)) else (0 : Int32)) else (0 : Int32)))).2 ?_
          show Steps p.tables e below (T161.setTop (mkF m 197 #[.val (.long p0), .second, .val (.long p1), .second, .val (.long p2), .second, .val (.long p3), .second, .val (.long p4), .second, .val (.int p5), .val (.ref b101), .val (.long (if (p5 &&& (1 : Int32)) = (0 : Int32) then p3 else p0)), .second, .val (.long (if (p5 &&& (2 : Int32)) = (0 : Int32) then p4 else p1)), .second, .val (.long (if (p5 &&& (4 : Int32)) = (0 : Int32) then (p3 - p4) else p2)), .second, .val (.ref b114), .val (.int (if (if (p5 &&& (1 : Int32)) = (0 : Int32) then p3 else p0) = p0 then (if (if (p5 &&& (2 : Int32)) = (0 : Int32) then p4 else p1) = p1 then (if (if (p5 &&& (4 : Int32)) = (0 : Int32) then (p3 - p4) else p2) = p2 then (1 : Int32) else (0 : Int32)) else (0 : Int32)) else (0 : Int32))), .val (.int (((p5.toUInt32 >>> ((3 : Int32) &&& 31).toUInt32).toInt32) &&& (3 : Int32)))] [])) _
          refine XS.iconst X161.here hx rfl (hb hby at_197) ?_
          show Steps p.tables e below (T161.setTop (mkF m 198 #[.val (.long p0), .second, .val (.long p1), .second, .val (.long p2), .second, .val (.long p3), .second, .val (.long p4), .second, .val (.int p5), .val (.ref b101), .val (.long (if (p5 &&& (1 : Int32)) = (0 : Int32) then p3 else p0)), .second, .val (.long (if (p5 &&& (2 : Int32)) = (0 : Int32) then p4 else p1)), .second, .val (.long (if (p5 &&& (4 : Int32)) = (0 : Int32) then (p3 - p4) else p2)), .second, .val (.ref b114), .val (.int (if (if (p5 &&& (1 : Int32)) = (0 : Int32) then p3 else p0) = p0 then (if (if (p5 &&& (2 : Int32)) = (0 : Int32) then p4 else p1) = p1 then (if (if (p5 &&& (4 : Int32)) = (0 : Int32) then (p3 - p4) else p2) = p2 then (1 : Int32) else (0 : Int32)) else (0 : Int32)) else (0 : Int32))), .val (.int (((p5.toUInt32 >>> ((3 : Int32) &&& 31).toUInt32).toInt32) &&& (3 : Int32)))] [(.int (1 : Int32))])) _
          refine XS.goto X161.here hx rfl (pc0 := 198) (pc' := 202) rfl (hb hby at_198) (by decide) (by decide) ?_
          show Steps p.tables e below (T161.setTop (mkF m 202 #[.val (.long p0), .second, .val (.long p1), .second, .val (.long p2), .second, .val (.long p3), .second, .val (.long p4), .second, .val (.int p5), .val (.ref b101), .val (.long (if (p5 &&& (1 : Int32)) = (0 : Int32) then p3 else p0)), .second, .val (.long (if (p5 &&& (2 : Int32)) = (0 : Int32) then p4 else p1)), .second, .val (.long (if (p5 &&& (4 : Int32)) = (0 : Int32) then (p3 - p4) else p2)), .second, .val (.ref b114), .val (.int (if (if (p5 &&& (1 : Int32)) = (0 : Int32) then p3 else p0) = p0 then (if (if (p5 &&& (2 : Int32)) = (0 : Int32) then p4 else p1) = p1 then (if (if (p5 &&& (4 : Int32)) = (0 : Int32) then (p3 - p4) else p2) = p2 then (1 : Int32) else (0 : Int32)) else (0 : Int32)) else (0 : Int32))), .val (.int (((p5.toUInt32 >>> ((3 : Int32) &&& 31).toUInt32).toInt32) &&& (3 : Int32)))] [(.int (1 : Int32))])) _
          exact Jvm.RoadKit.retOut X161 hx Bd.returns rfl (Or.inl ⟨rfl, by simp, _, rfl⟩) (hb hby at_202) hr
        · show Q_rm0 Z p0 p1 p2 p3 p4 p5 wc cw h0 n0 _ T161.heap _
          rw [e161]
          unfold Q_rm0
          exact ⟨rfl, N161, K165⟩
theorem own_evR {args : Array Value} {s : State} {a b : Term} {y : Addr} (h : (Jvm.Cond.eq a b).value args s none s [] = some true) (hb : b.eval args s none [] s = some (.ref y)) : a.eval args s none [] s = some (.ref y) := by
  obtain ⟨x, z, h1, h2, h3, h4⟩ := cmp_v (Or.inl h)
  cases h2.symm.trans hb
  have hx : x.isRef = true := h4.2
  have q := gotT (eq_R h1 hb hx rfl) h
  rw [h1, q]
theorem own_len {args : Array Value} {s : State} {t : Term} {a : Addr} {cl : Cell} {ty : FieldType} {n : Int32} (A : Arr s s.heap a cl ty) (ev : t.eval args s none [] s = some (.ref a)) (h : (Term.length t).eval args s none [] s = some (.int n)) : cl.slots.size < 2 ^ 31 ∧ cl.slots.size.toInt32 = n := by
  have ha : s.arrayAt? a = some cl := A.fin (Vm.Alike.refl _)
  have hl := SBG.length_lt ev ha h
  have q := len_f ev ha hl
  exact ⟨hl, by simpa using Option.some.inj (q.symm.trans h)⟩
theorem own_arvU {s : State} {a : Addr} {cl : Cell} {ty : FieldType} {n : Int32} {dv : Value} (hf : Fit s) (A : Arr s s.heap a cl ty) (q : cl.slots.size < 2 ^ 31) (e : cl.slots.size.toInt32 = n) (hn : ¬ n < 0) : Arv s s.heap a cl.cls ty n cl.slots.toList dv := by
  have S : cl.slots.size = n.toNatClampNeg := by rw [← e]; simp only [Int32.toNatClampNeg, len_toInt q]; rfl
  have H : Has cl cl.slots.toList dv := fun j hj => by simp [hj]
  refine ⟨cl, A, rfl, S, hn, H, fun j hj => ?_⟩
  have e1 : (Nat.toInt32 j).toNatClampNeg = j := by simp only [Int32.toNatClampNeg, len_toInt (Nat.lt_trans hj q)]; rfl
  exact elem_fits (j := Nat.toInt32 j) hf A (idx_in hj q) (by rw [e1]; exact H j hj)
set_option maxRecDepth 65536 in
set_option maxHeartbeats 40000000 in
theorem comes_1 {Post : Tables → Env → Array Value → State → Outcome → State → Prop} (hpost : ∀ tb e args s v u, (limb_1_1.after args s (.returned v) u = true ∧ limb_1_2.after args s (.returned v) u = true ∧ True) → FrameEnd s (.returned v) u (Jvm.fieldLocs frame_1_writes args s ++ Jvm.arrayLocs frame_1_arrays args s ++ Jvm.staticLocs frame_1_statics s) 16 128 → Post tb e args s (.returned v) u) :
    ArmFor flags0 classFile x code maxLocals ret World_1 tables_1 room_1 Calls_1 rest_1 Pre_1 Post := by
  intro l hfl _ _ p e ha hc hk s m args below hf hA hF happ hP
  obtain ⟨hcalls, hrest, hpre⟩ := hP
  obtain ⟨-, -, -, hnamed, -, -, -, hat⟩ := (Spec.applies_iff hf).mp happ
  obtain ⟨hg, hn⟩ := and_e (Cond.before_iff.mp (show (Jvm.Cond.and given_1 narrow_1).before args s = true from hpre))
  obtain ⟨gg1, gg2⟩ := and_e hg
  obtain ⟨gg3, gg4⟩ := and_e gg2
  obtain ⟨gg5, gg6⟩ := and_e gg4
  obtain ⟨gg7, gg8⟩ := and_e gg6
  obtain ⟨gg9, gg10⟩ := and_e gg8
  obtain ⟨gg11, gg12⟩ := and_e gg10
  obtain ⟨w0, w1, w2, w3, w4, w5, rfl⟩ : ∃ w0 w1 w2 w3 w4 w5 : Value, args = #[w0, w1, w2, w3, w4, w5] := by
    have hs : args.size = 6 := by simpa [Cond.value, given_1] using gg1
    obtain ⟨L⟩ := args
    match L, hs with
    | [w0, w1, w2, w3, w4, w5], _ => exact ⟨w0, w1, w2, w3, w4, w5, rfl⟩
  have hw := fun d (hd : d ∈ tables_1) => atoms_spec (ws := Jvm.Cond.code x code maxLocals ret :: tables_1) hat d (List.mem_cons_of_mem _ hd)
  have hfit : Fit s := fun {y c} hc i hi => by
    obtain ⟨ha, rfl⟩ := Array.getElem?_eq_some_iff.mp hc
    have q := List.all_eq_true.mp ((Array.all_eq_true_iff_forall_mem.mp hF) _ (Array.getElem_mem ha)) i (List.mem_range.mpr hi)
    simpa [Array.getElem?_eq_getElem hi] using q
  obtain ⟨hsets, hown0⟩ := atoms_of _ (rest_1_c_eq ▸ (show rest_1_c.before _ s = true from hrest))
  have hr0 := Cond.before_iff.mp hown0
  obtain ⟨i0, ei0⟩ := isL_v gg3
  obtain rfl : w0 = (.long i0) := Option.some.inj ei0
  obtain ⟨i1, ei1⟩ := isL_v gg5
  obtain rfl : w1 = (.long i1) := Option.some.inj ei1
  obtain ⟨i2, ei2⟩ := isL_v gg7
  obtain rfl : w2 = (.long i2) := Option.some.inj ei2
  obtain ⟨i3, ei3⟩ := isL_v gg9
  obtain rfl : w3 = (.long i3) := Option.some.inj ei3
  obtain ⟨i4, ei4⟩ := isL_v gg11
  obtain rfl : w4 = (.long i4) := Option.some.inj ei4
  obtain ⟨i5, ei5⟩ := is_v gg12
  obtain rfl : w5 = (.int i5) := Option.some.inj ei5
  have k2 := Cond.before_iff.mp (hsets _ (List.mem_of_getElem? (i := 2) rfl))
  obtain ⟨wc, evc⟩ := arr_v k2
  obtain ⟨cw, Ac⟩ := Arr.start evc k2
  have k4 := own_eqI (Cond.before_iff.mp (hsets _ (List.mem_of_getElem? (i := 4) rfl))) rfl
  obtain ⟨h31, hsz⟩ := own_len Ac evc k4
  have SC : Sta s s.heap "java/lang/Long$LongCache" "cache" "[Ljava/lang/Long;" (.ref wc) := Sta.start evc (Or.inl (hsets _ (List.mem_of_getElem? (i := 1) rfl)))
  have BX : Bxs s wc cw "java/lang/Long" "J" (256 : Int32) (fun j => .long (j - 128).toInt64) := Bxs.start (fun _ => evc) Ac h31 hsz (by decide) (Cond.before_iff.mp (hsets _ (List.mem_of_getElem? (i := 5) rfl))) (fun X j hj h => eqv_l (i2l_at (by simp [Term.eval, (back32 hj).1])) h)
  obtain ⟨n, o, h1, h2, h3, _, L, rfl, hQ, hq⟩ := rm0 l s _ hw tables_1 i0 i1 i2 i3 i4 i5 wc cw s.heap s.heap.size (Old.start s) SC BX p e ha hc hk s m _ below hf ((Spec.applies_iff_loose hf).mp happ).1 ⟨rfl, State.Warmed39.refl s, rfl⟩ trivial
  unfold Q_rm0 at hQ
  obtain ⟨rfl, N, -⟩ := hQ
  refine ⟨n, _, h1, h2, h3, hpost _ _ _ _ _ _ ⟨Cond.after_iff.mpr rfl, Cond.after_iff.mpr (eq_i res_at (Term.int_eval (1)) rfl), trivial⟩ ⟨hq.1, hq.2.1, (hq.2.2.sift fun y hy => Or.inr (N y hy)).mono (by decide) (by decide)⟩⟩
theorem main_1_1 : Claimed_1_1 := comes_1 fun _ _ _ _ _ _ h hF => ⟨h.1, hF⟩
theorem main_1_2 : Claimed_1_2 := comes_1 fun _ _ _ _ _ _ h hF => ⟨h.2.1, hF⟩
end Jvm.Pilot.@@N@@
namespace Jvm.Pilot.@@N@@
open Jvm Jvm.ClassFile Sem Op Lib Jvm.Free Jvm.Stand Jvm.Pilot.@@N@@.Jvm.D
/-! MADE BY PROGRAM (witnessworld.py) out of the Statement's table words and the real class files: 16 classes; the members and pool entries that the words name. The judged class is class 1, her method 1. -/
namespace start1
open Jvm.ClassFile
def u (s : String) : CpInfo := .utf8 (stringToUtf16 s)
/-- a pool by its gaps: so many unusable entries, then the entry; so many at the end -/
def gap : Nat → List CpInfo → List CpInfo
  | 0, r => r
  | n + 1, r => .unusable :: gap n r
def poolList (es : List (Nat × CpInfo)) (last : Nat) : List CpInfo := es.foldr (fun e r => gap e.1 (e.2 :: r)) (gap last [])
def pool (es : List (Nat × CpInfo)) (last : Nat) : Array CpInfo := ⟨poolList es last⟩
def fileOf (pool : Array CpInfo) (this : Nat) (attrs : Array Attribute := #[]) (ms : Array MethodInfo := #[]) (fl : Nat := 33) (sup : Nat := 0) (ifs : Array Nat := #[]) (fds : Array FieldInfo := #[]) : ClassFile where
  minorVersion := 0
  majorVersion := 65
  constantPool := pool
  accessFlags := fl
  thisClass := this
  superClass := sup
  interfaces := ifs
  fields := fds
  methods := ms
  attributes := attrs
def plain (name : String) (sup : Option ClassId) : Class where
  name := name
  kind := .ordinary
  loader := none
  accessFlags := 33
  super := sup
  interfaces := #[]
  cf := none
  fields := #[]
  methods := #[]
  instanceTypes := #[]
  staticTypes := #[]
  resolved := #[]
  callSites := []
  init := .initialized
  statics := none
  mirror := none

def pool0 : Array CpInfo := pool [(5, u "<init>"), (0, u "()V"), (1, .class_ 10), (1, u "java/lang/Object")] 113

def k0c0 : Code := { maxStack := 0, maxLocals := 1, code := object_method_1_code, exceptionTable := #[], attributes := #[] }
def k0m0 : Method := { name := "<init>", desc := "()V", sig := { parameters := [], returnType := none }, accessFlags := 1, code := some k0c0 }
/-- java/lang/Object -/
def k0 : Class := { plain "java/lang/Object" none with
  accessFlags := 33
  interfaces := #[]
  cf := some (fileOf pool0 8 #[] #[{ accessFlags := 1, nameIndex := 5, descriptorIndex := 6, attributes := #[] }] 33 0 #[] #[])
  fields := #[]
  methods := #[k0m0]
  instanceTypes := #[]
  staticTypes := #[]
  resolved := Array.replicate 124 none
  statics := none }

def pool1 : Array CpInfo := pool [(2, .class_ 4), (1, u "java/lang/Object"), (0, u "<init>"), (0, u "()V"), (0, .class_ 8), (0, u "com/example/bill_run/billrun/InputCounts"), (0, .methodref 7 10), (0, .nameAndType 5 11), (0, u "(JJJ)V"), (0, .methodref 7 13), (0, .nameAndType 14 15), (0, u "equals"), (0, u "(Ljava/lang/Object;)Z"), (0, .methodref 17 18), (0, .class_ 19), (0, .nameAndType 20 21), (0, u "java/lang/Long"), (0, u "valueOf"), (0, u "(J)Ljava/lang/Long;"), (0, .class_ 23), (0, u "com/example/bill_run/billrun/InputCountsEqualsPinLaw"), (2, u "law"), (0, u "(JJJJJI)Z")] 3

def k1m0 : Method := { name := "<init>", desc := "()V", sig := { parameters := [], returnType := none }, accessFlags := 2, code := none }
def k1c1 : Code := { maxStack := 8, maxLocals := 21, code := code, exceptionTable := #[], attributes := #[] }
def k1m1 : Method := { name := "law", desc := "(JJJJJI)Z", sig := { parameters := [.long, .long, .long, .long, .long, .int], returnType := some .boolean }, accessFlags := 9, code := some k1c1 }
/-- com/example/bill_run/billrun/InputCountsEqualsPinLaw -/
def k1 : Class := { plain "com/example/bill_run/billrun/InputCountsEqualsPinLaw" (some 0) with
  accessFlags := 49
  interfaces := #[]
  cf := some (fileOf pool1 22 #[] #[{ accessFlags := 2, nameIndex := 5, descriptorIndex := 6, attributes := #[] }, { accessFlags := 9, nameIndex := 26, descriptorIndex := 27, attributes := #[] }] 49 2 #[] #[])
  fields := #[]
  methods := #[k1m0, k1m1]
  instanceTypes := #[]
  staticTypes := #[]
  resolved := Array.replicate 31 none
  statics := none }

def pool2 : Array CpInfo := pool [(1, .methodref 2 3), (0, .class_ 4), (0, .nameAndType 5 6), (0, u "java/lang/Object"), (0, u "<init>"), (0, u "()V"), (0, .fieldref 8 9), (0, .class_ 10), (0, .nameAndType 11 12), (0, u "com/example/bill_run/billrun/InputCounts"), (0, u "records"), (0, u "J"), (0, .fieldref 8 14), (0, .nameAndType 15 12), (0, u "started"), (0, .fieldref 8 17), (0, .nameAndType 18 12), (0, u "ended"), (60, u "(JJJ)V"), (25, u "equals"), (0, u "(Ljava/lang/Object;)Z")] 4

def k2c0 : Code := { maxStack := 3, maxLocals := 7, code := prog_19_method_1_code, exceptionTable := #[], attributes := #[] }
def k2m0 : Method := { name := "<init>", desc := "(JJJ)V", sig := { parameters := [.long, .long, .long], returnType := none }, accessFlags := 0, code := some k2c0 }
def k2c1 : Code := { maxStack := 4, maxLocals := 3, code := prog_19_method_6_code, exceptionTable := #[], attributes := #[] }
def k2m1 : Method := { name := "equals", desc := "(Ljava/lang/Object;)Z", sig := { parameters := [(.object "java/lang/Object")], returnType := some .boolean }, accessFlags := 1, code := some k2c1 }
/-- com/example/bill_run/billrun/InputCounts -/
def k2 : Class := { plain "com/example/bill_run/billrun/InputCounts" (some 0) with
  accessFlags := 48
  interfaces := #[]
  cf := some (fileOf pool2 8 #[] #[{ accessFlags := 0, nameIndex := 5, descriptorIndex := 79, attributes := #[] }, { accessFlags := 1, nameIndex := 105, descriptorIndex := 106, attributes := #[] }] 48 2 #[] #[{ accessFlags := 18, nameIndex := 11, descriptorIndex := 12, attributes := #[] }, { accessFlags := 18, nameIndex := 15, descriptorIndex := 12, attributes := #[] }, { accessFlags := 18, nameIndex := 18, descriptorIndex := 12, attributes := #[] }])
  fields := #[{ name := "records", type := .long, accessFlags := 18, slot := 0, constantValue := 0 }, { name := "started", type := .long, accessFlags := 18, slot := 1, constantValue := 0 }, { name := "ended", type := .long, accessFlags := 18, slot := 2, constantValue := 0 }]
  methods := #[k2m0, k2m1]
  instanceTypes := #[.long, .long, .long]
  staticTypes := #[]
  resolved := Array.replicate 111 none
  statics := none }

def pool3 : Array CpInfo := pool [(1, .class_ 2), (0, u "java/io/Serializable"), (0, .class_ 4), (0, u "java/lang/Object")] 2

/-- java/io/Serializable -/
def k3 : Class := { plain "java/io/Serializable" (some 0) with
  accessFlags := 1537
  interfaces := #[]
  cf := some (fileOf pool3 1 #[] #[] 1537 3 #[] #[])
  fields := #[]
  methods := #[]
  instanceTypes := #[]
  staticTypes := #[]
  resolved := Array.replicate 7 none
  statics := none }

def pool4 : Array CpInfo := pool [(1, .methodref 2 3), (0, .class_ 4), (0, .nameAndType 5 6), (0, u "java/lang/Object"), (0, u "<init>"), (0, u "()V"), (1, .class_ 10), (1, u "java/lang/Number"), (2, .class_ 14), (0, u "java/io/Serializable"), (0, u "serialVersionUID"), (0, u "J")] 20

def k4c0 : Code := { maxStack := 1, maxLocals := 1, code := jdk_18_method_1_code, exceptionTable := #[], attributes := #[] }
def k4m0 : Method := { name := "<init>", desc := "()V", sig := { parameters := [], returnType := none }, accessFlags := 1, code := some k4c0 }
/-- java/lang/Number -/
def k4 : Class := { plain "java/lang/Number" (some 0) with
  accessFlags := 1057
  interfaces := #[3]
  cf := some (fileOf pool4 8 #[] #[{ accessFlags := 1, nameIndex := 5, descriptorIndex := 6, attributes := #[] }] 1057 2 #[13] #[{ accessFlags := 26, nameIndex := 15, descriptorIndex := 16, attributes := #[] }])
  fields := #[{ name := "serialVersionUID", type := .long, accessFlags := 26, slot := 0, constantValue := 0 }]
  methods := #[k4m0]
  instanceTypes := #[]
  staticTypes := #[.long]
  resolved := Array.replicate 37 none
  statics := none }

def pool5 : Array CpInfo := pool [(1, .class_ 2), (0, u "java/lang/Comparable"), (0, .class_ 4), (0, u "java/lang/Object")] 7

/-- java/lang/Comparable -/
def k5 : Class := { plain "java/lang/Comparable" (some 0) with
  accessFlags := 1537
  interfaces := #[]
  cf := some (fileOf pool5 1 #[] #[] 1537 3 #[] #[])
  fields := #[]
  methods := #[]
  instanceTypes := #[]
  staticTypes := #[]
  resolved := Array.replicate 12 none
  statics := none }

def pool6 : Array CpInfo := pool [(1, .class_ 2), (0, u "java/lang/constant/Constable"), (0, .class_ 4), (0, u "java/lang/Object")] 6

/-- java/lang/constant/Constable -/
def k6 : Class := { plain "java/lang/constant/Constable" (some 0) with
  accessFlags := 1537
  interfaces := #[]
  cf := some (fileOf pool6 1 #[] #[] 1537 3 #[] #[])
  fields := #[]
  methods := #[]
  instanceTypes := #[]
  staticTypes := #[]
  resolved := Array.replicate 11 none
  statics := none }

def pool7 : Array CpInfo := pool [(1, .class_ 2), (0, u "java/lang/constant/ConstantDesc"), (0, .class_ 4), (0, u "java/lang/Object")] 32

/-- java/lang/constant/ConstantDesc -/
def k7 : Class := { plain "java/lang/constant/ConstantDesc" (some 0) with
  accessFlags := 1537
  interfaces := #[]
  cf := some (fileOf pool7 1 #[] #[] 1537 3 #[] #[])
  fields := #[]
  methods := #[]
  instanceTypes := #[]
  staticTypes := #[]
  resolved := Array.replicate 37 none
  statics := none }

def pool8 : Array CpInfo := pool [(1, .class_ 2), (0, u "java/lang/Long"), (55, .nameAndType 59 60), (0, u "<init>"), (0, u "()V"), (24, u "valueOf"), (143, u "(J)Ljava/lang/Long;"), (0, .long 18446744073709551488), (1, .long 127), (1, .fieldref 235 236), (0, .class_ 237), (0, .nameAndType 238 239), (0, u "java/lang/Long$LongCache"), (0, u "cache"), (0, u "[Ljava/lang/Long;"), (0, .methodref 1 241), (0, .nameAndType 59 242), (0, u "(J)V"), (27, .methodref 271 58), (0, .class_ 272), (0, u "java/lang/Number"), (0, .fieldref 1 274), (0, .nameAndType 275 276), (0, u "value"), (0, u "J"), (84, u "TYPE"), (0, u "Ljava/lang/Class;"), (0, .class_ 364), (0, u "java/lang/Comparable"), (0, .class_ 366), (0, u "java/lang/constant/Constable"), (0, .class_ 368), (0, u "java/lang/constant/ConstantDesc"), (0, u "MIN_VALUE"), (1, u "MAX_VALUE"), (4, u "SIZE"), (0, u "I"), (1, u "BYTES"), (1, u "serialVersionUID")] 142

def k8c0 : Code := { maxStack := 4, maxLocals := 3, code := jdk_35_method_24_code, exceptionTable := #[], attributes := #[] }
def k8m0 : Method := { name := "valueOf", desc := "(J)Ljava/lang/Long;", sig := { parameters := [.long], returnType := some (.object "java/lang/Long") }, accessFlags := 9, code := some k8c0 }
def k8c1 : Code := { maxStack := 3, maxLocals := 3, code := jdk_35_method_26_code, exceptionTable := #[], attributes := #[] }
def k8m1 : Method := { name := "<init>", desc := "(J)V", sig := { parameters := [.long], returnType := none }, accessFlags := 1, code := some k8c1 }
/-- java/lang/Long -/
def k8 : Class := { plain "java/lang/Long" (some 4) with
  accessFlags := 49
  interfaces := #[5, 6, 7]
  cf := some (fileOf pool8 1 #[.nestMembers #[235]] #[{ accessFlags := 9, nameIndex := 85, descriptorIndex := 229, attributes := #[] }, { accessFlags := 1, nameIndex := 59, descriptorIndex := 242, attributes := #[] }] 49 271 #[363, 365, 367] #[{ accessFlags := 25, nameIndex := 369, descriptorIndex := 276, attributes := #[] }, { accessFlags := 25, nameIndex := 371, descriptorIndex := 276, attributes := #[] }, { accessFlags := 25, nameIndex := 361, descriptorIndex := 362, attributes := #[] }, { accessFlags := 18, nameIndex := 275, descriptorIndex := 276, attributes := #[] }, { accessFlags := 25, nameIndex := 376, descriptorIndex := 377, attributes := #[] }, { accessFlags := 25, nameIndex := 379, descriptorIndex := 377, attributes := #[] }, { accessFlags := 26, nameIndex := 381, descriptorIndex := 276, attributes := #[] }])
  fields := #[{ name := "MIN_VALUE", type := .long, accessFlags := 25, slot := 0, constantValue := 0 }, { name := "MAX_VALUE", type := .long, accessFlags := 25, slot := 1, constantValue := 0 }, { name := "TYPE", type := (.object "java/lang/Class"), accessFlags := 25, slot := 2, constantValue := 0 }, { name := "value", type := .long, accessFlags := 18, slot := 0, constantValue := 0 }, { name := "SIZE", type := .int, accessFlags := 25, slot := 3, constantValue := 0 }, { name := "BYTES", type := .int, accessFlags := 25, slot := 4, constantValue := 0 }, { name := "serialVersionUID", type := .long, accessFlags := 26, slot := 5, constantValue := 0 }]
  methods := #[k8m0, k8m1]
  instanceTypes := #[.long]
  staticTypes := #[.long, .long, (.object "java/lang/Class"), .int, .int, .long]
  resolved := Array.replicate 524 none
  statics := none }

def pool9 : Array CpInfo := pool [(2, .class_ 4), (1, u "java/lang/Object"), (0, u "<init>"), (0, u "()V"), (0, .class_ 8), (0, u "java/lang/Long"), (7, .class_ 18), (1, u "java/lang/Long$LongCache"), (0, u "$assertionsDisabled"), (0, u "Z"), (8, u "archivedCache"), (0, u "[Ljava/lang/Long;"), (7, u "cache")] 24

def k9m0 : Method := { name := "<init>", desc := "()V", sig := { parameters := [], returnType := none }, accessFlags := 2, code := none }
/-- java/lang/Long$LongCache -/
def k9 : Class := { plain "java/lang/Long$LongCache" (some 0) with
  accessFlags := 48
  interfaces := #[]
  cf := some (fileOf pool9 16 #[.nestHost 7] #[{ accessFlags := 2, nameIndex := 5, descriptorIndex := 6, attributes := #[] }] 48 2 #[] #[{ accessFlags := 24, nameIndex := 38, descriptorIndex := 30, attributes := #[] }, { accessFlags := 8, nameIndex := 29, descriptorIndex := 30, attributes := #[] }, { accessFlags := 4120, nameIndex := 19, descriptorIndex := 20, attributes := #[] }])
  fields := #[{ name := "cache", type := (.array (.object "java/lang/Long")), accessFlags := 24, slot := 0, constantValue := 0 }, { name := "archivedCache", type := (.array (.object "java/lang/Long")), accessFlags := 8, slot := 1, constantValue := 0 }, { name := "$assertionsDisabled", type := .boolean, accessFlags := 4120, slot := 2, constantValue := 0 }]
  methods := #[k9m0]
  instanceTypes := #[]
  staticTypes := #[(.array (.object "java/lang/Long")), (.array (.object "java/lang/Long")), .boolean]
  resolved := Array.replicate 63 none
  statics := some 0 }

def pool10 : Array CpInfo := pool [(1, u "java/lang/Cloneable"), (0, .class_ 1), (0, u "java/lang/Object"), (0, .class_ 3)] 3

/-- java/lang/Cloneable -/
def k10 : Class := { plain "java/lang/Cloneable" (some 0) with
  accessFlags := 1537
  interfaces := #[]
  cf := some (fileOf pool10 2 #[] #[] 1537 4 #[] #[])
  fields := #[]
  methods := #[]
  instanceTypes := #[]
  staticTypes := #[]
  resolved := Array.replicate 8 none
  statics := none }

/-- the primitive byte -/
def k11 : Class := { plain "byte" none with kind := .primitive 'B', accessFlags := 0x411 }
/-- [B -/
def k12 : Class := { plain "[B" (some 0) with kind := .array 11 .byte, interfaces := #[10, 3], accessFlags := 1041 }

/-- the primitive int -/
def k13 : Class := { plain "int" none with kind := .primitive 'I', accessFlags := 0x411 }
/-- [I -/
def k14 : Class := { plain "[I" (some 0) with kind := .array 13 .int, interfaces := #[10, 3], accessFlags := 1041 }

/-- [Ljava/lang/Long; -/
def k15 : Class := { plain "[Ljava/lang/Long;" (some 0) with kind := .array 8 (.object "java/lang/Long"), interfaces := #[10, 3], accessFlags := 1041 }

def heap : Heap := #[{ cls := 9, slots := #[.ref 1, .null, .int 0], vm := .statics 9 },
  { cls := 15, slots := #[.ref 2, .ref 3, .ref 4, .ref 5, .ref 6, .ref 7, .ref 8, .ref 9, .ref 10, .ref 11, .ref 12, .ref 13, .ref 14, .ref 15, .ref 16, .ref 17, .ref 18, .ref 19, .ref 20, .ref 21, .ref 22, .ref 23, .ref 24, .ref 25, .ref 26, .ref 27, .ref 28, .ref 29, .ref 30, .ref 31, .ref 32, .ref 33, .ref 34, .ref 35, .ref 36, .ref 37, .ref 38, .ref 39, .ref 40, .ref 41, .ref 42, .ref 43, .ref 44, .ref 45, .ref 46, .ref 47, .ref 48, .ref 49, .ref 50, .ref 51, .ref 52, .ref 53, .ref 54, .ref 55, .ref 56, .ref 57, .ref 58, .ref 59, .ref 60, .ref 61, .ref 62, .ref 63, .ref 64, .ref 65, .ref 66, .ref 67, .ref 68, .ref 69, .ref 70, .ref 71, .ref 72, .ref 73, .ref 74, .ref 75, .ref 76, .ref 77, .ref 78, .ref 79, .ref 80, .ref 81, .ref 82, .ref 83, .ref 84, .ref 85, .ref 86, .ref 87, .ref 88, .ref 89, .ref 90, .ref 91, .ref 92, .ref 93, .ref 94, .ref 95, .ref 96, .ref 97, .ref 98, .ref 99, .ref 100, .ref 101, .ref 102, .ref 103, .ref 104, .ref 105, .ref 106, .ref 107, .ref 108, .ref 109, .ref 110, .ref 111, .ref 112, .ref 113, .ref 114, .ref 115, .ref 116, .ref 117, .ref 118, .ref 119, .ref 120, .ref 121, .ref 122, .ref 123, .ref 124, .ref 125, .ref 126, .ref 127, .ref 128, .ref 129, .ref 130, .ref 131, .ref 132, .ref 133, .ref 134, .ref 135, .ref 136, .ref 137, .ref 138, .ref 139, .ref 140, .ref 141, .ref 142, .ref 143, .ref 144, .ref 145, .ref 146, .ref 147, .ref 148, .ref 149, .ref 150, .ref 151, .ref 152, .ref 153, .ref 154, .ref 155, .ref 156, .ref 157, .ref 158, .ref 159, .ref 160, .ref 161, .ref 162, .ref 163, .ref 164, .ref 165, .ref 166, .ref 167, .ref 168, .ref 169, .ref 170, .ref 171, .ref 172, .ref 173, .ref 174, .ref 175, .ref 176, .ref 177, .ref 178, .ref 179, .ref 180, .ref 181, .ref 182, .ref 183, .ref 184, .ref 185, .ref 186, .ref 187, .ref 188, .ref 189, .ref 190, .ref 191, .ref 192, .ref 193, .ref 194, .ref 195, .ref 196, .ref 197, .ref 198, .ref 199, .ref 200, .ref 201, .ref 202, .ref 203, .ref 204, .ref 205, .ref 206, .ref 207, .ref 208, .ref 209, .ref 210, .ref 211, .ref 212, .ref 213, .ref 214, .ref 215, .ref 216, .ref 217, .ref 218, .ref 219, .ref 220, .ref 221, .ref 222, .ref 223, .ref 224, .ref 225, .ref 226, .ref 227, .ref 228, .ref 229, .ref 230, .ref 231, .ref 232, .ref 233, .ref 234, .ref 235, .ref 236, .ref 237, .ref 238, .ref 239, .ref 240, .ref 241, .ref 242, .ref 243, .ref 244, .ref 245, .ref 246, .ref 247, .ref 248, .ref 249, .ref 250, .ref 251, .ref 252, .ref 253, .ref 254, .ref 255, .ref 256, .ref 257], vm := .none },
  { cls := 8, slots := #[.long (-128)], vm := .none },
  { cls := 8, slots := #[.long (-127)], vm := .none },
  { cls := 8, slots := #[.long (-126)], vm := .none },
  { cls := 8, slots := #[.long (-125)], vm := .none },
  { cls := 8, slots := #[.long (-124)], vm := .none },
  { cls := 8, slots := #[.long (-123)], vm := .none },
  { cls := 8, slots := #[.long (-122)], vm := .none },
  { cls := 8, slots := #[.long (-121)], vm := .none },
  { cls := 8, slots := #[.long (-120)], vm := .none },
  { cls := 8, slots := #[.long (-119)], vm := .none },
  { cls := 8, slots := #[.long (-118)], vm := .none },
  { cls := 8, slots := #[.long (-117)], vm := .none },
  { cls := 8, slots := #[.long (-116)], vm := .none },
  { cls := 8, slots := #[.long (-115)], vm := .none },
  { cls := 8, slots := #[.long (-114)], vm := .none },
  { cls := 8, slots := #[.long (-113)], vm := .none },
  { cls := 8, slots := #[.long (-112)], vm := .none },
  { cls := 8, slots := #[.long (-111)], vm := .none },
  { cls := 8, slots := #[.long (-110)], vm := .none },
  { cls := 8, slots := #[.long (-109)], vm := .none },
  { cls := 8, slots := #[.long (-108)], vm := .none },
  { cls := 8, slots := #[.long (-107)], vm := .none },
  { cls := 8, slots := #[.long (-106)], vm := .none },
  { cls := 8, slots := #[.long (-105)], vm := .none },
  { cls := 8, slots := #[.long (-104)], vm := .none },
  { cls := 8, slots := #[.long (-103)], vm := .none },
  { cls := 8, slots := #[.long (-102)], vm := .none },
  { cls := 8, slots := #[.long (-101)], vm := .none },
  { cls := 8, slots := #[.long (-100)], vm := .none },
  { cls := 8, slots := #[.long (-99)], vm := .none },
  { cls := 8, slots := #[.long (-98)], vm := .none },
  { cls := 8, slots := #[.long (-97)], vm := .none },
  { cls := 8, slots := #[.long (-96)], vm := .none },
  { cls := 8, slots := #[.long (-95)], vm := .none },
  { cls := 8, slots := #[.long (-94)], vm := .none },
  { cls := 8, slots := #[.long (-93)], vm := .none },
  { cls := 8, slots := #[.long (-92)], vm := .none },
  { cls := 8, slots := #[.long (-91)], vm := .none },
  { cls := 8, slots := #[.long (-90)], vm := .none },
  { cls := 8, slots := #[.long (-89)], vm := .none },
  { cls := 8, slots := #[.long (-88)], vm := .none },
  { cls := 8, slots := #[.long (-87)], vm := .none },
  { cls := 8, slots := #[.long (-86)], vm := .none },
  { cls := 8, slots := #[.long (-85)], vm := .none },
  { cls := 8, slots := #[.long (-84)], vm := .none },
  { cls := 8, slots := #[.long (-83)], vm := .none },
  { cls := 8, slots := #[.long (-82)], vm := .none },
  { cls := 8, slots := #[.long (-81)], vm := .none },
  { cls := 8, slots := #[.long (-80)], vm := .none },
  { cls := 8, slots := #[.long (-79)], vm := .none },
  { cls := 8, slots := #[.long (-78)], vm := .none },
  { cls := 8, slots := #[.long (-77)], vm := .none },
  { cls := 8, slots := #[.long (-76)], vm := .none },
  { cls := 8, slots := #[.long (-75)], vm := .none },
  { cls := 8, slots := #[.long (-74)], vm := .none },
  { cls := 8, slots := #[.long (-73)], vm := .none },
  { cls := 8, slots := #[.long (-72)], vm := .none },
  { cls := 8, slots := #[.long (-71)], vm := .none },
  { cls := 8, slots := #[.long (-70)], vm := .none },
  { cls := 8, slots := #[.long (-69)], vm := .none },
  { cls := 8, slots := #[.long (-68)], vm := .none },
  { cls := 8, slots := #[.long (-67)], vm := .none },
  { cls := 8, slots := #[.long (-66)], vm := .none },
  { cls := 8, slots := #[.long (-65)], vm := .none },
  { cls := 8, slots := #[.long (-64)], vm := .none },
  { cls := 8, slots := #[.long (-63)], vm := .none },
  { cls := 8, slots := #[.long (-62)], vm := .none },
  { cls := 8, slots := #[.long (-61)], vm := .none },
  { cls := 8, slots := #[.long (-60)], vm := .none },
  { cls := 8, slots := #[.long (-59)], vm := .none },
  { cls := 8, slots := #[.long (-58)], vm := .none },
  { cls := 8, slots := #[.long (-57)], vm := .none },
  { cls := 8, slots := #[.long (-56)], vm := .none },
  { cls := 8, slots := #[.long (-55)], vm := .none },
  { cls := 8, slots := #[.long (-54)], vm := .none },
  { cls := 8, slots := #[.long (-53)], vm := .none },
  { cls := 8, slots := #[.long (-52)], vm := .none },
  { cls := 8, slots := #[.long (-51)], vm := .none },
  { cls := 8, slots := #[.long (-50)], vm := .none },
  { cls := 8, slots := #[.long (-49)], vm := .none },
  { cls := 8, slots := #[.long (-48)], vm := .none },
  { cls := 8, slots := #[.long (-47)], vm := .none },
  { cls := 8, slots := #[.long (-46)], vm := .none },
  { cls := 8, slots := #[.long (-45)], vm := .none },
  { cls := 8, slots := #[.long (-44)], vm := .none },
  { cls := 8, slots := #[.long (-43)], vm := .none },
  { cls := 8, slots := #[.long (-42)], vm := .none },
  { cls := 8, slots := #[.long (-41)], vm := .none },
  { cls := 8, slots := #[.long (-40)], vm := .none },
  { cls := 8, slots := #[.long (-39)], vm := .none },
  { cls := 8, slots := #[.long (-38)], vm := .none },
  { cls := 8, slots := #[.long (-37)], vm := .none },
  { cls := 8, slots := #[.long (-36)], vm := .none },
  { cls := 8, slots := #[.long (-35)], vm := .none },
  { cls := 8, slots := #[.long (-34)], vm := .none },
  { cls := 8, slots := #[.long (-33)], vm := .none },
  { cls := 8, slots := #[.long (-32)], vm := .none },
  { cls := 8, slots := #[.long (-31)], vm := .none },
  { cls := 8, slots := #[.long (-30)], vm := .none },
  { cls := 8, slots := #[.long (-29)], vm := .none },
  { cls := 8, slots := #[.long (-28)], vm := .none },
  { cls := 8, slots := #[.long (-27)], vm := .none },
  { cls := 8, slots := #[.long (-26)], vm := .none },
  { cls := 8, slots := #[.long (-25)], vm := .none },
  { cls := 8, slots := #[.long (-24)], vm := .none },
  { cls := 8, slots := #[.long (-23)], vm := .none },
  { cls := 8, slots := #[.long (-22)], vm := .none },
  { cls := 8, slots := #[.long (-21)], vm := .none },
  { cls := 8, slots := #[.long (-20)], vm := .none },
  { cls := 8, slots := #[.long (-19)], vm := .none },
  { cls := 8, slots := #[.long (-18)], vm := .none },
  { cls := 8, slots := #[.long (-17)], vm := .none },
  { cls := 8, slots := #[.long (-16)], vm := .none },
  { cls := 8, slots := #[.long (-15)], vm := .none },
  { cls := 8, slots := #[.long (-14)], vm := .none },
  { cls := 8, slots := #[.long (-13)], vm := .none },
  { cls := 8, slots := #[.long (-12)], vm := .none },
  { cls := 8, slots := #[.long (-11)], vm := .none },
  { cls := 8, slots := #[.long (-10)], vm := .none },
  { cls := 8, slots := #[.long (-9)], vm := .none },
  { cls := 8, slots := #[.long (-8)], vm := .none },
  { cls := 8, slots := #[.long (-7)], vm := .none },
  { cls := 8, slots := #[.long (-6)], vm := .none },
  { cls := 8, slots := #[.long (-5)], vm := .none },
  { cls := 8, slots := #[.long (-4)], vm := .none },
  { cls := 8, slots := #[.long (-3)], vm := .none },
  { cls := 8, slots := #[.long (-2)], vm := .none },
  { cls := 8, slots := #[.long (-1)], vm := .none },
  { cls := 8, slots := #[.long (0)], vm := .none },
  { cls := 8, slots := #[.long (1)], vm := .none },
  { cls := 8, slots := #[.long (2)], vm := .none },
  { cls := 8, slots := #[.long (3)], vm := .none },
  { cls := 8, slots := #[.long (4)], vm := .none },
  { cls := 8, slots := #[.long (5)], vm := .none },
  { cls := 8, slots := #[.long (6)], vm := .none },
  { cls := 8, slots := #[.long (7)], vm := .none },
  { cls := 8, slots := #[.long (8)], vm := .none },
  { cls := 8, slots := #[.long (9)], vm := .none },
  { cls := 8, slots := #[.long (10)], vm := .none },
  { cls := 8, slots := #[.long (11)], vm := .none },
  { cls := 8, slots := #[.long (12)], vm := .none },
  { cls := 8, slots := #[.long (13)], vm := .none },
  { cls := 8, slots := #[.long (14)], vm := .none },
  { cls := 8, slots := #[.long (15)], vm := .none },
  { cls := 8, slots := #[.long (16)], vm := .none },
  { cls := 8, slots := #[.long (17)], vm := .none },
  { cls := 8, slots := #[.long (18)], vm := .none },
  { cls := 8, slots := #[.long (19)], vm := .none },
  { cls := 8, slots := #[.long (20)], vm := .none },
  { cls := 8, slots := #[.long (21)], vm := .none },
  { cls := 8, slots := #[.long (22)], vm := .none },
  { cls := 8, slots := #[.long (23)], vm := .none },
  { cls := 8, slots := #[.long (24)], vm := .none },
  { cls := 8, slots := #[.long (25)], vm := .none },
  { cls := 8, slots := #[.long (26)], vm := .none },
  { cls := 8, slots := #[.long (27)], vm := .none },
  { cls := 8, slots := #[.long (28)], vm := .none },
  { cls := 8, slots := #[.long (29)], vm := .none },
  { cls := 8, slots := #[.long (30)], vm := .none },
  { cls := 8, slots := #[.long (31)], vm := .none },
  { cls := 8, slots := #[.long (32)], vm := .none },
  { cls := 8, slots := #[.long (33)], vm := .none },
  { cls := 8, slots := #[.long (34)], vm := .none },
  { cls := 8, slots := #[.long (35)], vm := .none },
  { cls := 8, slots := #[.long (36)], vm := .none },
  { cls := 8, slots := #[.long (37)], vm := .none },
  { cls := 8, slots := #[.long (38)], vm := .none },
  { cls := 8, slots := #[.long (39)], vm := .none },
  { cls := 8, slots := #[.long (40)], vm := .none },
  { cls := 8, slots := #[.long (41)], vm := .none },
  { cls := 8, slots := #[.long (42)], vm := .none },
  { cls := 8, slots := #[.long (43)], vm := .none },
  { cls := 8, slots := #[.long (44)], vm := .none },
  { cls := 8, slots := #[.long (45)], vm := .none },
  { cls := 8, slots := #[.long (46)], vm := .none },
  { cls := 8, slots := #[.long (47)], vm := .none },
  { cls := 8, slots := #[.long (48)], vm := .none },
  { cls := 8, slots := #[.long (49)], vm := .none },
  { cls := 8, slots := #[.long (50)], vm := .none },
  { cls := 8, slots := #[.long (51)], vm := .none },
  { cls := 8, slots := #[.long (52)], vm := .none },
  { cls := 8, slots := #[.long (53)], vm := .none },
  { cls := 8, slots := #[.long (54)], vm := .none },
  { cls := 8, slots := #[.long (55)], vm := .none },
  { cls := 8, slots := #[.long (56)], vm := .none },
  { cls := 8, slots := #[.long (57)], vm := .none },
  { cls := 8, slots := #[.long (58)], vm := .none },
  { cls := 8, slots := #[.long (59)], vm := .none },
  { cls := 8, slots := #[.long (60)], vm := .none },
  { cls := 8, slots := #[.long (61)], vm := .none },
  { cls := 8, slots := #[.long (62)], vm := .none },
  { cls := 8, slots := #[.long (63)], vm := .none },
  { cls := 8, slots := #[.long (64)], vm := .none },
  { cls := 8, slots := #[.long (65)], vm := .none },
  { cls := 8, slots := #[.long (66)], vm := .none },
  { cls := 8, slots := #[.long (67)], vm := .none },
  { cls := 8, slots := #[.long (68)], vm := .none },
  { cls := 8, slots := #[.long (69)], vm := .none },
  { cls := 8, slots := #[.long (70)], vm := .none },
  { cls := 8, slots := #[.long (71)], vm := .none },
  { cls := 8, slots := #[.long (72)], vm := .none },
  { cls := 8, slots := #[.long (73)], vm := .none },
  { cls := 8, slots := #[.long (74)], vm := .none },
  { cls := 8, slots := #[.long (75)], vm := .none },
  { cls := 8, slots := #[.long (76)], vm := .none },
  { cls := 8, slots := #[.long (77)], vm := .none },
  { cls := 8, slots := #[.long (78)], vm := .none },
  { cls := 8, slots := #[.long (79)], vm := .none },
  { cls := 8, slots := #[.long (80)], vm := .none },
  { cls := 8, slots := #[.long (81)], vm := .none },
  { cls := 8, slots := #[.long (82)], vm := .none },
  { cls := 8, slots := #[.long (83)], vm := .none },
  { cls := 8, slots := #[.long (84)], vm := .none },
  { cls := 8, slots := #[.long (85)], vm := .none },
  { cls := 8, slots := #[.long (86)], vm := .none },
  { cls := 8, slots := #[.long (87)], vm := .none },
  { cls := 8, slots := #[.long (88)], vm := .none },
  { cls := 8, slots := #[.long (89)], vm := .none },
  { cls := 8, slots := #[.long (90)], vm := .none },
  { cls := 8, slots := #[.long (91)], vm := .none },
  { cls := 8, slots := #[.long (92)], vm := .none },
  { cls := 8, slots := #[.long (93)], vm := .none },
  { cls := 8, slots := #[.long (94)], vm := .none },
  { cls := 8, slots := #[.long (95)], vm := .none },
  { cls := 8, slots := #[.long (96)], vm := .none },
  { cls := 8, slots := #[.long (97)], vm := .none },
  { cls := 8, slots := #[.long (98)], vm := .none },
  { cls := 8, slots := #[.long (99)], vm := .none },
  { cls := 8, slots := #[.long (100)], vm := .none },
  { cls := 8, slots := #[.long (101)], vm := .none },
  { cls := 8, slots := #[.long (102)], vm := .none },
  { cls := 8, slots := #[.long (103)], vm := .none },
  { cls := 8, slots := #[.long (104)], vm := .none },
  { cls := 8, slots := #[.long (105)], vm := .none },
  { cls := 8, slots := #[.long (106)], vm := .none },
  { cls := 8, slots := #[.long (107)], vm := .none },
  { cls := 8, slots := #[.long (108)], vm := .none },
  { cls := 8, slots := #[.long (109)], vm := .none },
  { cls := 8, slots := #[.long (110)], vm := .none },
  { cls := 8, slots := #[.long (111)], vm := .none },
  { cls := 8, slots := #[.long (112)], vm := .none },
  { cls := 8, slots := #[.long (113)], vm := .none },
  { cls := 8, slots := #[.long (114)], vm := .none },
  { cls := 8, slots := #[.long (115)], vm := .none },
  { cls := 8, slots := #[.long (116)], vm := .none },
  { cls := 8, slots := #[.long (117)], vm := .none },
  { cls := 8, slots := #[.long (118)], vm := .none },
  { cls := 8, slots := #[.long (119)], vm := .none },
  { cls := 8, slots := #[.long (120)], vm := .none },
  { cls := 8, slots := #[.long (121)], vm := .none },
  { cls := 8, slots := #[.long (122)], vm := .none },
  { cls := 8, slots := #[.long (123)], vm := .none },
  { cls := 8, slots := #[.long (124)], vm := .none },
  { cls := 8, slots := #[.long (125)], vm := .none },
  { cls := 8, slots := #[.long (126)], vm := .none },
  { cls := 8, slots := #[.long (127)], vm := .none }]
def classes : Array Class := #[k0, k1, k2, k3, k4, k5, k6, k7, k8, k9, k10, k11, k12, k13, k14, k15]
def interned : List (Array UInt16 × Addr) := []
def slotsUsed : Nat := 515
def theMethod : MethodId := ⟨1, 1⟩
def args0 : Array Value := #[.long 1, .long 2, .long 3, .long 4, .long 5, .int 0]
def aboutOver (below : List Frame) : State where
  vm := { classes := classes, interned := interned.toArray }
  heap := heap
  slotsUsed := slotsUsed
  threads := #[{ frames := .invoking theMethod args0 :: below }]
def below0 : List Frame := [.native { method := ⟨0, 0⟩, args := #[] }]
def about1 : State := aboutOver below0
def p0 : Program := .bare "" "" ""
def e0 : Env := launch0.env 0 0 0
theorem w_frames : about1.frames = Frame.invoking theMethod args0 :: below0 := rfl
set_option maxRecDepth 65536 in
theorem w_args : argsFit about1.vm theMethod args0 = true := by decide +kernel
set_option maxRecDepth 65536 in
theorem w_heap : heapFits about1 = true := by decide +kernel
set_option maxRecDepth 65536 in
theorem w_runnable : about1.curStatus? = some .runnable := by decide +kernel
set_option maxRecDepth 65536 in
theorem w_alone : about1.alone = true := by decide +kernel
set_option maxRecDepth 65536 in
theorem w_named : about1.methodNamed? x = some theMethod := by decide +kernel
set_option maxRecDepth 65536 in
theorem w_hears : about1.hears theMethod below0 = true := by decide +kernel
set_option maxRecDepth 65536 in
theorem w_ripe : about1.ripe theMethod args0 below0 = true := by decide +kernel
theorem w_running : about1.status = .running := rfl
set_option maxRecDepth 65536 in
theorem w_room : about1.hasRoom e0.platform room_1 = true :=
  launch0.hasRoom_least _ room_1 (by decide +kernel) (by decide +kernel) (by decide +kernel) (by decide +kernel) (by decide +kernel) (by decide +kernel)
theorem allAtoms_all (ts : List Jvm.Cond) (a : Array Jvm.Value) (st : Jvm.State) : (allAtoms ts).before a st = ts.all (fun c => c.before a st) := by
  induction ts with
  | nil => rfl
  | cons c t ih =>
    show (Jvm.Cond.and c (allAtoms t)).before a st = _
    rw [Jvm.Cond.before_and, ih, List.all_cons]
def words1 : List Jvm.Cond := Jvm.Cond.code x code maxLocals ret :: tables_1
/-- a 'code' word, met by the world's own term for the bytes: nothing is compared byte by byte -/
theorem code_word {y : MethodName} {bytes : ByteArray} {mx : Nat} {rt : Option FieldType} {a : Array Value} {s : State} {m : MethodId} {meth : Method} {c : Code} (h1 : s.methodNamed? y = some m) (h2 : s.vm.method? m = some meth) (h3 : meth.code = some c) (h4 : c.code = bytes)
    (h5 : (c.maxLocals == mx && c.exceptionTable.isEmpty && decide (c.maxStack ≤ mostOperands) && decide (meth.sig.returnType = rt) && !meth.locks && decide (parseMethodDescriptor y.desc = some meth.sig)) = true) : (Jvm.Cond.code y bytes mx rt).before a s = true := by
  simp only [Bool.and_eq_true, beq_iff_eq, Bool.not_eq_true', decide_eq_true_eq] at h5
  obtain ⟨⟨⟨⟨⟨g1, g2⟩, g3⟩, g4⟩, g5⟩, g6⟩ := h5
  simp [Cond.before, Cond.holds, Cond.value, h1, h2, h3, h4, g1, g2, g3, g4, g5, g6]
def isCode : Jvm.Cond → Bool
  | .code _ _ _ _ => true
  | _ => false
theorem all_split {L : List Jvm.Cond} {P : Jvm.Cond → Bool} (h1 : L.all (fun c => isCode c || P c) = true) (h2 : ∀ c ∈ L.filter isCode, P c = true) : L.all P = true := by
  refine List.all_eq_true.mpr fun c hc => ?_
  have h := List.all_eq_true.mp h1 c hc
  rcases Bool.eq_false_or_eq_true (isCode c) with hi | hi
  · exact h2 c (List.mem_filter.mpr ⟨hc, hi⟩)
  · simpa [hi] using h
set_option maxRecDepth 65536 in
theorem w_c0 : (Jvm.Cond.code x code maxLocals ret).before args0 about1 = true := code_word (m := ⟨1, 1⟩) (meth := k1m1) (c := k1c1) (by decide +kernel) rfl rfl rfl (by decide +kernel)
set_option maxRecDepth 65536 in
theorem w_c1 : (Jvm.Cond.code ({ cls := "com/example/bill_run/billrun/InputCounts", name := "<init>", desc := "(JJJ)V" } : Jvm.MethodName) prog_19_method_1_code (7 : Nat) (Option.none : Option Jvm.ClassFile.FieldType)).before args0 about1 = true := code_word (m := ⟨2, 0⟩) (meth := k2m0) (c := k2c0) (by decide +kernel) rfl rfl rfl (by decide +kernel)
set_option maxRecDepth 65536 in
theorem w_c2 : (Jvm.Cond.code ({ cls := "java/lang/Object", name := "<init>", desc := "()V" } : Jvm.MethodName) object_method_1_code (1 : Nat) (Option.none : Option Jvm.ClassFile.FieldType)).before args0 about1 = true := code_word (m := ⟨0, 0⟩) (meth := k0m0) (c := k0c0) (by decide +kernel) rfl rfl rfl (by decide +kernel)
set_option maxRecDepth 65536 in
theorem w_c3 : (Jvm.Cond.code ({ cls := "com/example/bill_run/billrun/InputCounts", name := "equals", desc := "(Ljava/lang/Object;)Z" } : Jvm.MethodName) prog_19_method_6_code (3 : Nat) (Option.some Jvm.ClassFile.FieldType.boolean)).before args0 about1 = true := code_word (m := ⟨2, 1⟩) (meth := k2m1) (c := k2c1) (by decide +kernel) rfl rfl rfl (by decide +kernel)
set_option maxRecDepth 65536 in
theorem w_c4 : (Jvm.Cond.code ({ cls := "java/lang/Long", name := "valueOf", desc := "(J)Ljava/lang/Long;" } : Jvm.MethodName) jdk_35_method_24_code (3 : Nat) (Option.some (Jvm.ClassFile.FieldType.object "java/lang/Long"))).before args0 about1 = true := code_word (m := ⟨8, 0⟩) (meth := k8m0) (c := k8c0) (by decide +kernel) rfl rfl rfl (by decide +kernel)
set_option maxRecDepth 65536 in
theorem w_c5 : (Jvm.Cond.code ({ cls := "java/lang/Long", name := "<init>", desc := "(J)V" } : Jvm.MethodName) jdk_35_method_26_code (3 : Nat) (Option.none : Option Jvm.ClassFile.FieldType)).before args0 about1 = true := code_word (m := ⟨8, 1⟩) (meth := k8m1) (c := k8c1) (by decide +kernel) rfl rfl rfl (by decide +kernel)
set_option maxRecDepth 65536 in
theorem w_c6 : (Jvm.Cond.code ({ cls := "java/lang/Number", name := "<init>", desc := "()V" } : Jvm.MethodName) jdk_18_method_1_code (1 : Nat) (Option.none : Option Jvm.ClassFile.FieldType)).before args0 about1 = true := code_word (m := ⟨4, 0⟩) (meth := k4m0) (c := k4c0) (by decide +kernel) rfl rfl rfl (by decide +kernel)
def codes1 : List Jvm.Cond := [Jvm.Cond.code x code maxLocals ret, Jvm.Cond.code ({ cls := "com/example/bill_run/billrun/InputCounts", name := "<init>", desc := "(JJJ)V" } : Jvm.MethodName) prog_19_method_1_code (7 : Nat) (Option.none : Option Jvm.ClassFile.FieldType), Jvm.Cond.code ({ cls := "java/lang/Object", name := "<init>", desc := "()V" } : Jvm.MethodName) object_method_1_code (1 : Nat) (Option.none : Option Jvm.ClassFile.FieldType), Jvm.Cond.code ({ cls := "com/example/bill_run/billrun/InputCounts", name := "equals", desc := "(Ljava/lang/Object;)Z" } : Jvm.MethodName) prog_19_method_6_code (3 : Nat) (Option.some Jvm.ClassFile.FieldType.boolean), Jvm.Cond.code ({ cls := "java/lang/Long", name := "valueOf", desc := "(J)Ljava/lang/Long;" } : Jvm.MethodName) jdk_35_method_24_code (3 : Nat) (Option.some (Jvm.ClassFile.FieldType.object "java/lang/Long")), Jvm.Cond.code ({ cls := "java/lang/Long", name := "<init>", desc := "(J)V" } : Jvm.MethodName) jdk_35_method_26_code (3 : Nat) (Option.none : Option Jvm.ClassFile.FieldType), Jvm.Cond.code ({ cls := "java/lang/Number", name := "<init>", desc := "()V" } : Jvm.MethodName) jdk_18_method_1_code (1 : Nat) (Option.none : Option Jvm.ClassFile.FieldType)]
set_option maxRecDepth 65536 in
theorem codes_eq : words1.filter isCode = codes1 := rfl
theorem w_codes : ∀ c ∈ words1.filter isCode, c.before args0 about1 = true := by
  rw [codes_eq]
  intro c hc
  simp only [codes1, List.mem_cons, List.not_mem_nil, or_false] at hc
  rcases hc with rfl | rfl | rfl | rfl | rfl | rfl | rfl
  · exact w_c0
  · exact w_c1
  · exact w_c2
  · exact w_c3
  · exact w_c4
  · exact w_c5
  · exact w_c6
set_option maxRecDepth 65536 in
theorem w_t1 : (words1.take 24).all (fun c => isCode c || c.before args0 about1) = true := by decide +kernel
set_option maxRecDepth 65536 in
theorem w_t2 : ((words1.drop 24).take 24).all (fun c => isCode c || c.before args0 about1) = true := by decide +kernel
set_option maxRecDepth 65536 in
theorem w_t3 : ((words1.drop 24).drop 24).all (fun c => isCode c || c.before args0 about1) = true := by decide +kernel
theorem w_tables : (allAtoms (Jvm.Cond.code x code maxLocals ret :: tables_1)).before args0 about1 = true := by
  rw [allAtoms_all]
  show words1.all (fun c => c.before args0 about1) = true
  refine all_split ?_ w_codes
  rw [← List.take_append_drop 24 words1, List.all_append, w_t1, ← List.take_append_drop 24 (words1.drop 24), List.all_append, w_t2, w_t3]
  rfl
set_option maxRecDepth 65536 in
theorem w_rest : rest_1_c.before args0 about1 = true := by decide +kernel
set_option maxRecDepth 65536 in
theorem w_case : (Jvm.Cond.and given_1 narrow_1).before args0 about1 = true := by decide +kernel
theorem w_applies : (headSpec (Jvm.Cond.code x code maxLocals ret :: tables_1) room_1).applies x e0.platform about1 = true :=
  (Spec.applies_iff w_frames).mpr ⟨w_running, w_runnable, w_alone, w_named, w_hears, w_ripe, w_room, w_tables⟩
theorem atStart : AtStart classFile x code maxLocals ret World_1 tables_1 room_1 Calls_1 rest_1 Pre_1 launch0 p0 e0 about1 theMethod args0 below0 :=
  ⟨lists_1, trivial, launch0.admits_env _ _ _, launch0.least_env, fairChoices_fair.cas, fairChoices_fair.clock, w_frames, w_args, w_heap, w_applies, trivial, w_rest, w_case⟩
end start1
theorem witness_1 : WitnessClaimed_1 := ⟨start1.p0, start1.e0, start1.about1, start1.theMethod, start1.args0, start1.below0, start1.atStart⟩
end Jvm.Pilot.@@N@@

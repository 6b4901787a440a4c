import JvmDerived
import JvmDerived.Pilot.@@N@@Statement
import JvmDerived.Pilot.@@N@@Code
set_option linter.unusedVariables false
set_option linter.unusedSimpArgs false
namespace Jvm.Pilot.@@N@@
open Jvm Jvm.ClassFile Sem Op Lib Jvm.Free Jvm.Stand Jvm.LawKit Jvm.RoadKit Bundle Jvm.Pilot.@@N@@.Jvm.D
theorem hwk {ts : List Jvm.Cond} {a0 : Array Value} {Z : State} (hw : ∀ d ∈ ts, d.before a0 Z = true) (i : Nat) {d : Jvm.Cond} (h : ts[i]? = some d) : d.before a0 Z = true := hw d (List.mem_of_getElem? h)
theorem old_le {Z : State} {n0 : Nat} {h : Heap} (O : Old Z n0 h) : n0 ≤ h.size := O.1 ▸ O.2.1
theorem narrow_refV {t : FieldType} {v : Value} (ht : t.isReference = true) (hv : v.isRef = true) : narrow t v = v := by rcases ref_cases hv with rfl | ⟨a, rfl⟩ <;> cases t <;> first | rfl | cases ht
theorem fits_refV {t : FieldType} {v : Value} (ht : t.isReference = true) (hv : v.isRef = true) : fits t v = true := by rcases ref_cases hv with rfl | ⟨a, rfl⟩ <;> cases t <;> first | rfl | cases ht
def SameStand {p : Program} {l : Launch} {e : Env} {R : Room} {s : State} {m : MethodId} {args : Array Value} {below : List Frame} {meth : Method} {c : Code} {T : State} {locs : List Loc} {cells slots : Nat} (_ : Stand p l e R s m args below meth c T locs cells slots) (T' : State) : Prop := Stand p l e R s m args below meth c T' locs cells slots
def WideStand {p : Program} {l : Launch} {e : Env} {R : Room} {s : State} {m : MethodId} {args : Array Value} {below : List Frame} {meth : Method} {c : Code} {T : State} {locs : List Loc} {cells slots : Nat} (_ : Stand p l e R s m args below meth c T locs cells slots) (s' T' : State) (dc ds : Nat) : Prop := Stand p l e R s' m args below meth c T' locs (cells + dc) (slots + ds)
def JoinStand {p : Program} {l : Launch} {e : Env} {R : Room} {s : State} {m : MethodId} {args : Array Value} {below : List Frame} {meth : Method} {c : Code} {T : State} {locs : List Loc} {cells slots : Nat} (_ : Stand p l e R s m args below meth c T locs cells slots) (s' T' : State) (L' : List Loc) (dc ds : Nat) : Prop := Stand p l e R s' m args below meth c T' (locs ++ L') (cells + dc) (slots + ds)
theorem own_jn {p : Program} {l : Launch} {e : Env} {R : Room} {s : State} {m : MethodId} {args : Array Value} {below : List Frame} {meth : Method} {c : Code} {T : State} {locs : List Loc} {cells slots : Nat} (X : Stand p l e R s m args below meth c T locs cells slots) : Stand p l e R s m args below meth c T (locs ++ []) cells slots := by rw [List.append_nil]; exact X
theorem own_ext {h h' h'' : Heap} (a : Ext h h') (b : Ext h' h'') : Ext h h'' := ⟨Nat.le_trans a.1 b.1, fun x c q => b.2 x c (a.2 x c q)⟩
theorem own_ite {c : Prop} [Decidable c] {a b : Value} (ha : a.isRef = true) (hb : b.isRef = true) : (if c then a else b).isRef = true := by split <;> assumption
theorem own_eqI {args : Array Value} {s : State} {a b : Term} {n : Int32} (h : (Jvm.Cond.eq a b).value args s none s [] = some true) (hb : b.eval args s none [] s = some (.int n)) : a.eval args s none [] s = some (.int n) := by
  obtain ⟨x, y, h1, h2, h3, h4⟩ := cmp_v (Or.inl h)
  cases h2.symm.trans hb
  obtain ⟨z, rfl⟩ := h4
  have q := gotT (Jvm.Cond.eq_ints h1 hb) h
  rw [h1, q]
theorem own_eqR {args : Array Value} {s : State} {a b : Term} {x y : Value} (h : (Jvm.Cond.eq a b).value args s none s [] = some true) (ha : a.eval args s none [] s = some x) (hb : b.eval args s none [] s = some y) (hx : x.isRef = true) (hy : y.isRef = true) : x = y := gotT (eq_R ha hb hx hy) h
theorem own_neR {args : Array Value} {s : State} {a b : Term} {x y : Value} (h : (Jvm.Cond.not (Jvm.Cond.eq a b)).value args s none s [] = some true) (ha : a.eval args s none [] s = some x) (hb : b.eval args s none [] s = some y) (hx : x.isRef = true) (hy : y.isRef = true) : ¬ x = y := gotF (eq_R ha hb hx hy) (not_v h)
theorem ef_rm1 (m : MethodId) (x0 : Int32) : entryFrame m #[(.int x0)] 1 = mkF m 0 #[.val (.int x0)] [] := by first | (simp [entryFrame, mkF, argsToLocals, Value.category]; done) | rfl
def V1 (p : Int32) (w_Kind_ALL_USERS w_Kind_ALL_AUTHENTICATED_USERS w_Kind_USER w_Kind_SERVICE_ACCOUNT w_Kind_GROUP w_Kind_DOMAIN w_Kind_PRINCIPAL w_Kind_PRINCIPAL_SET w_Kind_DELETED_USER w_Kind_DELETED_SERVICE_ACCOUNT w_Kind_DELETED_GROUP w_Kind_DELETED_PRINCIPAL : Addr) : Addr := if p = 0 then w_Kind_ALL_USERS else if p = 1 then w_Kind_ALL_AUTHENTICATED_USERS else if p = 2 then w_Kind_USER else if p = 3 then w_Kind_SERVICE_ACCOUNT else if p = 4 then w_Kind_GROUP else if p = 5 then w_Kind_DOMAIN else if p = 6 then w_Kind_PRINCIPAL else if p = 7 then w_Kind_PRINCIPAL_SET else if p = 8 then w_Kind_DELETED_USER else if p = 9 then w_Kind_DELETED_SERVICE_ACCOUNT else if p = 10 then w_Kind_DELETED_GROUP else w_Kind_DELETED_PRINCIPAL
def Q_rm1 (Z : State) (p1 : Int32) (w_Kind_ALL_USERS : Addr) (w_Kind_ALL_AUTHENTICATED_USERS : Addr) (w_Kind_USER : Addr) (w_Kind_SERVICE_ACCOUNT : Addr) (w_Kind_GROUP : Addr) (w_Kind_DOMAIN : Addr) (w_Kind_PRINCIPAL : Addr) (w_Kind_PRINCIPAL_SET : Addr) (w_Kind_DELETED_USER : Addr) (w_Kind_DELETED_SERVICE_ACCOUNT : Addr) (w_Kind_DELETED_GROUP : Addr) (w_Kind_DELETED_PRINCIPAL : Addr) (h0 : Heap) (n0 : Nat) (v : Option Value) (h : Heap) (L : List Loc) : Prop := (v = some (.ref (V1 p1 w_Kind_ALL_USERS w_Kind_ALL_AUTHENTICATED_USERS w_Kind_USER w_Kind_SERVICE_ACCOUNT w_Kind_GROUP w_Kind_DOMAIN w_Kind_PRINCIPAL w_Kind_PRINCIPAL_SET w_Kind_DELETED_USER w_Kind_DELETED_SERVICE_ACCOUNT w_Kind_DELETED_GROUP w_Kind_DELETED_PRINCIPAL))) ∧ (Fr n0 L) ∧ (h = h0) ∧ (Exa Z Z.heap (V1 p1 w_Kind_ALL_USERS w_Kind_ALL_AUTHENTICATED_USERS w_Kind_USER w_Kind_SERVICE_ACCOUNT w_Kind_GROUP w_Kind_DOMAIN w_Kind_PRINCIPAL w_Kind_PRINCIPAL_SET w_Kind_DELETED_USER w_Kind_DELETED_SERVICE_ACCOUNT w_Kind_DELETED_GROUP w_Kind_DELETED_PRINCIPAL) "com/example/role_bindings/rolebindings/Member$Kind")
theorem pn_0 : plainName "com/example/role_bindings/rolebindings/KindIsIdentityPinLaw" = true := by first | (simp [plainName, overriddenIn]; done) | decide +kernel
theorem d1_0 : decode method_2_code 0 = .ok (.iload_n 0, 1) := by decide +kernel
theorem d1_1 : decode method_2_code 1 = .ok (.ifCond .ne 7, 3) := by decide +kernel
theorem d1_4 : decode method_2_code 4 = .ok (.getstatic 7, 3) := by decide +kernel
theorem d1_7 : decode method_2_code 7 = .ok (.areturn, 1) := by decide +kernel
theorem d1_8 : decode method_2_code 8 = .ok (.iload_n 0, 1) := by decide +kernel
theorem d1_9 : decode method_2_code 9 = .ok (.iconst 1, 1) := by decide +kernel
theorem d1_10 : decode method_2_code 10 = .ok (.if_icmp .ne 7, 3) := by decide +kernel
theorem d1_13 : decode method_2_code 13 = .ok (.getstatic 13, 3) := by decide +kernel
theorem d1_16 : decode method_2_code 16 = .ok (.areturn, 1) := by decide +kernel
theorem d1_17 : decode method_2_code 17 = .ok (.iload_n 0, 1) := by decide +kernel
theorem d1_18 : decode method_2_code 18 = .ok (.iconst 2, 1) := by decide +kernel
theorem d1_19 : decode method_2_code 19 = .ok (.if_icmp .ne 7, 3) := by decide +kernel
theorem d1_22 : decode method_2_code 22 = .ok (.getstatic 16, 3) := by decide +kernel
theorem d1_25 : decode method_2_code 25 = .ok (.areturn, 1) := by decide +kernel
theorem d1_26 : decode method_2_code 26 = .ok (.iload_n 0, 1) := by decide +kernel
theorem d1_27 : decode method_2_code 27 = .ok (.iconst 3, 1) := by decide +kernel
theorem d1_28 : decode method_2_code 28 = .ok (.if_icmp .ne 7, 3) := by decide +kernel
theorem d1_31 : decode method_2_code 31 = .ok (.getstatic 19, 3) := by decide +kernel
theorem d1_34 : decode method_2_code 34 = .ok (.areturn, 1) := by decide +kernel
theorem d1_35 : decode method_2_code 35 = .ok (.iload_n 0, 1) := by decide +kernel
theorem d1_36 : decode method_2_code 36 = .ok (.iconst 4, 1) := by decide +kernel
theorem d1_37 : decode method_2_code 37 = .ok (.if_icmp .ne 7, 3) := by decide +kernel
theorem d1_40 : decode method_2_code 40 = .ok (.getstatic 22, 3) := by decide +kernel
theorem d1_43 : decode method_2_code 43 = .ok (.areturn, 1) := by decide +kernel
theorem d1_44 : decode method_2_code 44 = .ok (.iload_n 0, 1) := by decide +kernel
theorem d1_45 : decode method_2_code 45 = .ok (.iconst 5, 1) := by decide +kernel
theorem d1_46 : decode method_2_code 46 = .ok (.if_icmp .ne 7, 3) := by decide +kernel
theorem d1_49 : decode method_2_code 49 = .ok (.getstatic 25, 3) := by decide +kernel
theorem d1_52 : decode method_2_code 52 = .ok (.areturn, 1) := by decide +kernel
theorem d1_53 : decode method_2_code 53 = .ok (.iload_n 0, 1) := by decide +kernel
theorem d1_54 : decode method_2_code 54 = .ok (.bipush 6, 2) := by decide +kernel
theorem d1_56 : decode method_2_code 56 = .ok (.if_icmp .ne 7, 3) := by decide +kernel
theorem d1_59 : decode method_2_code 59 = .ok (.getstatic 28, 3) := by decide +kernel
theorem d1_62 : decode method_2_code 62 = .ok (.areturn, 1) := by decide +kernel
theorem d1_63 : decode method_2_code 63 = .ok (.iload_n 0, 1) := by decide +kernel
theorem d1_64 : decode method_2_code 64 = .ok (.bipush 7, 2) := by decide +kernel
theorem d1_66 : decode method_2_code 66 = .ok (.if_icmp .ne 7, 3) := by decide +kernel
theorem d1_69 : decode method_2_code 69 = .ok (.getstatic 31, 3) := by decide +kernel
theorem d1_72 : decode method_2_code 72 = .ok (.areturn, 1) := by decide +kernel
theorem d1_73 : decode method_2_code 73 = .ok (.iload_n 0, 1) := by decide +kernel
theorem d1_74 : decode method_2_code 74 = .ok (.bipush 8, 2) := by decide +kernel
theorem d1_76 : decode method_2_code 76 = .ok (.if_icmp .ne 7, 3) := by decide +kernel
theorem d1_79 : decode method_2_code 79 = .ok (.getstatic 34, 3) := by decide +kernel
theorem d1_82 : decode method_2_code 82 = .ok (.areturn, 1) := by decide +kernel
theorem d1_83 : decode method_2_code 83 = .ok (.iload_n 0, 1) := by decide +kernel
theorem d1_84 : decode method_2_code 84 = .ok (.bipush 9, 2) := by decide +kernel
theorem d1_86 : decode method_2_code 86 = .ok (.if_icmp .ne 7, 3) := by decide +kernel
theorem d1_89 : decode method_2_code 89 = .ok (.getstatic 37, 3) := by decide +kernel
theorem d1_92 : decode method_2_code 92 = .ok (.areturn, 1) := by decide +kernel
theorem d1_93 : decode method_2_code 93 = .ok (.iload_n 0, 1) := by decide +kernel
theorem d1_94 : decode method_2_code 94 = .ok (.bipush 10, 2) := by decide +kernel
theorem d1_96 : decode method_2_code 96 = .ok (.if_icmp .ne 7, 3) := by decide +kernel
theorem d1_99 : decode method_2_code 99 = .ok (.getstatic 40, 3) := by decide +kernel
theorem d1_102 : decode method_2_code 102 = .ok (.areturn, 1) := by decide +kernel
theorem d1_103 : decode method_2_code 103 = .ok (.getstatic 43, 3) := by decide +kernel
theorem d1_106 : decode method_2_code 106 = .ok (.areturn, 1) := by decide +kernel
set_option maxRecDepth 65536 in
set_option maxHeartbeats 40000000 in
theorem rm1 (l : Launch) (Z : State) (a0 : Array Value) (hw : ∀ d ∈ tables_1, d.before a0 Z = true) (ws : List Jvm.Cond) (p1 : Int32) (w_Kind_ALL_USERS : Addr) (w_Kind_ALL_AUTHENTICATED_USERS : Addr) (w_Kind_USER : Addr) (w_Kind_SERVICE_ACCOUNT : Addr) (w_Kind_GROUP : Addr) (w_Kind_DOMAIN : Addr) (w_Kind_PRINCIPAL : Addr) (w_Kind_PRINCIPAL_SET : Addr) (w_Kind_DELETED_USER : Addr) (w_Kind_DELETED_SERVICE_ACCOUNT : Addr) (w_Kind_DELETED_GROUP : Addr) (w_Kind_DELETED_PRINCIPAL : Addr) (h0 : Heap) (n0 : Nat) (O0 : Old Z n0 h0) (S_Kind_USER : Sta Z Z.heap "com/example/role_bindings/rolebindings/Member$Kind" "USER" "Lcom/example/role_bindings/rolebindings/Member$Kind;" (.ref w_Kind_USER)) (S_Kind_GROUP : Sta Z Z.heap "com/example/role_bindings/rolebindings/Member$Kind" "GROUP" "Lcom/example/role_bindings/rolebindings/Member$Kind;" (.ref w_Kind_GROUP)) (S_Kind_DOMAIN : Sta Z Z.heap "com/example/role_bindings/rolebindings/Member$Kind" "DOMAIN" "Lcom/example/role_bindings/rolebindings/Member$Kind;" (.ref w_Kind_DOMAIN)) (S_Kind_ALL_USERS : Sta Z Z.heap "com/example/role_bindings/rolebindings/Member$Kind" "ALL_USERS" "Lcom/example/role_bindings/rolebindings/Member$Kind;" (.ref w_Kind_ALL_USERS)) (S_Kind_PRINCIPAL : Sta Z Z.heap "com/example/role_bindings/rolebindings/Member$Kind" "PRINCIPAL" "Lcom/example/role_bindings/rolebindings/Member$Kind;" (.ref w_Kind_PRINCIPAL)) (S_Kind_DELETED_USER : Sta Z Z.heap "com/example/role_bindings/rolebindings/Member$Kind" "DELETED_USER" "Lcom/example/role_bindings/rolebindings/Member$Kind;" (.ref w_Kind_DELETED_USER)) (S_Kind_PRINCIPAL_SET : Sta Z Z.heap "com/example/role_bindings/rolebindings/Member$Kind" "PRINCIPAL_SET" "Lcom/example/role_bindings/rolebindings/Member$Kind;" (.ref w_Kind_PRINCIPAL_SET)) (S_Kind_DELETED_GROUP : Sta Z Z.heap "com/example/role_bindings/rolebindings/Member$Kind" "DELETED_GROUP" "Lcom/example/role_bindings/rolebindings/Member$Kind;" (.ref w_Kind_DELETED_GROUP)) (S_Kind_SERVICE_ACCOUNT : Sta Z Z.heap "com/example/role_bindings/rolebindings/Member$Kind" "SERVICE_ACCOUNT" "Lcom/example/role_bindings/rolebindings/Member$Kind;" (.ref w_Kind_SERVICE_ACCOUNT)) (S_Kind_DELETED_PRINCIPAL : Sta Z Z.heap "com/example/role_bindings/rolebindings/Member$Kind" "DELETED_PRINCIPAL" "Lcom/example/role_bindings/rolebindings/Member$Kind;" (.ref w_Kind_DELETED_PRINCIPAL)) (S_Kind_ALL_AUTHENTICATED_USERS : Sta Z Z.heap "com/example/role_bindings/rolebindings/Member$Kind" "ALL_AUTHENTICATED_USERS" "Lcom/example/role_bindings/rolebindings/Member$Kind;" (.ref w_Kind_ALL_AUTHENTICATED_USERS)) (S_Kind_DELETED_SERVICE_ACCOUNT : Sta Z Z.heap "com/example/role_bindings/rolebindings/Member$Kind" "DELETED_SERVICE_ACCOUNT" "Lcom/example/role_bindings/rolebindings/Member$Kind;" (.ref w_Kind_DELETED_SERVICE_ACCOUNT)) (E_w_Kind_USER : Exa Z Z.heap w_Kind_USER "com/example/role_bindings/rolebindings/Member$Kind") (E_w_Kind_GROUP : Exa Z Z.heap w_Kind_GROUP "com/example/role_bindings/rolebindings/Member$Kind") (E_w_Kind_DOMAIN : Exa Z Z.heap w_Kind_DOMAIN "com/example/role_bindings/rolebindings/Member$Kind") (E_w_Kind_ALL_USERS : Exa Z Z.heap w_Kind_ALL_USERS "com/example/role_bindings/rolebindings/Member$Kind") (E_w_Kind_PRINCIPAL : Exa Z Z.heap w_Kind_PRINCIPAL "com/example/role_bindings/rolebindings/Member$Kind") (E_w_Kind_DELETED_USER : Exa Z Z.heap w_Kind_DELETED_USER "com/example/role_bindings/rolebindings/Member$Kind") (E_w_Kind_PRINCIPAL_SET : Exa Z Z.heap w_Kind_PRINCIPAL_SET "com/example/role_bindings/rolebindings/Member$Kind") (E_w_Kind_DELETED_GROUP : Exa Z Z.heap w_Kind_DELETED_GROUP "com/example/role_bindings/rolebindings/Member$Kind") (E_w_Kind_SERVICE_ACCOUNT : Exa Z Z.heap w_Kind_SERVICE_ACCOUNT "com/example/role_bindings/rolebindings/Member$Kind") (E_w_Kind_DELETED_PRINCIPAL : Exa Z Z.heap w_Kind_DELETED_PRINCIPAL "com/example/role_bindings/rolebindings/Member$Kind") (E_w_Kind_ALL_AUTHENTICATED_USERS : Exa Z Z.heap w_Kind_ALL_AUTHENTICATED_USERS "com/example/role_bindings/rolebindings/Member$Kind") (E_w_Kind_DELETED_SERVICE_ACCOUNT : Exa Z Z.heap w_Kind_DELETED_SERVICE_ACCOUNT "com/example/role_bindings/rolebindings/Member$Kind") :
    MetFree l (⟨"com/example/role_bindings/rolebindings/KindIsIdentityPinLaw", "kindAt", "(I)Lcom/example/role_bindings/rolebindings/Member$Kind;"⟩ : MethodName) (head1 (Jvm.Cond.code (⟨"com/example/role_bindings/rolebindings/KindIsIdentityPinLaw", "kindAt", "(I)Lcom/example/role_bindings/rolebindings/Member$Kind;"⟩ : MethodName) method_2_code 1 (some (.object "com/example/role_bindings/rolebindings/Member$Kind")) :: ws) ({ frames := 0, cells := 0, slots := 0, locals := 0 } : Room)) (fun a U => a = #[(.int p1)] ∧ Z.Warmed39 U.vm ∧ U.heap = h0) (fun _ _ _ _ _ => True) (fun _ U o U' => ∃ v L, o = .returned v ∧ Q_rm1 Z p1 w_Kind_ALL_USERS w_Kind_ALL_AUTHENTICATED_USERS w_Kind_USER w_Kind_SERVICE_ACCOUNT w_Kind_GROUP w_Kind_DOMAIN w_Kind_PRINCIPAL w_Kind_PRINCIPAL_SET w_Kind_DELETED_USER w_Kind_DELETED_SERVICE_ACCOUNT w_Kind_DELETED_GROUP w_Kind_DELETED_PRINCIPAL h0 n0 v U'.heap L ∧ FrameEnd U o U' L ({ frames := 0, cells := 0, slots := 0, locals := 0 } : Room).cells ({ frames := 0, cells := 0, slots := 0, locals := 0 } : Room).slots) := by
  refine MetFree.of_bodySF (plainFor_of_name pn_0) hisR ?_
  intro p e s m args below meth c s₁ Bd hml0 hP hK
  obtain ⟨rfl, hZ, hh⟩ := hP
  have hx := Bd.exec
  have hby := Bd.bytes
  have hml : c.maxLocals = 1 := hml0
  have hown : s.vm.findClass "com/example/role_bindings/rolebindings/KindIsIdentityPinLaw" = some m.cls := findClass_of_methodNamed Bd.named
  have hnm := (name_of_methodNamed Bd.named Bd.method).1
  have X0 : Stand p l e ({ frames := 0, cells := 0, slots := 0, locals := 0 } : Room) s m #[(.int p1)] below meth c s₁ [] 0 0 := Stand.of_body Bd
  have e0 : s₁.heap = h0 := by rw [← hh, Bd.state]; rfl
  have N0 := Fr.nil n0
  have Z0 : n0 ≤ h0.size := old_le O0
  have pre0 : ∀ t, Steps p.tables e below (s₁.setTop (mkF m 0 #[.val (.int p1)] [])) t → Steps p.tables e below (s₁.setTop (entryFrame m #[(.int p1)] 1)) t := fun t k => castTop (ef_rm1 m p1) k
  have S2 : ∀ t, Steps p.tables e below (s₁.setTop (mkF m 1 #[.val (.int p1)] [(.int p1)])) t → Steps p.tables e below (s₁.setTop (entryFrame m #[(.int p1)] 1)) t := fun t k => by
    refine pre0 t ?_
    show Steps p.tables e below (s₁.setTop (mkF m 0 #[.val (.int p1)] [])) _
    refine XS.iloadN X0.here hx rfl (hb hby d1_0) rfl ?_
    exact k
  by_cases hc1 : p1 = (0 : Int32)
  · have c3 : Sta Z h0 "com/example/role_bindings/rolebindings/Member$Kind" "ALL_USERS" "Lcom/example/role_bindings/rolebindings/Member$Kind;" (.ref w_Kind_ALL_USERS) := Sta.ext (O0).2 S_Kind_ALL_USERS
    obtain ⟨T4, X4, e4, st4⟩ := getS2 X0 hx hZ hown (host := "") (Or.inl (hwk hw 5 rfl)) Via.refl e0 c3 (g := (mkF m 4 #[.val (.int p1)] [])) rfl (hb hby d1_4)
    obtain ⟨fs, hr, hrun, hended, hW, hsame⟩ := X4.leave (v := some (.ref w_Kind_ALL_USERS)) (fun h => by rw [Bd.returns] at h; cases h)
    refine ⟨_, _, S2 _ ?_, hrun, hended, _, _, rfl, ?_, ⟨_, rfl⟩, hW, hsame.mono (by decide) (by decide)⟩
    · show Steps p.tables e below (s₁.setTop (mkF m 1 #[.val (.int p1)] [(.int p1)])) _
      refine XS.ifNo X0.here hx rfl (hb hby d1_1) rfl ((if0 _ _).trans (teq hc1).2) ?_
      show Steps p.tables e below (s₁.setTop (mkF m 4 #[.val (.int p1)] [])) _
      refine st4 _ ?_
      show Steps p.tables e below (T4.setTop (mkF m 7 #[.val (.int p1)] [(.ref w_Kind_ALL_USERS)])) _
      exact Jvm.RoadKit.retOut X4 hx Bd.returns rfl (Or.inr (Or.inr (Or.inr (Or.inr ⟨rfl, rfl, rfl⟩)))) (hb hby d1_7) hr
    · show Q_rm1 Z p1 w_Kind_ALL_USERS w_Kind_ALL_AUTHENTICATED_USERS w_Kind_USER w_Kind_SERVICE_ACCOUNT w_Kind_GROUP w_Kind_DOMAIN w_Kind_PRINCIPAL w_Kind_PRINCIPAL_SET w_Kind_DELETED_USER w_Kind_DELETED_SERVICE_ACCOUNT w_Kind_DELETED_GROUP w_Kind_DELETED_PRINCIPAL h0 n0 _ T4.heap _
      rw [e4]
      unfold Q_rm1
      exact ⟨by simp [V1, hc1], N0, rfl, (by simpa [V1, hc1] using E_w_Kind_ALL_USERS)⟩
  · have S6 : ∀ t, Steps p.tables e below (s₁.setTop (mkF m 10 #[.val (.int p1)] [(.int (1 : Int32)), (.int p1)])) t → Steps p.tables e below (s₁.setTop (entryFrame m #[(.int p1)] 1)) t := fun t k => by
      refine S2 t ?_
      show Steps p.tables e below (s₁.setTop (mkF m 1 #[.val (.int p1)] [(.int p1)])) _
      refine XS.ifYes X0.here hx rfl (pc0 := 1) (pc' := 8) rfl (hb hby d1_1) rfl ((if0 _ _).trans (feq hc1).2) (by decide) (by decide) ?_
      show Steps p.tables e below (s₁.setTop (mkF m 8 #[.val (.int p1)] [])) _
      refine XS.iloadN X0.here hx rfl (hb hby d1_8) rfl ?_
      show Steps p.tables e below (s₁.setTop (mkF m 9 #[.val (.int p1)] [(.int p1)])) _
      refine XS.iconst X0.here hx rfl (hb hby d1_9) ?_
      exact k
    by_cases hc5 : p1 = (1 : Int32)
    · have c7 : Sta Z h0 "com/example/role_bindings/rolebindings/Member$Kind" "ALL_AUTHENTICATED_USERS" "Lcom/example/role_bindings/rolebindings/Member$Kind;" (.ref w_Kind_ALL_AUTHENTICATED_USERS) := Sta.ext (O0).2 S_Kind_ALL_AUTHENTICATED_USERS
      obtain ⟨T8, X8, e8, st8⟩ := getS2 X0 hx hZ hown (host := "") (Or.inl (hwk hw 32 rfl)) Via.refl e0 c7 (g := (mkF m 13 #[.val (.int p1)] [])) rfl (hb hby d1_13)
      obtain ⟨fs, hr, hrun, hended, hW, hsame⟩ := X8.leave (v := some (.ref w_Kind_ALL_AUTHENTICATED_USERS)) (fun h => by rw [Bd.returns] at h; cases h)
      refine ⟨_, _, S6 _ ?_, hrun, hended, _, _, rfl, ?_, ⟨_, rfl⟩, hW, hsame.mono (by decide) (by decide)⟩
      · show Steps p.tables e below (s₁.setTop (mkF m 10 #[.val (.int p1)] [(.int (1 : Int32)), (.int p1)])) _
        refine XS.icmpNo X0.here hx rfl (hb hby d1_10) rfl (teq hc5).2 ?_
        show Steps p.tables e below (s₁.setTop (mkF m 13 #[.val (.int p1)] [])) _
        refine st8 _ ?_
        show Steps p.tables e below (T8.setTop (mkF m 16 #[.val (.int p1)] [(.ref w_Kind_ALL_AUTHENTICATED_USERS)])) _
        exact Jvm.RoadKit.retOut X8 hx Bd.returns rfl (Or.inr (Or.inr (Or.inr (Or.inr ⟨rfl, rfl, rfl⟩)))) (hb hby d1_16) hr
      · show Q_rm1 Z p1 w_Kind_ALL_USERS w_Kind_ALL_AUTHENTICATED_USERS w_Kind_USER w_Kind_SERVICE_ACCOUNT w_Kind_GROUP w_Kind_DOMAIN w_Kind_PRINCIPAL w_Kind_PRINCIPAL_SET w_Kind_DELETED_USER w_Kind_DELETED_SERVICE_ACCOUNT w_Kind_DELETED_GROUP w_Kind_DELETED_PRINCIPAL h0 n0 _ T8.heap _
        rw [e8]
        unfold Q_rm1
        exact ⟨by simp [V1, hc1, hc5], N0, rfl, (by simpa [V1, hc1, hc5] using E_w_Kind_ALL_AUTHENTICATED_USERS)⟩
    · have S10 : ∀ t, Steps p.tables e below (s₁.setTop (mkF m 19 #[.val (.int p1)] [(.int (2 : Int32)), (.int p1)])) t → Steps p.tables e below (s₁.setTop (entryFrame m #[(.int p1)] 1)) t := fun t k => by
        refine S6 t ?_
        show Steps p.tables e below (s₁.setTop (mkF m 10 #[.val (.int p1)] [(.int (1 : Int32)), (.int p1)])) _
        refine XS.icmpYes X0.here hx rfl (pc0 := 10) (pc' := 17) rfl (hb hby d1_10) rfl (feq hc5).2 (by decide) (by decide) ?_
        show Steps p.tables e below (s₁.setTop (mkF m 17 #[.val (.int p1)] [])) _
        refine XS.iloadN X0.here hx rfl (hb hby d1_17) rfl ?_
        show Steps p.tables e below (s₁.setTop (mkF m 18 #[.val (.int p1)] [(.int p1)])) _
        refine XS.iconst X0.here hx rfl (hb hby d1_18) ?_
        exact k
      by_cases hc9 : p1 = (2 : Int32)
      · have c11 : Sta Z h0 "com/example/role_bindings/rolebindings/Member$Kind" "USER" "Lcom/example/role_bindings/rolebindings/Member$Kind;" (.ref w_Kind_USER) := Sta.ext (O0).2 S_Kind_USER
        obtain ⟨T12, X12, e12, st12⟩ := getS2 X0 hx hZ hown (host := "") (Or.inl (hwk hw 23 rfl)) Via.refl e0 c11 (g := (mkF m 22 #[.val (.int p1)] [])) rfl (hb hby d1_22)
        obtain ⟨fs, hr, hrun, hended, hW, hsame⟩ := X12.leave (v := some (.ref w_Kind_USER)) (fun h => by rw [Bd.returns] at h; cases h)
        refine ⟨_, _, S10 _ ?_, hrun, hended, _, _, rfl, ?_, ⟨_, rfl⟩, hW, hsame.mono (by decide) (by decide)⟩
        · show Steps p.tables e below (s₁.setTop (mkF m 19 #[.val (.int p1)] [(.int (2 : Int32)), (.int p1)])) _
          refine XS.icmpNo X0.here hx rfl (hb hby d1_19) rfl (teq hc9).2 ?_
          show Steps p.tables e below (s₁.setTop (mkF m 22 #[.val (.int p1)] [])) _
          refine st12 _ ?_
          show Steps p.tables e below (T12.setTop (mkF m 25 #[.val (.int p1)] [(.ref w_Kind_USER)])) _
          exact Jvm.RoadKit.retOut X12 hx Bd.returns rfl (Or.inr (Or.inr (Or.inr (Or.inr ⟨rfl, rfl, rfl⟩)))) (hb hby d1_25) hr
        · show Q_rm1 Z p1 w_Kind_ALL_USERS w_Kind_ALL_AUTHENTICATED_USERS w_Kind_USER w_Kind_SERVICE_ACCOUNT w_Kind_GROUP w_Kind_DOMAIN w_Kind_PRINCIPAL w_Kind_PRINCIPAL_SET w_Kind_DELETED_USER w_Kind_DELETED_SERVICE_ACCOUNT w_Kind_DELETED_GROUP w_Kind_DELETED_PRINCIPAL h0 n0 _ T12.heap _
          rw [e12]
          unfold Q_rm1
          exact ⟨by simp [V1, hc1, hc5, hc9], N0, rfl, (by simpa [V1, hc1, hc5, hc9] using E_w_Kind_USER)⟩
      · have S14 : ∀ t, Steps p.tables e below (s₁.setTop (mkF m 28 #[.val (.int p1)] [(.int (3 : Int32)), (.int p1)])) t → Steps p.tables e below (s₁.setTop (entryFrame m #[(.int p1)] 1)) t := fun t k => by
          refine S10 t ?_
          show Steps p.tables e below (s₁.setTop (mkF m 19 #[.val (.int p1)] [(.int (2 : Int32)), (.int p1)])) _
          refine XS.icmpYes X0.here hx rfl (pc0 := 19) (pc' := 26) rfl (hb hby d1_19) rfl (feq hc9).2 (by decide) (by decide) ?_
          show Steps p.tables e below (s₁.setTop (mkF m 26 #[.val (.int p1)] [])) _
          refine XS.iloadN X0.here hx rfl (hb hby d1_26) rfl ?_
          show Steps p.tables e below (s₁.setTop (mkF m 27 #[.val (.int p1)] [(.int p1)])) _
          refine XS.iconst X0.here hx rfl (hb hby d1_27) ?_
          exact k
        by_cases hc13 : p1 = (3 : Int32)
        · have c15 : Sta Z h0 "com/example/role_bindings/rolebindings/Member$Kind" "SERVICE_ACCOUNT" "Lcom/example/role_bindings/rolebindings/Member$Kind;" (.ref w_Kind_SERVICE_ACCOUNT) := Sta.ext (O0).2 S_Kind_SERVICE_ACCOUNT
          obtain ⟨T16, X16, e16, st16⟩ := getS2 X0 hx hZ hown (host := "") (Or.inl (hwk hw 22 rfl)) Via.refl e0 c15 (g := (mkF m 31 #[.val (.int p1)] [])) rfl (hb hby d1_31)
          obtain ⟨fs, hr, hrun, hended, hW, hsame⟩ := X16.leave (v := some (.ref w_Kind_SERVICE_ACCOUNT)) (fun h => by rw [Bd.returns] at h; cases h)
          refine ⟨_, _, S14 _ ?_, hrun, hended, _, _, rfl, ?_, ⟨_, rfl⟩, hW, hsame.mono (by decide) (by decide)⟩
          · show Steps p.tables e below (s₁.setTop (mkF m 28 #[.val (.int p1)] [(.int (3 : Int32)), (.int p1)])) _
            refine XS.icmpNo X0.here hx rfl (hb hby d1_28) rfl (teq hc13).2 ?_
            show Steps p.tables e below (s₁.setTop (mkF m 31 #[.val (.int p1)] [])) _
            refine st16 _ ?_
            show Steps p.tables e below (T16.setTop (mkF m 34 #[.val (.int p1)] [(.ref w_Kind_SERVICE_ACCOUNT)])) _
            exact Jvm.RoadKit.retOut X16 hx Bd.returns rfl (Or.inr (Or.inr (Or.inr (Or.inr ⟨rfl, rfl, rfl⟩)))) (hb hby d1_34) hr
          · show Q_rm1 Z p1 w_Kind_ALL_USERS w_Kind_ALL_AUTHENTICATED_USERS w_Kind_USER w_Kind_SERVICE_ACCOUNT w_Kind_GROUP w_Kind_DOMAIN w_Kind_PRINCIPAL w_Kind_PRINCIPAL_SET w_Kind_DELETED_USER w_Kind_DELETED_SERVICE_ACCOUNT w_Kind_DELETED_GROUP w_Kind_DELETED_PRINCIPAL h0 n0 _ T16.heap _
            rw [e16]
            unfold Q_rm1
            exact ⟨by simp [V1, hc1, hc5, hc9, hc13], N0, rfl, (by simpa [V1, hc1, hc5, hc9, hc13] using E_w_Kind_SERVICE_ACCOUNT)⟩
        · have S18 : ∀ t, Steps p.tables e below (s₁.setTop (mkF m 37 #[.val (.int p1)] [(.int (4 : Int32)), (.int p1)])) t → Steps p.tables e below (s₁.setTop (entryFrame m #[(.int p1)] 1)) t := fun t k => by
            refine S14 t ?_
            show Steps p.tables e below (s₁.setTop (mkF m 28 #[.val (.int p1)] [(.int (3 : Int32)), (.int p1)])) _
            refine XS.icmpYes X0.here hx rfl (pc0 := 28) (pc' := 35) rfl (hb hby d1_28) rfl (feq hc13).2 (by decide) (by decide) ?_
            show Steps p.tables e below (s₁.setTop (mkF m 35 #[.val (.int p1)] [])) _
            refine XS.iloadN X0.here hx rfl (hb hby d1_35) rfl ?_
            show Steps p.tables e below (s₁.setTop (mkF m 36 #[.val (.int p1)] [(.int p1)])) _
            refine XS.iconst X0.here hx rfl (hb hby d1_36) ?_
            exact k
          by_cases hc17 : p1 = (4 : Int32)
          · have c19 : Sta Z h0 "com/example/role_bindings/rolebindings/Member$Kind" "GROUP" "Lcom/example/role_bindings/rolebindings/Member$Kind;" (.ref w_Kind_GROUP) := Sta.ext (O0).2 S_Kind_GROUP
            obtain ⟨T20, X20, e20, st20⟩ := getS2 X0 hx hZ hown (host := "") (Or.inl (hwk hw 28 rfl)) Via.refl e0 c19 (g := (mkF m 40 #[.val (.int p1)] [])) rfl (hb hby d1_40)
            obtain ⟨fs, hr, hrun, hended, hW, hsame⟩ := X20.leave (v := some (.ref w_Kind_GROUP)) (fun h => by rw [Bd.returns] at h; cases h)
            refine ⟨_, _, S18 _ ?_, hrun, hended, _, _, rfl, ?_, ⟨_, rfl⟩, hW, hsame.mono (by decide) (by decide)⟩
            · show Steps p.tables e below (s₁.setTop (mkF m 37 #[.val (.int p1)] [(.int (4 : Int32)), (.int p1)])) _
              refine XS.icmpNo X0.here hx rfl (hb hby d1_37) rfl (teq hc17).2 ?_
              show Steps p.tables e below (s₁.setTop (mkF m 40 #[.val (.int p1)] [])) _
              refine st20 _ ?_
              show Steps p.tables e below (T20.setTop (mkF m 43 #[.val (.int p1)] [(.ref w_Kind_GROUP)])) _
              exact Jvm.RoadKit.retOut X20 hx Bd.returns rfl (Or.inr (Or.inr (Or.inr (Or.inr ⟨rfl, rfl, rfl⟩)))) (hb hby d1_43) hr
            · show Q_rm1 Z p1 w_Kind_ALL_USERS w_Kind_ALL_AUTHENTICATED_USERS w_Kind_USER w_Kind_SERVICE_ACCOUNT w_Kind_GROUP w_Kind_DOMAIN w_Kind_PRINCIPAL w_Kind_PRINCIPAL_SET w_Kind_DELETED_USER w_Kind_DELETED_SERVICE_ACCOUNT w_Kind_DELETED_GROUP w_Kind_DELETED_PRINCIPAL h0 n0 _ T20.heap _
              rw [e20]
              unfold Q_rm1
              exact ⟨by simp [V1, hc1, hc5, hc9, hc13, hc17], N0, rfl, (by simpa [V1, hc1, hc5, hc9, hc13, hc17] using E_w_Kind_GROUP)⟩
          · have S22 : ∀ t, Steps p.tables e below (s₁.setTop (mkF m 46 #[.val (.int p1)] [(.int (5 : Int32)), (.int p1)])) t → Steps p.tables e below (s₁.setTop (entryFrame m #[(.int p1)] 1)) t := fun t k => by
              refine S18 t ?_
              show Steps p.tables e below (s₁.setTop (mkF m 37 #[.val (.int p1)] [(.int (4 : Int32)), (.int p1)])) _
              refine XS.icmpYes X0.here hx rfl (pc0 := 37) (pc' := 44) rfl (hb hby d1_37) rfl (feq hc17).2 (by decide) (by decide) ?_
              show Steps p.tables e below (s₁.setTop (mkF m 44 #[.val (.int p1)] [])) _
              refine XS.iloadN X0.here hx rfl (hb hby d1_44) rfl ?_
              show Steps p.tables e below (s₁.setTop (mkF m 45 #[.val (.int p1)] [(.int p1)])) _
              refine XS.iconst X0.here hx rfl (hb hby d1_45) ?_
              exact k
            by_cases hc21 : p1 = (5 : Int32)
            · have c23 : Sta Z h0 "com/example/role_bindings/rolebindings/Member$Kind" "DOMAIN" "Lcom/example/role_bindings/rolebindings/Member$Kind;" (.ref w_Kind_DOMAIN) := Sta.ext (O0).2 S_Kind_DOMAIN
              obtain ⟨T24, X24, e24, st24⟩ := getS2 X0 hx hZ hown (host := "") (Or.inl (hwk hw 39 rfl)) Via.refl e0 c23 (g := (mkF m 49 #[.val (.int p1)] [])) rfl (hb hby d1_49)
              obtain ⟨fs, hr, hrun, hended, hW, hsame⟩ := X24.leave (v := some (.ref w_Kind_DOMAIN)) (fun h => by rw [Bd.returns] at h; cases h)
              refine ⟨_, _, S22 _ ?_, hrun, hended, _, _, rfl, ?_, ⟨_, rfl⟩, hW, hsame.mono (by decide) (by decide)⟩
              · show Steps p.tables e below (s₁.setTop (mkF m 46 #[.val (.int p1)] [(.int (5 : Int32)), (.int p1)])) _
                refine XS.icmpNo X0.here hx rfl (hb hby d1_46) rfl (teq hc21).2 ?_
                show Steps p.tables e below (s₁.setTop (mkF m 49 #[.val (.int p1)] [])) _
                refine st24 _ ?_
                show Steps p.tables e below (T24.setTop (mkF m 52 #[.val (.int p1)] [(.ref w_Kind_DOMAIN)])) _
                exact Jvm.RoadKit.retOut X24 hx Bd.returns rfl (Or.inr (Or.inr (Or.inr (Or.inr ⟨rfl, rfl, rfl⟩)))) (hb hby d1_52) hr
              · show Q_rm1 Z p1 w_Kind_ALL_USERS w_Kind_ALL_AUTHENTICATED_USERS w_Kind_USER w_Kind_SERVICE_ACCOUNT w_Kind_GROUP w_Kind_DOMAIN w_Kind_PRINCIPAL w_Kind_PRINCIPAL_SET w_Kind_DELETED_USER w_Kind_DELETED_SERVICE_ACCOUNT w_Kind_DELETED_GROUP w_Kind_DELETED_PRINCIPAL h0 n0 _ T24.heap _
                rw [e24]
                unfold Q_rm1
                exact ⟨by simp [V1, hc1, hc5, hc9, hc13, hc17, hc21], N0, rfl, (by simpa [V1, hc1, hc5, hc9, hc13, hc17, hc21] using E_w_Kind_DOMAIN)⟩
            · have S26 : ∀ t, Steps p.tables e below (s₁.setTop (mkF m 56 #[.val (.int p1)] [(.int (6 : Int32)), (.int p1)])) t → Steps p.tables e below (s₁.setTop (entryFrame m #[(.int p1)] 1)) t := fun t k => by
                refine S22 t ?_
                show Steps p.tables e below (s₁.setTop (mkF m 46 #[.val (.int p1)] [(.int (5 : Int32)), (.int p1)])) _
                refine XS.icmpYes X0.here hx rfl (pc0 := 46) (pc' := 53) rfl (hb hby d1_46) rfl (feq hc21).2 (by decide) (by decide) ?_
                show Steps p.tables e below (s₁.setTop (mkF m 53 #[.val (.int p1)] [])) _
                refine XS.iloadN X0.here hx rfl (hb hby d1_53) rfl ?_
                show Steps p.tables e below (s₁.setTop (mkF m 54 #[.val (.int p1)] [(.int p1)])) _
                refine XS.bipush X0.here hx rfl (hb hby d1_54) ?_
                exact k
              by_cases hc25 : p1 = (6 : Int32)
              · have c27 : Sta Z h0 "com/example/role_bindings/rolebindings/Member$Kind" "PRINCIPAL" "Lcom/example/role_bindings/rolebindings/Member$Kind;" (.ref w_Kind_PRINCIPAL) := Sta.ext (O0).2 S_Kind_PRINCIPAL
                obtain ⟨T28, X28, e28, st28⟩ := getS2 X0 hx hZ hown (host := "") (Or.inl (hwk hw 38 rfl)) Via.refl e0 c27 (g := (mkF m 59 #[.val (.int p1)] [])) rfl (hb hby d1_59)
                obtain ⟨fs, hr, hrun, hended, hW, hsame⟩ := X28.leave (v := some (.ref w_Kind_PRINCIPAL)) (fun h => by rw [Bd.returns] at h; cases h)
                refine ⟨_, _, S26 _ ?_, hrun, hended, _, _, rfl, ?_, ⟨_, rfl⟩, hW, hsame.mono (by decide) (by decide)⟩
                · show Steps p.tables e below (s₁.setTop (mkF m 56 #[.val (.int p1)] [(.int (6 : Int32)), (.int p1)])) _
                  refine XS.icmpNo X0.here hx rfl (hb hby d1_56) rfl (teq hc25).2 ?_
                  show Steps p.tables e below (s₁.setTop (mkF m 59 #[.val (.int p1)] [])) _
                  refine st28 _ ?_
                  show Steps p.tables e below (T28.setTop (mkF m 62 #[.val (.int p1)] [(.ref w_Kind_PRINCIPAL)])) _
                  exact Jvm.RoadKit.retOut X28 hx Bd.returns rfl (Or.inr (Or.inr (Or.inr (Or.inr ⟨rfl, rfl, rfl⟩)))) (hb hby d1_62) hr
                · show Q_rm1 Z p1 w_Kind_ALL_USERS w_Kind_ALL_AUTHENTICATED_USERS w_Kind_USER w_Kind_SERVICE_ACCOUNT w_Kind_GROUP w_Kind_DOMAIN w_Kind_PRINCIPAL w_Kind_PRINCIPAL_SET w_Kind_DELETED_USER w_Kind_DELETED_SERVICE_ACCOUNT w_Kind_DELETED_GROUP w_Kind_DELETED_PRINCIPAL h0 n0 _ T28.heap _
                  rw [e28]
                  unfold Q_rm1
                  exact ⟨by simp [V1, hc1, hc5, hc9, hc13, hc17, hc21, hc25], N0, rfl, (by simpa [V1, hc1, hc5, hc9, hc13, hc17, hc21, hc25] using E_w_Kind_PRINCIPAL)⟩
              · have S30 : ∀ t, Steps p.tables e below (s₁.setTop (mkF m 66 #[.val (.int p1)] [(.int (7 : Int32)), (.int p1)])) t → Steps p.tables e below (s₁.setTop (entryFrame m #[(.int p1)] 1)) t := fun t k => by
                  refine S26 t ?_
                  show Steps p.tables e below (s₁.setTop (mkF m 56 #[.val (.int p1)] [(.int (6 : Int32)), (.int p1)])) _
                  refine XS.icmpYes X0.here hx rfl (pc0 := 56) (pc' := 63) rfl (hb hby d1_56) rfl (feq hc25).2 (by decide) (by decide) ?_
                  show Steps p.tables e below (s₁.setTop (mkF m 63 #[.val (.int p1)] [])) _
                  refine XS.iloadN X0.here hx rfl (hb hby d1_63) rfl ?_
                  show Steps p.tables e below (s₁.setTop (mkF m 64 #[.val (.int p1)] [(.int p1)])) _
                  refine XS.bipush X0.here hx rfl (hb hby d1_64) ?_
                  exact k
                by_cases hc29 : p1 = (7 : Int32)
                · have c31 : Sta Z h0 "com/example/role_bindings/rolebindings/Member$Kind" "PRINCIPAL_SET" "Lcom/example/role_bindings/rolebindings/Member$Kind;" (.ref w_Kind_PRINCIPAL_SET) := Sta.ext (O0).2 S_Kind_PRINCIPAL_SET
                  obtain ⟨T32, X32, e32, st32⟩ := getS2 X0 hx hZ hown (host := "") (Or.inl (hwk hw 24 rfl)) Via.refl e0 c31 (g := (mkF m 69 #[.val (.int p1)] [])) rfl (hb hby d1_69)
                  obtain ⟨fs, hr, hrun, hended, hW, hsame⟩ := X32.leave (v := some (.ref w_Kind_PRINCIPAL_SET)) (fun h => by rw [Bd.returns] at h; cases h)
                  refine ⟨_, _, S30 _ ?_, hrun, hended, _, _, rfl, ?_, ⟨_, rfl⟩, hW, hsame.mono (by decide) (by decide)⟩
                  · show Steps p.tables e below (s₁.setTop (mkF m 66 #[.val (.int p1)] [(.int (7 : Int32)), (.int p1)])) _
                    refine XS.icmpNo X0.here hx rfl (hb hby d1_66) rfl (teq hc29).2 ?_
                    show Steps p.tables e below (s₁.setTop (mkF m 69 #[.val (.int p1)] [])) _
                    refine st32 _ ?_
                    show Steps p.tables e below (T32.setTop (mkF m 72 #[.val (.int p1)] [(.ref w_Kind_PRINCIPAL_SET)])) _
                    exact Jvm.RoadKit.retOut X32 hx Bd.returns rfl (Or.inr (Or.inr (Or.inr (Or.inr ⟨rfl, rfl, rfl⟩)))) (hb hby d1_72) hr
                  · show Q_rm1 Z p1 w_Kind_ALL_USERS w_Kind_ALL_AUTHENTICATED_USERS w_Kind_USER w_Kind_SERVICE_ACCOUNT w_Kind_GROUP w_Kind_DOMAIN w_Kind_PRINCIPAL w_Kind_PRINCIPAL_SET w_Kind_DELETED_USER w_Kind_DELETED_SERVICE_ACCOUNT w_Kind_DELETED_GROUP w_Kind_DELETED_PRINCIPAL h0 n0 _ T32.heap _
                    rw [e32]
                    unfold Q_rm1
                    exact ⟨by simp [V1, hc1, hc5, hc9, hc13, hc17, hc21, hc25, hc29], N0, rfl, (by simpa [V1, hc1, hc5, hc9, hc13, hc17, hc21, hc25, hc29] using E_w_Kind_PRINCIPAL_SET)⟩
                · have S34 : ∀ t, Steps p.tables e below (s₁.setTop (mkF m 76 #[.val (.int p1)] [(.int (8 : Int32)), (.int p1)])) t → Steps p.tables e below (s₁.setTop (entryFrame m #[(.int p1)] 1)) t := fun t k => by
                    refine S30 t ?_
                    show Steps p.tables e below (s₁.setTop (mkF m 66 #[.val (.int p1)] [(.int (7 : Int32)), (.int p1)])) _
                    refine XS.icmpYes X0.here hx rfl (pc0 := 66) (pc' := 73) rfl (hb hby d1_66) rfl (feq hc29).2 (by decide) (by decide) ?_
                    show Steps p.tables e below (s₁.setTop (mkF m 73 #[.val (.int p1)] [])) _
                    refine XS.iloadN X0.here hx rfl (hb hby d1_73) rfl ?_
                    show Steps p.tables e below (s₁.setTop (mkF m 74 #[.val (.int p1)] [(.int p1)])) _
                    refine XS.bipush X0.here hx rfl (hb hby d1_74) ?_
                    exact k
                  by_cases hc33 : p1 = (8 : Int32)
                  · have c35 : Sta Z h0 "com/example/role_bindings/rolebindings/Member$Kind" "DELETED_USER" "Lcom/example/role_bindings/rolebindings/Member$Kind;" (.ref w_Kind_DELETED_USER) := Sta.ext (O0).2 S_Kind_DELETED_USER
                    obtain ⟨T36, X36, e36, st36⟩ := getS2 X0 hx hZ hown (host := "") (Or.inl (hwk hw 30 rfl)) Via.refl e0 c35 (g := (mkF m 79 #[.val (.int p1)] [])) rfl (hb hby d1_79)
                    obtain ⟨fs, hr, hrun, hended, hW, hsame⟩ := X36.leave (v := some (.ref w_Kind_DELETED_USER)) (fun h => by rw [Bd.returns] at h; cases h)
                    refine ⟨_, _, S34 _ ?_, hrun, hended, _, _, rfl, ?_, ⟨_, rfl⟩, hW, hsame.mono (by decide) (by decide)⟩
                    · show Steps p.tables e below (s₁.setTop (mkF m 76 #[.val (.int p1)] [(.int (8 : Int32)), (.int p1)])) _
                      refine XS.icmpNo X0.here hx rfl (hb hby d1_76) rfl (teq hc33).2 ?_
                      show Steps p.tables e below (s₁.setTop (mkF m 79 #[.val (.int p1)] [])) _
                      refine st36 _ ?_
                      show Steps p.tables e below (T36.setTop (mkF m 82 #[.val (.int p1)] [(.ref w_Kind_DELETED_USER)])) _
                      exact Jvm.RoadKit.retOut X36 hx Bd.returns rfl (Or.inr (Or.inr (Or.inr (Or.inr ⟨rfl, rfl, rfl⟩)))) (hb hby d1_82) hr
                    · show Q_rm1 Z p1 w_Kind_ALL_USERS w_Kind_ALL_AUTHENTICATED_USERS w_Kind_USER w_Kind_SERVICE_ACCOUNT w_Kind_GROUP w_Kind_DOMAIN w_Kind_PRINCIPAL w_Kind_PRINCIPAL_SET w_Kind_DELETED_USER w_Kind_DELETED_SERVICE_ACCOUNT w_Kind_DELETED_GROUP w_Kind_DELETED_PRINCIPAL h0 n0 _ T36.heap _
                      rw [e36]
                      unfold Q_rm1
                      exact ⟨by simp [V1, hc1, hc5, hc9, hc13, hc17, hc21, hc25, hc29, hc33], N0, rfl, (by simpa [V1, hc1, hc5, hc9, hc13, hc17, hc21, hc25, hc29, hc33] using E_w_Kind_DELETED_USER)⟩
                  · have S38 : ∀ t, Steps p.tables e below (s₁.setTop (mkF m 86 #[.val (.int p1)] [(.int (9 : Int32)), (.int p1)])) t → Steps p.tables e below (s₁.setTop (entryFrame m #[(.int p1)] 1)) t := fun t k => by
                      refine S34 t ?_
                      show Steps p.tables e below (s₁.setTop (mkF m 76 #[.val (.int p1)] [(.int (8 : Int32)), (.int p1)])) _
                      refine XS.icmpYes X0.here hx rfl (pc0 := 76) (pc' := 83) rfl (hb hby d1_76) rfl (feq hc33).2 (by decide) (by decide) ?_
                      show Steps p.tables e below (s₁.setTop (mkF m 83 #[.val (.int p1)] [])) _
                      refine XS.iloadN X0.here hx rfl (hb hby d1_83) rfl ?_
                      show Steps p.tables e below (s₁.setTop (mkF m 84 #[.val (.int p1)] [(.int p1)])) _
                      refine XS.bipush X0.here hx rfl (hb hby d1_84) ?_
                      exact k
                    by_cases hc37 : p1 = (9 : Int32)
                    · have c39 : Sta Z h0 "com/example/role_bindings/rolebindings/Member$Kind" "DELETED_SERVICE_ACCOUNT" "Lcom/example/role_bindings/rolebindings/Member$Kind;" (.ref w_Kind_DELETED_SERVICE_ACCOUNT) := Sta.ext (O0).2 S_Kind_DELETED_SERVICE_ACCOUNT
                      obtain ⟨T40, X40, e40, st40⟩ := getS2 X0 hx hZ hown (host := "") (Or.inl (hwk hw 36 rfl)) Via.refl e0 c39 (g := (mkF m 89 #[.val (.int p1)] [])) rfl (hb hby d1_89)
                      obtain ⟨fs, hr, hrun, hended, hW, hsame⟩ := X40.leave (v := some (.ref w_Kind_DELETED_SERVICE_ACCOUNT)) (fun h => by rw [Bd.returns] at h; cases h)
                      refine ⟨_, _, S38 _ ?_, hrun, hended, _, _, rfl, ?_, ⟨_, rfl⟩, hW, hsame.mono (by decide) (by decide)⟩
                      · show Steps p.tables e below (s₁.setTop (mkF m 86 #[.val (.int p1)] [(.int (9 : Int32)), (.int p1)])) _
                        refine XS.icmpNo X0.here hx rfl (hb hby d1_86) rfl (teq hc37).2 ?_
                        show Steps p.tables e below (s₁.setTop (mkF m 89 #[.val (.int p1)] [])) _
                        refine st40 _ ?_
                        show Steps p.tables e below (T40.setTop (mkF m 92 #[.val (.int p1)] [(.ref w_Kind_DELETED_SERVICE_ACCOUNT)])) _
                        exact Jvm.RoadKit.retOut X40 hx Bd.returns rfl (Or.inr (Or.inr (Or.inr (Or.inr ⟨rfl, rfl, rfl⟩)))) (hb hby d1_92) hr
                      · show Q_rm1 Z p1 w_Kind_ALL_USERS w_Kind_ALL_AUTHENTICATED_USERS w_Kind_USER w_Kind_SERVICE_ACCOUNT w_Kind_GROUP w_Kind_DOMAIN w_Kind_PRINCIPAL w_Kind_PRINCIPAL_SET w_Kind_DELETED_USER w_Kind_DELETED_SERVICE_ACCOUNT w_Kind_DELETED_GROUP w_Kind_DELETED_PRINCIPAL h0 n0 _ T40.heap _
                        rw [e40]
                        unfold Q_rm1
                        exact ⟨by simp [V1, hc1, hc5, hc9, hc13, hc17, hc21, hc25, hc29, hc33, hc37], N0, rfl, (by simpa [V1, hc1, hc5, hc9, hc13, hc17, hc21, hc25, hc29, hc33, hc37] using E_w_Kind_DELETED_SERVICE_ACCOUNT)⟩
                    · have S42 : ∀ t, Steps p.tables e below (s₁.setTop (mkF m 96 #[.val (.int p1)] [(.int (10 : Int32)), (.int p1)])) t → Steps p.tables e below (s₁.setTop (entryFrame m #[(.int p1)] 1)) t := fun t k => by
                        refine S38 t ?_
                        show Steps p.tables e below (s₁.setTop (mkF m 86 #[.val (.int p1)] [(.int (9 : Int32)), (.int p1)])) _
                        refine XS.icmpYes X0.here hx rfl (pc0 := 86) (pc' := 93) rfl (hb hby d1_86) rfl (feq hc37).2 (by decide) (by decide) ?_
                        show Steps p.tables e below (s₁.setTop (mkF m 93 #[.val (.int p1)] [])) _
                        refine XS.iloadN X0.here hx rfl (hb hby d1_93) rfl ?_
                        show Steps p.tables e below (s₁.setTop (mkF m 94 #[.val (.int p1)] [(.int p1)])) _
                        refine XS.bipush X0.here hx rfl (hb hby d1_94) ?_
                        exact k
                      by_cases hc41 : p1 = (10 : Int32)
                      · have c43 : Sta Z h0 "com/example/role_bindings/rolebindings/Member$Kind" "DELETED_GROUP" "Lcom/example/role_bindings/rolebindings/Member$Kind;" (.ref w_Kind_DELETED_GROUP) := Sta.ext (O0).2 S_Kind_DELETED_GROUP
                        obtain ⟨T44, X44, e44, st44⟩ := getS2 X0 hx hZ hown (host := "") (Or.inl (hwk hw 34 rfl)) Via.refl e0 c43 (g := (mkF m 99 #[.val (.int p1)] [])) rfl (hb hby d1_99)
                        obtain ⟨fs, hr, hrun, hended, hW, hsame⟩ := X44.leave (v := some (.ref w_Kind_DELETED_GROUP)) (fun h => by rw [Bd.returns] at h; cases h)
                        refine ⟨_, _, S42 _ ?_, hrun, hended, _, _, rfl, ?_, ⟨_, rfl⟩, hW, hsame.mono (by decide) (by decide)⟩
                        · show Steps p.tables e below (s₁.setTop (mkF m 96 #[.val (.int p1)] [(.int (10 : Int32)), (.int p1)])) _
                          refine XS.icmpNo X0.here hx rfl (hb hby d1_96) rfl (teq hc41).2 ?_
                          show Steps p.tables e below (s₁.setTop (mkF m 99 #[.val (.int p1)] [])) _
                          refine st44 _ ?_
                          show Steps p.tables e below (T44.setTop (mkF m 102 #[.val (.int p1)] [(.ref w_Kind_DELETED_GROUP)])) _
                          exact Jvm.RoadKit.retOut X44 hx Bd.returns rfl (Or.inr (Or.inr (Or.inr (Or.inr ⟨rfl, rfl, rfl⟩)))) (hb hby d1_102) hr
                        · show Q_rm1 Z p1 w_Kind_ALL_USERS w_Kind_ALL_AUTHENTICATED_USERS w_Kind_USER w_Kind_SERVICE_ACCOUNT w_Kind_GROUP w_Kind_DOMAIN w_Kind_PRINCIPAL w_Kind_PRINCIPAL_SET w_Kind_DELETED_USER w_Kind_DELETED_SERVICE_ACCOUNT w_Kind_DELETED_GROUP w_Kind_DELETED_PRINCIPAL h0 n0 _ T44.heap _
                          rw [e44]
                          unfold Q_rm1
                          exact ⟨by simp [V1, hc1, hc5, hc9, hc13, hc17, hc21, hc25, hc29, hc33, hc37, hc41], N0, rfl, (by simpa [V1, hc1, hc5, hc9, hc13, hc17, hc21, hc25, hc29, hc33, hc37, hc41] using E_w_Kind_DELETED_GROUP)⟩
                      · have c45 : Sta Z h0 "com/example/role_bindings/rolebindings/Member$Kind" "DELETED_PRINCIPAL" "Lcom/example/role_bindings/rolebindings/Member$Kind;" (.ref w_Kind_DELETED_PRINCIPAL) := Sta.ext (O0).2 S_Kind_DELETED_PRINCIPAL
                        obtain ⟨T46, X46, e46, st46⟩ := getS2 X0 hx hZ hown (host := "") (Or.inl (hwk hw 26 rfl)) Via.refl e0 c45 (g := (mkF m 103 #[.val (.int p1)] [])) rfl (hb hby d1_103)
                        obtain ⟨fs, hr, hrun, hended, hW, hsame⟩ := X46.leave (v := some (.ref w_Kind_DELETED_PRINCIPAL)) (fun h => by rw [Bd.returns] at h; cases h)
                        refine ⟨_, _, S42 _ ?_, hrun, hended, _, _, rfl, ?_, ⟨_, rfl⟩, hW, hsame.mono (by decide) (by decide)⟩
                        · show Steps p.tables e below (s₁.setTop (mkF m 96 #[.val (.int p1)] [(.int (10 : Int32)), (.int p1)])) _
                          refine XS.icmpYes X0.here hx rfl (pc0 := 96) (pc' := 103) rfl (hb hby d1_96) rfl (feq hc41).2 (by decide) (by decide) ?_
                          show Steps p.tables e below (s₁.setTop (mkF m 103 #[.val (.int p1)] [])) _
                          refine st46 _ ?_
                          show Steps p.tables e below (T46.setTop (mkF m 106 #[.val (.int p1)] [(.ref w_Kind_DELETED_PRINCIPAL)])) _
                          exact Jvm.RoadKit.retOut X46 hx Bd.returns rfl (Or.inr (Or.inr (Or.inr (Or.inr ⟨rfl, rfl, rfl⟩)))) (hb hby d1_106) hr
                        · show Q_rm1 Z p1 w_Kind_ALL_USERS w_Kind_ALL_AUTHENTICATED_USERS w_Kind_USER w_Kind_SERVICE_ACCOUNT w_Kind_GROUP w_Kind_DOMAIN w_Kind_PRINCIPAL w_Kind_PRINCIPAL_SET w_Kind_DELETED_USER w_Kind_DELETED_SERVICE_ACCOUNT w_Kind_DELETED_GROUP w_Kind_DELETED_PRINCIPAL h0 n0 _ T46.heap _
                          rw [e46]
                          unfold Q_rm1
                          exact ⟨by simp [V1, hc1, hc5, hc9, hc13, hc17, hc21, hc25, hc29, hc33, hc37, hc41], N0, rfl, (by simpa [V1, hc1, hc5, hc9, hc13, hc17, hc21, hc25, hc29, hc33, hc37, hc41] using E_w_Kind_DELETED_PRINCIPAL)⟩
theorem ef_rm2 (m : MethodId) (x0 : Addr) : entryFrame m #[(.ref x0)] 1 = mkF m 0 #[.val (.ref x0)] [] := by first | (simp [entryFrame, mkF, argsToLocals, Value.category]; done) | rfl
def V2 (a u s p : Addr) : Int32 := if a = u then 1 else if a = s then 1 else if a = p then 1 else 0
def Q_rm2 (Z : State) (a1 : Addr) (w_Kind_USER : Addr) (w_Kind_SERVICE_ACCOUNT : Addr) (w_Kind_PRINCIPAL : Addr) (h0 : Heap) (n0 : Nat) (v : Option Value) (h : Heap) (L : List Loc) : Prop := (v = some (.int (V2 a1 w_Kind_USER w_Kind_SERVICE_ACCOUNT w_Kind_PRINCIPAL))) ∧ (Fr n0 L) ∧ (h = h0)
theorem pn_1 : plainName "com/example/role_bindings/rolebindings/Member$Kind" = true := by first | (simp [plainName, overriddenIn]; done) | decide +kernel
theorem d2_0 : decode prog_3_method_4_code 0 = .ok (.aload_n 0, 1) := by decide +kernel
theorem d2_1 : decode prog_3_method_4_code 1 = .ok (.getstatic 12, 3) := by decide +kernel
theorem d2_4 : decode prog_3_method_4_code 4 = .ok (.if_acmp .eq 17, 3) := by decide +kernel
theorem d2_21 : decode prog_3_method_4_code 21 = .ok (.iconst 1, 1) := by decide +kernel
theorem d2_22 : decode prog_3_method_4_code 22 = .ok (.goto 4, 3) := by decide +kernel
theorem d2_26 : decode prog_3_method_4_code 26 = .ok (.ireturn, 1) := by decide +kernel
theorem d2_7 : decode prog_3_method_4_code 7 = .ok (.aload_n 0, 1) := by decide +kernel
theorem d2_8 : decode prog_3_method_4_code 8 = .ok (.getstatic 15, 3) := by decide +kernel
theorem d2_11 : decode prog_3_method_4_code 11 = .ok (.if_acmp .eq 10, 3) := by decide +kernel
theorem d2_14 : decode prog_3_method_4_code 14 = .ok (.aload_n 0, 1) := by decide +kernel
theorem d2_15 : decode prog_3_method_4_code 15 = .ok (.getstatic 24, 3) := by decide +kernel
theorem d2_18 : decode prog_3_method_4_code 18 = .ok (.if_acmp .ne 7, 3) := by decide +kernel
theorem d2_25 : decode prog_3_method_4_code 25 = .ok (.iconst 0, 1) := by decide +kernel
set_option maxRecDepth 65536 in
set_option maxHeartbeats 40000000 in
theorem rm2 (l : Launch) (Z : State) (a0 : Array Value) (hw : ∀ d ∈ tables_1, d.before a0 Z = true) (ws : List Jvm.Cond) (a1 : Addr) (w_Kind_USER : Addr) (w_Kind_SERVICE_ACCOUNT : Addr) (w_Kind_PRINCIPAL : Addr) (h0 : Heap) (n0 : Nat) (O0 : Old Z n0 h0) (S_Kind_USER : Sta Z Z.heap "com/example/role_bindings/rolebindings/Member$Kind" "USER" "Lcom/example/role_bindings/rolebindings/Member$Kind;" (.ref w_Kind_USER)) (S_Kind_SERVICE_ACCOUNT : Sta Z Z.heap "com/example/role_bindings/rolebindings/Member$Kind" "SERVICE_ACCOUNT" "Lcom/example/role_bindings/rolebindings/Member$Kind;" (.ref w_Kind_SERVICE_ACCOUNT)) (S_Kind_PRINCIPAL : Sta Z Z.heap "com/example/role_bindings/rolebindings/Member$Kind" "PRINCIPAL" "Lcom/example/role_bindings/rolebindings/Member$Kind;" (.ref w_Kind_PRINCIPAL)) :
    MetFree l (⟨"com/example/role_bindings/rolebindings/Member$Kind", "isIdentity", "()Z"⟩ : MethodName) (head1 (Jvm.Cond.code (⟨"com/example/role_bindings/rolebindings/Member$Kind", "isIdentity", "()Z"⟩ : MethodName) prog_3_method_4_code 1 (some .boolean) :: ws) ({ frames := 0, cells := 0, slots := 0, locals := 0 } : Room)) (fun a U => a = #[(.ref a1)] ∧ Z.Warmed39 U.vm ∧ U.heap = h0) (fun _ _ _ _ _ => True) (fun _ U o U' => ∃ v L, o = .returned v ∧ Q_rm2 Z a1 w_Kind_USER w_Kind_SERVICE_ACCOUNT w_Kind_PRINCIPAL h0 n0 v U'.heap L ∧ FrameEnd U o U' L ({ frames := 0, cells := 0, slots := 0, locals := 0 } : Room).cells ({ frames := 0, cells := 0, slots := 0, locals := 0 } : Room).slots) := by
  refine MetFree.of_bodySF (plainFor_of_name pn_1) hisR ?_
  intro p e s m args below meth c s₁ Bd hml0 hP hK
  obtain ⟨rfl, hZ, hh⟩ := hP
  have hx := Bd.exec
  have hby := Bd.bytes
  have hml : c.maxLocals = 1 := hml0
  have hown : s.vm.findClass "com/example/role_bindings/rolebindings/Member$Kind" = some m.cls := findClass_of_methodNamed Bd.named
  have hnm := (name_of_methodNamed Bd.named Bd.method).1
  have X0 : Stand p l e ({ frames := 0, cells := 0, slots := 0, locals := 0 } : Room) s m #[(.ref a1)] below meth c s₁ [] 0 0 := Stand.of_body Bd
  have e0 : s₁.heap = h0 := by rw [← hh, Bd.state]; rfl
  have N0 := Fr.nil n0
  have Z0 : n0 ≤ h0.size := old_le O0
  have pre0 : ∀ t, Steps p.tables e below (s₁.setTop (mkF m 0 #[.val (.ref a1)] [])) t → Steps p.tables e below (s₁.setTop (entryFrame m #[(.ref a1)] 1)) t := fun t k => castTop (ef_rm2 m a1) k
  have c1 : Sta Z h0 "com/example/role_bindings/rolebindings/Member$Kind" "USER" "Lcom/example/role_bindings/rolebindings/Member$Kind;" (.ref w_Kind_USER) := Sta.ext (O0).2 S_Kind_USER
  obtain ⟨T2, X2, e2, st2⟩ := getS2 X0 hx hZ hown (host := "") (Or.inl (hwk hw 13 rfl)) Via.refl e0 c1 (g := (mkF m 1 #[.val (.ref a1)] [(.ref a1)])) rfl (hb hby d2_1)
  have S4 : ∀ t, Steps p.tables e below (T2.setTop (mkF m 4 #[.val (.ref a1)] [(.ref w_Kind_USER), (.ref a1)])) t → Steps p.tables e below (s₁.setTop (entryFrame m #[(.ref a1)] 1)) t := fun t k => by
    refine pre0 t ?_
    show Steps p.tables e below (s₁.setTop (mkF m 0 #[.val (.ref a1)] [])) _
    refine XS.aloadN X0.here hx rfl (hb hby d2_0) rfl rfl ?_
    show Steps p.tables e below (s₁.setTop (mkF m 1 #[.val (.ref a1)] [(.ref a1)])) _
    refine st2 _ ?_
    exact k
  by_cases hc3 : a1 = w_Kind_USER
  · obtain ⟨fs, hr, hrun, hended, hW, hsame⟩ := X2.leave (v := some (.int (1 : Int32))) (fun h => by rw [Bd.returns] at h; cases h)
    refine ⟨_, _, S4 _ ?_, hrun, hended, _, _, rfl, ?_, ⟨_, rfl⟩, hW, hsame.mono (by decide) (by decide)⟩
    · show Steps p.tables e below (T2.setTop (mkF m 4 #[.val (.ref a1)] [(.ref w_Kind_USER), (.ref a1)])) _
      refine Jvm.RoadKit.acmp (g := (mkF m 4 #[.val (.ref a1)] [(.ref w_Kind_USER), (.ref a1)])) X2 hx rfl rfl rfl (pc0 := 4) (pc' := 21) (same := true) rfl (hb hby d2_4) rfl (decide_eq_true (congrArg Value.ref hc3)) (by decide) (by decide) ?_
      show Steps p.tables e below (T2.setTop (mkF m 21 #[.val (.ref a1)] [])) _
      refine XS.iconst X2.here hx rfl (hb hby d2_21) ?_
      show Steps p.tables e below (T2.setTop (mkF m 22 #[.val (.ref a1)] [(.int (1 : Int32))])) _
      refine XS.goto X2.here hx rfl (pc0 := 22) (pc' := 26) rfl (hb hby d2_22) (by decide) (by decide) ?_
      show Steps p.tables e below (T2.setTop (mkF m 26 #[.val (.ref a1)] [(.int (1 : Int32))])) _
      exact Jvm.RoadKit.retOut X2 hx Bd.returns rfl (Or.inl ⟨rfl, by simp, _, rfl⟩) (hb hby d2_26) hr
    · show Q_rm2 Z a1 w_Kind_USER w_Kind_SERVICE_ACCOUNT w_Kind_PRINCIPAL h0 n0 _ T2.heap _
      rw [e2]
      unfold Q_rm2
      exact ⟨by simp [V2, hc3], N0, rfl⟩
  · have c5 : Sta Z h0 "com/example/role_bindings/rolebindings/Member$Kind" "SERVICE_ACCOUNT" "Lcom/example/role_bindings/rolebindings/Member$Kind;" (.ref w_Kind_SERVICE_ACCOUNT) := Sta.ext (O0).2 S_Kind_SERVICE_ACCOUNT
    obtain ⟨T6, X6, e6, st6⟩ := getS2 X2 hx hZ hown (host := "") (Or.inl (hwk hw 15 rfl)) Via.refl e2 c5 (g := (mkF m 8 #[.val (.ref a1)] [(.ref a1)])) rfl (hb hby d2_8)
    have S8 : ∀ t, Steps p.tables e below (T6.setTop (mkF m 11 #[.val (.ref a1)] [(.ref w_Kind_SERVICE_ACCOUNT), (.ref a1)])) t → Steps p.tables e below (s₁.setTop (entryFrame m #[(.ref a1)] 1)) t := fun t k => by
      refine S4 t ?_
      show Steps p.tables e below (T2.setTop (mkF m 4 #[.val (.ref a1)] [(.ref w_Kind_USER), (.ref a1)])) _
      refine Jvm.RoadKit.acmp (g := (mkF m 4 #[.val (.ref a1)] [(.ref w_Kind_USER), (.ref a1)])) X2 hx rfl rfl rfl (pc0 := 4) (pc' := 7) (same := false) rfl (hb hby d2_4) rfl (decide_eq_false fun q => hc3 (Value.ref.inj q)) (by decide) (by decide) ?_
      show Steps p.tables e below (T2.setTop (mkF m 7 #[.val (.ref a1)] [])) _
      refine XS.aloadN X2.here hx rfl (hb hby d2_7) rfl rfl ?_
      show Steps p.tables e below (T2.setTop (mkF m 8 #[.val (.ref a1)] [(.ref a1)])) _
      refine st6 _ ?_
      exact k
    by_cases hc7 : a1 = w_Kind_SERVICE_ACCOUNT
    · obtain ⟨fs, hr, hrun, hended, hW, hsame⟩ := X6.leave (v := some (.int (1 : Int32))) (fun h => by rw [Bd.returns] at h; cases h)
      refine ⟨_, _, S8 _ ?_, hrun, hended, _, _, rfl, ?_, ⟨_, rfl⟩, hW, hsame.mono (by decide) (by decide)⟩
      · show Steps p.tables e below (T6.setTop (mkF m 11 #[.val (.ref a1)] [(.ref w_Kind_SERVICE_ACCOUNT), (.ref a1)])) _
        refine Jvm.RoadKit.acmp (g := (mkF m 11 #[.val (.ref a1)] [(.ref w_Kind_SERVICE_ACCOUNT), (.ref a1)])) X6 hx rfl rfl rfl (pc0 := 11) (pc' := 21) (same := true) rfl (hb hby d2_11) rfl (decide_eq_true (congrArg Value.ref hc7)) (by decide) (by decide) ?_
        show Steps p.tables e below (T6.setTop (mkF m 21 #[.val (.ref a1)] [])) _
        refine XS.iconst X6.here hx rfl (hb hby d2_21) ?_
        show Steps p.tables e below (T6.setTop (mkF m 22 #[.val (.ref a1)] [(.int (1 : Int32))])) _
        refine XS.goto X6.here hx rfl (pc0 := 22) (pc' := 26) rfl (hb hby d2_22) (by decide) (by decide) ?_
        show Steps p.tables e below (T6.setTop (mkF m 26 #[.val (.ref a1)] [(.int (1 : Int32))])) _
        exact Jvm.RoadKit.retOut X6 hx Bd.returns rfl (Or.inl ⟨rfl, by simp, _, rfl⟩) (hb hby d2_26) hr
      · show Q_rm2 Z a1 w_Kind_USER w_Kind_SERVICE_ACCOUNT w_Kind_PRINCIPAL h0 n0 _ T6.heap _
        rw [e6]
        unfold Q_rm2
        exact ⟨by simp [V2, hc3, hc7], N0, rfl⟩
    · have c9 : Sta Z h0 "com/example/role_bindings/rolebindings/Member$Kind" "PRINCIPAL" "Lcom/example/role_bindings/rolebindings/Member$Kind;" (.ref w_Kind_PRINCIPAL) := Sta.ext (O0).2 S_Kind_PRINCIPAL
      obtain ⟨T10, X10, e10, st10⟩ := getS2 X6 hx hZ hown (host := "") (Or.inl (hwk hw 17 rfl)) Via.refl e6 c9 (g := (mkF m 15 #[.val (.ref a1)] [(.ref a1)])) rfl (hb hby d2_15)
      have S12 : ∀ t, Steps p.tables e below (T10.setTop (mkF m 18 #[.val (.ref a1)] [(.ref w_Kind_PRINCIPAL), (.ref a1)])) t → Steps p.tables e below (s₁.setTop (entryFrame m #[(.ref a1)] 1)) t := fun t k => by
        refine S8 t ?_
        show Steps p.tables e below (T6.setTop (mkF m 11 #[.val (.ref a1)] [(.ref w_Kind_SERVICE_ACCOUNT), (.ref a1)])) _
        refine Jvm.RoadKit.acmp (g := (mkF m 11 #[.val (.ref a1)] [(.ref w_Kind_SERVICE_ACCOUNT), (.ref a1)])) X6 hx rfl rfl rfl (pc0 := 11) (pc' := 14) (same := false) rfl (hb hby d2_11) rfl (decide_eq_false fun q => hc7 (Value.ref.inj q)) (by decide) (by decide) ?_
        show Steps p.tables e below (T6.setTop (mkF m 14 #[.val (.ref a1)] [])) _
        refine XS.aloadN X6.here hx rfl (hb hby d2_14) rfl rfl ?_
        show Steps p.tables e below (T6.setTop (mkF m 15 #[.val (.ref a1)] [(.ref a1)])) _
        refine st10 _ ?_
        exact k
      by_cases hc11 : a1 = w_Kind_PRINCIPAL
      · obtain ⟨fs, hr, hrun, hended, hW, hsame⟩ := X10.leave (v := some (.int (1 : Int32))) (fun h => by rw [Bd.returns] at h; cases h)
        refine ⟨_, _, S12 _ ?_, hrun, hended, _, _, rfl, ?_, ⟨_, rfl⟩, hW, hsame.mono (by decide) (by decide)⟩
        · show Steps p.tables e below (T10.setTop (mkF m 18 #[.val (.ref a1)] [(.ref w_Kind_PRINCIPAL), (.ref a1)])) _
          refine Jvm.RoadKit.acmp (g := (mkF m 18 #[.val (.ref a1)] [(.ref w_Kind_PRINCIPAL), (.ref a1)])) X10 hx rfl rfl rfl (pc0 := 18) (pc' := 21) (same := true) rfl (hb hby d2_18) rfl (decide_eq_true (congrArg Value.ref hc11)) (by decide) (by decide) ?_
          show Steps p.tables e below (T10.setTop (mkF m 21 #[.val (.ref a1)] [])) _
          refine XS.iconst X10.here hx rfl (hb hby d2_21) ?_
          show Steps p.tables e below (T10.setTop (mkF m 22 #[.val (.ref a1)] [(.int (1 : Int32))])) _
          refine XS.goto X10.here hx rfl (pc0 := 22) (pc' := 26) rfl (hb hby d2_22) (by decide) (by decide) ?_
          show Steps p.tables e below (T10.setTop (mkF m 26 #[.val (.ref a1)] [(.int (1 : Int32))])) _
          exact Jvm.RoadKit.retOut X10 hx Bd.returns rfl (Or.inl ⟨rfl, by simp, _, rfl⟩) (hb hby d2_26) hr
        · show Q_rm2 Z a1 w_Kind_USER w_Kind_SERVICE_ACCOUNT w_Kind_PRINCIPAL h0 n0 _ T10.heap _
          rw [e10]
          unfold Q_rm2
          exact ⟨by simp [V2, hc3, hc7, hc11], N0, rfl⟩
      · obtain ⟨fs, hr, hrun, hended, hW, hsame⟩ := X10.leave (v := some (.int (0 : Int32))) (fun h => by rw [Bd.returns] at h; cases h)
        refine ⟨_, _, S12 _ ?_, hrun, hended, _, _, rfl, ?_, ⟨_, rfl⟩, hW, hsame.mono (by decide) (by decide)⟩
        · show Steps p.tables e below (T10.setTop (mkF m 18 #[.val (.ref a1)] [(.ref w_Kind_PRINCIPAL), (.ref a1)])) _
          refine Jvm.RoadKit.acmp (g := (mkF m 18 #[.val (.ref a1)] [(.ref w_Kind_PRINCIPAL), (.ref a1)])) X10 hx rfl rfl rfl (pc0 := 18) (pc' := 25) (same := false) rfl (hb hby d2_18) rfl (decide_eq_false fun q => hc11 (Value.ref.inj q)) (by decide) (by decide) ?_
          show Steps p.tables e below (T10.setTop (mkF m 25 #[.val (.ref a1)] [])) _
          refine XS.iconst X10.here hx rfl (hb hby d2_25) ?_
          show Steps p.tables e below (T10.setTop (mkF m 26 #[.val (.ref a1)] [(.int (0 : Int32))])) _
          exact Jvm.RoadKit.retOut X10 hx Bd.returns rfl (Or.inl ⟨rfl, by simp, _, rfl⟩) (hb hby d2_26) hr
        · show Q_rm2 Z a1 w_Kind_USER w_Kind_SERVICE_ACCOUNT w_Kind_PRINCIPAL h0 n0 _ T10.heap _
          rw [e10]
          unfold Q_rm2
          exact ⟨by simp [V2, hc3, hc7, hc11], N0, rfl⟩
theorem ef_rm3 (m : MethodId) (x0 : Int32) : entryFrame m #[(.int x0)] 1 = mkF m 0 #[.val (.int x0)] [] := by first | (simp [entryFrame, mkF, argsToLocals, Value.category]; done) | rfl
def V3 (p : Int32) : Int32 := if p = 2 then 1 else if p = 3 then 1 else if p = 6 then 1 else 0
def Q_rm3 (Z : State) (p1 : Int32) (h0 : Heap) (n0 : Nat) (v : Option Value) (h : Heap) (L : List Loc) : Prop := (v = some (.int (V3 p1))) ∧ (Fr n0 L) ∧ (h = h0)
theorem d3_0 : decode method_3_code 0 = .ok (.iload_n 0, 1) := by decide +kernel
theorem d3_1 : decode method_3_code 1 = .ok (.iconst 2, 1) := by decide +kernel
theorem d3_2 : decode method_3_code 2 = .ok (.if_icmp .ne 5, 3) := by decide +kernel
theorem d3_5 : decode method_3_code 5 = .ok (.iconst 1, 1) := by decide +kernel
theorem d3_6 : decode method_3_code 6 = .ok (.ireturn, 1) := by decide +kernel
theorem d3_7 : decode method_3_code 7 = .ok (.iload_n 0, 1) := by decide +kernel
theorem d3_8 : decode method_3_code 8 = .ok (.iconst 3, 1) := by decide +kernel
theorem d3_9 : decode method_3_code 9 = .ok (.if_icmp .ne 5, 3) := by decide +kernel
theorem d3_12 : decode method_3_code 12 = .ok (.iconst 1, 1) := by decide +kernel
theorem d3_13 : decode method_3_code 13 = .ok (.ireturn, 1) := by decide +kernel
theorem d3_14 : decode method_3_code 14 = .ok (.iload_n 0, 1) := by decide +kernel
theorem d3_15 : decode method_3_code 15 = .ok (.bipush 6, 2) := by decide +kernel
theorem d3_17 : decode method_3_code 17 = .ok (.if_icmp .ne 5, 3) := by decide +kernel
theorem d3_20 : decode method_3_code 20 = .ok (.iconst 1, 1) := by decide +kernel
theorem d3_21 : decode method_3_code 21 = .ok (.ireturn, 1) := by decide +kernel
theorem d3_22 : decode method_3_code 22 = .ok (.iconst 0, 1) := by decide +kernel
theorem d3_23 : decode method_3_code 23 = .ok (.ireturn, 1) := by decide +kernel
set_option maxRecDepth 65536 in
set_option maxHeartbeats 40000000 in
theorem rm3 (l : Launch) (Z : State) (a0 : Array Value) (hw : ∀ d ∈ tables_1, d.before a0 Z = true) (ws : List Jvm.Cond) (p1 : Int32) (h0 : Heap) (n0 : Nat) (O0 : Old Z n0 h0)  :
    MetFree l (⟨"com/example/role_bindings/rolebindings/KindIsIdentityPinLaw", "namesOneIdentity", "(I)Z"⟩ : MethodName) (head1 (Jvm.Cond.code (⟨"com/example/role_bindings/rolebindings/KindIsIdentityPinLaw", "namesOneIdentity", "(I)Z"⟩ : MethodName) method_3_code 1 (some .boolean) :: ws) ({ frames := 0, cells := 0, slots := 0, locals := 0 } : Room)) (fun a U => a = #[(.int p1)] ∧ Z.Warmed39 U.vm ∧ U.heap = h0) (fun _ _ _ _ _ => True) (fun _ U o U' => ∃ v L, o = .returned v ∧ Q_rm3 Z p1 h0 n0 v U'.heap L ∧ FrameEnd U o U' L ({ frames := 0, cells := 0, slots := 0, locals := 0 } : Room).cells ({ frames := 0, cells := 0, slots := 0, locals := 0 } : Room).slots) := by
  refine MetFree.of_bodySF (plainFor_of_name pn_0) hisR ?_
  intro p e s m args below meth c s₁ Bd hml0 hP hK
  obtain ⟨rfl, hZ, hh⟩ := hP
  have hx := Bd.exec
  have hby := Bd.bytes
  have hml : c.maxLocals = 1 := hml0
  have hown : s.vm.findClass "com/example/role_bindings/rolebindings/KindIsIdentityPinLaw" = some m.cls := findClass_of_methodNamed Bd.named
  have hnm := (name_of_methodNamed Bd.named Bd.method).1
  have X0 : Stand p l e ({ frames := 0, cells := 0, slots := 0, locals := 0 } : Room) s m #[(.int p1)] below meth c s₁ [] 0 0 := Stand.of_body Bd
  have e0 : s₁.heap = h0 := by rw [← hh, Bd.state]; rfl
  have N0 := Fr.nil n0
  have Z0 : n0 ≤ h0.size := old_le O0
  have pre0 : ∀ t, Steps p.tables e below (s₁.setTop (mkF m 0 #[.val (.int p1)] [])) t → Steps p.tables e below (s₁.setTop (entryFrame m #[(.int p1)] 1)) t := fun t k => castTop (ef_rm3 m p1) k
  have S2 : ∀ t, Steps p.tables e below (s₁.setTop (mkF m 2 #[.val (.int p1)] [(.int (2 : Int32)), (.int p1)])) t → Steps p.tables e below (s₁.setTop (entryFrame m #[(.int p1)] 1)) t := fun t k => by
    refine pre0 t ?_
    show Steps p.tables e below (s₁.setTop (mkF m 0 #[.val (.int p1)] [])) _
    refine XS.iloadN X0.here hx rfl (hb hby d3_0) rfl ?_
    show Steps p.tables e below (s₁.setTop (mkF m 1 #[.val (.int p1)] [(.int p1)])) _
    refine XS.iconst X0.here hx rfl (hb hby d3_1) ?_
    exact k
  by_cases hc1 : p1 = (2 : Int32)
  · obtain ⟨fs, hr, hrun, hended, hW, hsame⟩ := X0.leave (v := some (.int (1 : Int32))) (fun h => by rw [Bd.returns] at h; cases h)
    refine ⟨_, _, S2 _ ?_, hrun, hended, _, _, rfl, ?_, ⟨_, rfl⟩, hW, hsame.mono (by decide) (by decide)⟩
    · show Steps p.tables e below (s₁.setTop (mkF m 2 #[.val (.int p1)] [(.int (2 : Int32)), (.int p1)])) _
      refine XS.icmpNo X0.here hx rfl (hb hby d3_2) rfl (teq hc1).2 ?_
      show Steps p.tables e below (s₁.setTop (mkF m 5 #[.val (.int p1)] [])) _
      refine XS.iconst X0.here hx rfl (hb hby d3_5) ?_
      show Steps p.tables e below (s₁.setTop (mkF m 6 #[.val (.int p1)] [(.int (1 : Int32))])) _
      exact Jvm.RoadKit.retOut X0 hx Bd.returns rfl (Or.inl ⟨rfl, by simp, _, rfl⟩) (hb hby d3_6) hr
    · show Q_rm3 Z p1 h0 n0 _ s₁.heap _
      rw [e0]
      unfold Q_rm3
      exact ⟨by simp [V3, hc1], N0, rfl⟩
  · have S4 : ∀ t, Steps p.tables e below (s₁.setTop (mkF m 9 #[.val (.int p1)] [(.int (3 : Int32)), (.int p1)])) t → Steps p.tables e below (s₁.setTop (entryFrame m #[(.int p1)] 1)) t := fun t k => by
      refine S2 t ?_
      show Steps p.tables e below (s₁.setTop (mkF m 2 #[.val (.int p1)] [(.int (2 : Int32)), (.int p1)])) _
      refine XS.icmpYes X0.here hx rfl (pc0 := 2) (pc' := 7) rfl (hb hby d3_2) rfl (feq hc1).2 (by decide) (by decide) ?_
      show Steps p.tables e below (s₁.setTop (mkF m 7 #[.val (.int p1)] [])) _
      refine XS.iloadN X0.here hx rfl (hb hby d3_7) rfl ?_
      show Steps p.tables e below (s₁.setTop (mkF m 8 #[.val (.int p1)] [(.int p1)])) _
      refine XS.iconst X0.here hx rfl (hb hby d3_8) ?_
      exact k
    by_cases hc3 : p1 = (3 : Int32)
    · obtain ⟨fs, hr, hrun, hended, hW, hsame⟩ := X0.leave (v := some (.int (1 : Int32))) (fun h => by rw [Bd.returns] at h; cases h)
      refine ⟨_, _, S4 _ ?_, hrun, hended, _, _, rfl, ?_, ⟨_, rfl⟩, hW, hsame.mono (by decide) (by decide)⟩
      · show Steps p.tables e below (s₁.setTop (mkF m 9 #[.val (.int p1)] [(.int (3 : Int32)), (.int p1)])) _
        refine XS.icmpNo X0.here hx rfl (hb hby d3_9) rfl (teq hc3).2 ?_
        show Steps p.tables e below (s₁.setTop (mkF m 12 #[.val (.int p1)] [])) _
        refine XS.iconst X0.here hx rfl (hb hby d3_12) ?_
        show Steps p.tables e below (s₁.setTop (mkF m 13 #[.val (.int p1)] [(.int (1 : Int32))])) _
        exact Jvm.RoadKit.retOut X0 hx Bd.returns rfl (Or.inl ⟨rfl, by simp, _, rfl⟩) (hb hby d3_13) hr
      · show Q_rm3 Z p1 h0 n0 _ s₁.heap _
        rw [e0]
        unfold Q_rm3
        exact ⟨by simp [V3, hc1, hc3], N0, rfl⟩
    · have S6 : ∀ t, Steps p.tables e below (s₁.setTop (mkF m 17 #[.val (.int p1)] [(.int (6 : Int32)), (.int p1)])) t → Steps p.tables e below (s₁.setTop (entryFrame m #[(.int p1)] 1)) t := fun t k => by
        refine S4 t ?_
        show Steps p.tables e below (s₁.setTop (mkF m 9 #[.val (.int p1)] [(.int (3 : Int32)), (.int p1)])) _
        refine XS.icmpYes X0.here hx rfl (pc0 := 9) (pc' := 14) rfl (hb hby d3_9) rfl (feq hc3).2 (by decide) (by decide) ?_
        show Steps p.tables e below (s₁.setTop (mkF m 14 #[.val (.int p1)] [])) _
        refine XS.iloadN X0.here hx rfl (hb hby d3_14) rfl ?_
        show Steps p.tables e below (s₁.setTop (mkF m 15 #[.val (.int p1)] [(.int p1)])) _
        refine XS.bipush X0.here hx rfl (hb hby d3_15) ?_
        exact k
      by_cases hc5 : p1 = (6 : Int32)
      · obtain ⟨fs, hr, hrun, hended, hW, hsame⟩ := X0.leave (v := some (.int (1 : Int32))) (fun h => by rw [Bd.returns] at h; cases h)
        refine ⟨_, _, S6 _ ?_, hrun, hended, _, _, rfl, ?_, ⟨_, rfl⟩, hW, hsame.mono (by decide) (by decide)⟩
        · show Steps p.tables e below (s₁.setTop (mkF m 17 #[.val (.int p1)] [(.int (6 : Int32)), (.int p1)])) _
          refine XS.icmpNo X0.here hx rfl (hb hby d3_17) rfl (teq hc5).2 ?_
          show Steps p.tables e below (s₁.setTop (mkF m 20 #[.val (.int p1)] [])) _
          refine XS.iconst X0.here hx rfl (hb hby d3_20) ?_
          show Steps p.tables e below (s₁.setTop (mkF m 21 #[.val (.int p1)] [(.int (1 : Int32))])) _
          exact Jvm.RoadKit.retOut X0 hx Bd.returns rfl (Or.inl ⟨rfl, by simp, _, rfl⟩) (hb hby d3_21) hr
        · show Q_rm3 Z p1 h0 n0 _ s₁.heap _
          rw [e0]
          unfold Q_rm3
          exact ⟨by simp [V3, hc1, hc3, hc5], N0, rfl⟩
      · obtain ⟨fs, hr, hrun, hended, hW, hsame⟩ := X0.leave (v := some (.int (0 : Int32))) (fun h => by rw [Bd.returns] at h; cases h)
        refine ⟨_, _, S6 _ ?_, hrun, hended, _, _, rfl, ?_, ⟨_, rfl⟩, hW, hsame.mono (by decide) (by decide)⟩
        · show Steps p.tables e below (s₁.setTop (mkF m 17 #[.val (.int p1)] [(.int (6 : Int32)), (.int p1)])) _
          refine XS.icmpYes X0.here hx rfl (pc0 := 17) (pc' := 22) rfl (hb hby d3_17) rfl (feq hc5).2 (by decide) (by decide) ?_
          show Steps p.tables e below (s₁.setTop (mkF m 22 #[.val (.int p1)] [])) _
          refine XS.iconst X0.here hx rfl (hb hby d3_22) ?_
          show Steps p.tables e below (s₁.setTop (mkF m 23 #[.val (.int p1)] [(.int (0 : Int32))])) _
          exact Jvm.RoadKit.retOut X0 hx Bd.returns rfl (Or.inl ⟨rfl, by simp, _, rfl⟩) (hb hby d3_23) hr
        · show Q_rm3 Z p1 h0 n0 _ s₁.heap _
          rw [e0]
          unfold Q_rm3
          exact ⟨by simp [V3, hc1, hc3, hc5], N0, rfl⟩
theorem own_plain (i : Int32) (w_Kind_ALL_USERS w_Kind_ALL_AUTHENTICATED_USERS w_Kind_USER w_Kind_SERVICE_ACCOUNT w_Kind_GROUP w_Kind_DOMAIN w_Kind_PRINCIPAL w_Kind_PRINCIPAL_SET w_Kind_DELETED_USER w_Kind_DELETED_SERVICE_ACCOUNT w_Kind_DELETED_GROUP w_Kind_DELETED_PRINCIPAL : Addr) (h0_2 : ¬ w_Kind_ALL_USERS = w_Kind_USER) (h0_3 : ¬ w_Kind_ALL_USERS = w_Kind_SERVICE_ACCOUNT) (h0_6 : ¬ w_Kind_ALL_USERS = w_Kind_PRINCIPAL) (h1_2 : ¬ w_Kind_ALL_AUTHENTICATED_USERS = w_Kind_USER) (h1_3 : ¬ w_Kind_ALL_AUTHENTICATED_USERS = w_Kind_SERVICE_ACCOUNT) (h1_6 : ¬ w_Kind_ALL_AUTHENTICATED_USERS = w_Kind_PRINCIPAL) (h4_2 : ¬ w_Kind_GROUP = w_Kind_USER) (h4_3 : ¬ w_Kind_GROUP = w_Kind_SERVICE_ACCOUNT) (h4_6 : ¬ w_Kind_GROUP = w_Kind_PRINCIPAL) (h5_2 : ¬ w_Kind_DOMAIN = w_Kind_USER) (h5_3 : ¬ w_Kind_DOMAIN = w_Kind_SERVICE_ACCOUNT) (h5_6 : ¬ w_Kind_DOMAIN = w_Kind_PRINCIPAL) (h7_2 : ¬ w_Kind_PRINCIPAL_SET = w_Kind_USER) (h7_3 : ¬ w_Kind_PRINCIPAL_SET = w_Kind_SERVICE_ACCOUNT) (h7_6 : ¬ w_Kind_PRINCIPAL_SET = w_Kind_PRINCIPAL) (h8_2 : ¬ w_Kind_DELETED_USER = w_Kind_USER) (h8_3 : ¬ w_Kind_DELETED_USER = w_Kind_SERVICE_ACCOUNT) (h8_6 : ¬ w_Kind_DELETED_USER = w_Kind_PRINCIPAL) (h9_2 : ¬ w_Kind_DELETED_SERVICE_ACCOUNT = w_Kind_USER) (h9_3 : ¬ w_Kind_DELETED_SERVICE_ACCOUNT = w_Kind_SERVICE_ACCOUNT) (h9_6 : ¬ w_Kind_DELETED_SERVICE_ACCOUNT = w_Kind_PRINCIPAL) (h10_2 : ¬ w_Kind_DELETED_GROUP = w_Kind_USER) (h10_3 : ¬ w_Kind_DELETED_GROUP = w_Kind_SERVICE_ACCOUNT) (h10_6 : ¬ w_Kind_DELETED_GROUP = w_Kind_PRINCIPAL) (h11_2 : ¬ w_Kind_DELETED_PRINCIPAL = w_Kind_USER) (h11_3 : ¬ w_Kind_DELETED_PRINCIPAL = w_Kind_SERVICE_ACCOUNT) (h11_6 : ¬ w_Kind_DELETED_PRINCIPAL = w_Kind_PRINCIPAL) : V2 (V1 i w_Kind_ALL_USERS w_Kind_ALL_AUTHENTICATED_USERS w_Kind_USER w_Kind_SERVICE_ACCOUNT w_Kind_GROUP w_Kind_DOMAIN w_Kind_PRINCIPAL w_Kind_PRINCIPAL_SET w_Kind_DELETED_USER w_Kind_DELETED_SERVICE_ACCOUNT w_Kind_DELETED_GROUP w_Kind_DELETED_PRINCIPAL) w_Kind_USER w_Kind_SERVICE_ACCOUNT w_Kind_PRINCIPAL = V3 i := by
  by_cases c0 : i = 0
  · subst c0; simp [V1, V2, V3, *]
  by_cases c1 : i = 1
  · subst c1; simp [V1, V2, V3, *]
  by_cases c2 : i = 2
  · subst c2; simp [V1, V2, V3, *]
  by_cases c3 : i = 3
  · subst c3; simp [V1, V2, V3, *]
  by_cases c4 : i = 4
  · subst c4; simp [V1, V2, V3, *]
  by_cases c5 : i = 5
  · subst c5; simp [V1, V2, V3, *]
  by_cases c6 : i = 6
  · subst c6; simp [V1, V2, V3, *]
  by_cases c7 : i = 7
  · subst c7; simp [V1, V2, V3, *]
  by_cases c8 : i = 8
  · subst c8; simp [V1, V2, V3, *]
  by_cases c9 : i = 9
  · subst c9; simp [V1, V2, V3, *]
  by_cases c10 : i = 10
  · subst c10; simp [V1, V2, V3, *]
  simp [V1, V2, V3, *]

theorem ef_rm0 (m : MethodId) (x0 : Int32) : entryFrame m #[(.int x0)] maxLocals = mkF m 0 #[.val (.int x0), .unset, .unset] [] := by first | (simp [entryFrame, mkF, argsToLocals, Value.category, maxLocals]; done) | rfl
def Q_rm0 (Z : State) (p1 : Int32) (w_Kind_USER : Addr) (w_Kind_GROUP : Addr) (w_Kind_DOMAIN : Addr) (w_Kind_ALL_USERS : Addr) (w_Kind_PRINCIPAL : Addr) (w_Kind_DELETED_USER : Addr) (w_Kind_PRINCIPAL_SET : Addr) (w_Kind_DELETED_GROUP : Addr) (w_Kind_SERVICE_ACCOUNT : Addr) (w_Kind_DELETED_PRINCIPAL : Addr) (w_Kind_ALL_AUTHENTICATED_USERS : Addr) (w_Kind_DELETED_SERVICE_ACCOUNT : Addr) (h0 : Heap) (n0 : Nat) (v : Option Value) (h : Heap) (L : List Loc) : Prop := (v = some (.int (1 : Int32))) ∧ (Fr n0 L) ∧ (h = h0)
theorem pd_0 : parseMethodDescriptor "(I)Lcom/example/role_bindings/rolebindings/Member$Kind;" = some ⟨[.int], some (.object "com/example/role_bindings/rolebindings/Member$Kind")⟩ := by decide +kernel
theorem pd_1 : parseMethodDescriptor "()Z" = some ⟨[], some .boolean⟩ := by decide +kernel
theorem pd_2 : parseMethodDescriptor "(I)Z" = some ⟨[.int], some .boolean⟩ := by decide +kernel
set_option maxRecDepth 65536 in
set_option maxHeartbeats 40000000 in
theorem rm0 (l : Launch) (Z : State) (a0 : Array Value) (hw : ∀ d ∈ tables_1, d.before a0 Z = true) (ws : List Jvm.Cond) (p1 : Int32) (w_Kind_USER : Addr) (w_Kind_GROUP : Addr) (w_Kind_DOMAIN : Addr) (w_Kind_ALL_USERS : Addr) (w_Kind_PRINCIPAL : Addr) (w_Kind_DELETED_USER : Addr) (w_Kind_PRINCIPAL_SET : Addr) (w_Kind_DELETED_GROUP : Addr) (w_Kind_SERVICE_ACCOUNT : Addr) (w_Kind_DELETED_PRINCIPAL : Addr) (w_Kind_ALL_AUTHENTICATED_USERS : Addr) (w_Kind_DELETED_SERVICE_ACCOUNT : Addr) (h0 : Heap) (n0 : Nat) (O0 : Old Z n0 h0) (S_Kind_USER : Sta Z Z.heap "com/example/role_bindings/rolebindings/Member$Kind" "USER" "Lcom/example/role_bindings/rolebindings/Member$Kind;" (.ref w_Kind_USER)) (E_w_Kind_USER : Exa Z Z.heap w_Kind_USER "com/example/role_bindings/rolebindings/Member$Kind") (S_Kind_GROUP : Sta Z Z.heap "com/example/role_bindings/rolebindings/Member$Kind" "GROUP" "Lcom/example/role_bindings/rolebindings/Member$Kind;" (.ref w_Kind_GROUP)) (E_w_Kind_GROUP : Exa Z Z.heap w_Kind_GROUP "com/example/role_bindings/rolebindings/Member$Kind") (S_Kind_DOMAIN : Sta Z Z.heap "com/example/role_bindings/rolebindings/Member$Kind" "DOMAIN" "Lcom/example/role_bindings/rolebindings/Member$Kind;" (.ref w_Kind_DOMAIN)) (E_w_Kind_DOMAIN : Exa Z Z.heap w_Kind_DOMAIN "com/example/role_bindings/rolebindings/Member$Kind") (S_Kind_ALL_USERS : Sta Z Z.heap "com/example/role_bindings/rolebindings/Member$Kind" "ALL_USERS" "Lcom/example/role_bindings/rolebindings/Member$Kind;" (.ref w_Kind_ALL_USERS)) (E_w_Kind_ALL_USERS : Exa Z Z.heap w_Kind_ALL_USERS "com/example/role_bindings/rolebindings/Member$Kind") (S_Kind_PRINCIPAL : Sta Z Z.heap "com/example/role_bindings/rolebindings/Member$Kind" "PRINCIPAL" "Lcom/example/role_bindings/rolebindings/Member$Kind;" (.ref w_Kind_PRINCIPAL)) (E_w_Kind_PRINCIPAL : Exa Z Z.heap w_Kind_PRINCIPAL "com/example/role_bindings/rolebindings/Member$Kind") (S_Kind_DELETED_USER : Sta Z Z.heap "com/example/role_bindings/rolebindings/Member$Kind" "DELETED_USER" "Lcom/example/role_bindings/rolebindings/Member$Kind;" (.ref w_Kind_DELETED_USER)) (E_w_Kind_DELETED_USER : Exa Z Z.heap w_Kind_DELETED_USER "com/example/role_bindings/rolebindings/Member$Kind") (S_Kind_PRINCIPAL_SET : Sta Z Z.heap "com/example/role_bindings/rolebindings/Member$Kind" "PRINCIPAL_SET" "Lcom/example/role_bindings/rolebindings/Member$Kind;" (.ref w_Kind_PRINCIPAL_SET)) (E_w_Kind_PRINCIPAL_SET : Exa Z Z.heap w_Kind_PRINCIPAL_SET "com/example/role_bindings/rolebindings/Member$Kind") (S_Kind_DELETED_GROUP : Sta Z Z.heap "com/example/role_bindings/rolebindings/Member$Kind" "DELETED_GROUP" "Lcom/example/role_bindings/rolebindings/Member$Kind;" (.ref w_Kind_DELETED_GROUP)) (E_w_Kind_DELETED_GROUP : Exa Z Z.heap w_Kind_DELETED_GROUP "com/example/role_bindings/rolebindings/Member$Kind") (S_Kind_SERVICE_ACCOUNT : Sta Z Z.heap "com/example/role_bindings/rolebindings/Member$Kind" "SERVICE_ACCOUNT" "Lcom/example/role_bindings/rolebindings/Member$Kind;" (.ref w_Kind_SERVICE_ACCOUNT)) (E_w_Kind_SERVICE_ACCOUNT : Exa Z Z.heap w_Kind_SERVICE_ACCOUNT "com/example/role_bindings/rolebindings/Member$Kind") (S_Kind_DELETED_PRINCIPAL : Sta Z Z.heap "com/example/role_bindings/rolebindings/Member$Kind" "DELETED_PRINCIPAL" "Lcom/example/role_bindings/rolebindings/Member$Kind;" (.ref w_Kind_DELETED_PRINCIPAL)) (E_w_Kind_DELETED_PRINCIPAL : Exa Z Z.heap w_Kind_DELETED_PRINCIPAL "com/example/role_bindings/rolebindings/Member$Kind") (S_Kind_ALL_AUTHENTICATED_USERS : Sta Z Z.heap "com/example/role_bindings/rolebindings/Member$Kind" "ALL_AUTHENTICATED_USERS" "Lcom/example/role_bindings/rolebindings/Member$Kind;" (.ref w_Kind_ALL_AUTHENTICATED_USERS)) (E_w_Kind_ALL_AUTHENTICATED_USERS : Exa Z Z.heap w_Kind_ALL_AUTHENTICATED_USERS "com/example/role_bindings/rolebindings/Member$Kind") (S_Kind_DELETED_SERVICE_ACCOUNT : Sta Z Z.heap "com/example/role_bindings/rolebindings/Member$Kind" "DELETED_SERVICE_ACCOUNT" "Lcom/example/role_bindings/rolebindings/Member$Kind;" (.ref w_Kind_DELETED_SERVICE_ACCOUNT)) (E_w_Kind_DELETED_SERVICE_ACCOUNT : Exa Z Z.heap w_Kind_DELETED_SERVICE_ACCOUNT "com/example/role_bindings/rolebindings/Member$Kind") (F_w_Kind_ALL_USERS_ordinal : Fld Z Z.heap w_Kind_ALL_USERS "java/lang/Enum" "ordinal" "I" (.int (0 : Int32))) (F_w_Kind_USER_ordinal : Fld Z Z.heap w_Kind_USER "java/lang/Enum" "ordinal" "I" (.int (2 : Int32))) (F_w_Kind_SERVICE_ACCOUNT_ordinal : Fld Z Z.heap w_Kind_SERVICE_ACCOUNT "java/lang/Enum" "ordinal" "I" (.int (3 : Int32))) (F_w_Kind_PRINCIPAL_ordinal : Fld Z Z.heap w_Kind_PRINCIPAL "java/lang/Enum" "ordinal" "I" (.int (6 : Int32))) (F_w_Kind_PRINCIPAL_SET_ordinal : Fld Z Z.heap w_Kind_PRINCIPAL_SET "java/lang/Enum" "ordinal" "I" (.int (7 : Int32))) (F_w_Kind_DELETED_PRINCIPAL_ordinal : Fld Z Z.heap w_Kind_DELETED_PRINCIPAL "java/lang/Enum" "ordinal" "I" (.int (11 : Int32))) (F_w_Kind_GROUP_ordinal : Fld Z Z.heap w_Kind_GROUP "java/lang/Enum" "ordinal" "I" (.int (4 : Int32))) (F_w_Kind_DELETED_USER_ordinal : Fld Z Z.heap w_Kind_DELETED_USER "java/lang/Enum" "ordinal" "I" (.int (8 : Int32))) (F_w_Kind_ALL_AUTHENTICATED_USERS_ordinal : Fld Z Z.heap w_Kind_ALL_AUTHENTICATED_USERS "java/lang/Enum" "ordinal" "I" (.int (1 : Int32))) (F_w_Kind_DELETED_GROUP_ordinal : Fld Z Z.heap w_Kind_DELETED_GROUP "java/lang/Enum" "ordinal" "I" (.int (10 : Int32))) (F_w_Kind_DELETED_SERVICE_ACCOUNT_ordinal : Fld Z Z.heap w_Kind_DELETED_SERVICE_ACCOUNT "java/lang/Enum" "ordinal" "I" (.int (9 : Int32))) (F_w_Kind_DOMAIN_ordinal : Fld Z Z.heap w_Kind_DOMAIN "java/lang/Enum" "ordinal" "I" (.int (5 : Int32))) :
    MetFree l x (head1 (Jvm.Cond.code x code maxLocals ret :: ws) room_1) (fun a U => a = #[(.int p1)] ∧ Z.Warmed39 U.vm ∧ U.heap = h0) (fun _ _ _ _ _ => True) (fun _ U o U' => ∃ v L, o = .returned v ∧ Q_rm0 Z p1 w_Kind_USER w_Kind_GROUP w_Kind_DOMAIN w_Kind_ALL_USERS w_Kind_PRINCIPAL w_Kind_DELETED_USER w_Kind_PRINCIPAL_SET w_Kind_DELETED_GROUP w_Kind_SERVICE_ACCOUNT w_Kind_DELETED_PRINCIPAL w_Kind_ALL_AUTHENTICATED_USERS w_Kind_DELETED_SERVICE_ACCOUNT h0 n0 v U'.heap L ∧ FrameEnd U o U' L room_1.cells room_1.slots) := by
  refine MetFree.of_bodySF (plainFor_of_name pn_0) hisR ?_
  intro p e s m args below meth c s₁ Bd hml0 hP hK
  obtain ⟨rfl, hZ, hh⟩ := hP
  have hx := Bd.exec
  have hby := Bd.bytes
  have hml : c.maxLocals = 3 := hml0
  have hown : s.vm.findClass "com/example/role_bindings/rolebindings/KindIsIdentityPinLaw" = some m.cls := findClass_of_methodNamed Bd.named
  have hnm := (name_of_methodNamed Bd.named Bd.method).1
  have X0 : Stand p l e room_1 s m #[(.int p1)] below meth c s₁ [] 0 0 := Stand.of_body Bd
  have e0 : s₁.heap = h0 := by rw [← hh, Bd.state]; rfl
  have N0 := Fr.nil n0
  have Z0 : n0 ≤ h0.size := old_le O0
  have pre0 : ∀ t, Steps p.tables e below (s₁.setTop (mkF m 0 #[.val (.int p1), .unset, .unset] [])) t → Steps p.tables e below (s₁.setTop (entryFrame m #[(.int p1)] maxLocals)) t := fun t k => castTop (ef_rm0 m p1) k
  obtain ⟨_, _, ⟨T1, L1, k1, n1⟩, -, X1, ⟨Lc1, hQ1, l1, y1, z1⟩, st1⟩ := Jvm.LawKit.callS X0 hx (y := (⟨"com/example/role_bindings/rolebindings/KindIsIdentityPinLaw", "kindAt", "(I)Lcom/example/role_bindings/rolebindings/Member$Kind;"⟩ : MethodName)) hown (mvT hZ (hwk hw 1 rfl)) (mvT hZ (hwk hw 2 rfl)) (mvT hZ (hwk hw 3 rfl)) (mvT hZ (hwk hw 4 rfl)) (by decide) (backOf (W := 0) (rm1 l Z a0 hw [] ((p1 &&& (2147483647 : Int32)) % (12 : Int32)) w_Kind_ALL_USERS w_Kind_ALL_AUTHENTICATED_USERS w_Kind_USER w_Kind_SERVICE_ACCOUNT w_Kind_GROUP w_Kind_DOMAIN w_Kind_PRINCIPAL w_Kind_PRINCIPAL_SET w_Kind_DELETED_USER w_Kind_DELETED_SERVICE_ACCOUNT w_Kind_DELETED_GROUP w_Kind_DELETED_PRINCIPAL h0 n0 O0 S_Kind_USER S_Kind_GROUP S_Kind_DOMAIN S_Kind_ALL_USERS S_Kind_PRINCIPAL S_Kind_DELETED_USER S_Kind_PRINCIPAL_SET S_Kind_DELETED_GROUP S_Kind_SERVICE_ACCOUNT S_Kind_DELETED_PRINCIPAL S_Kind_ALL_AUTHENTICATED_USERS S_Kind_DELETED_SERVICE_ACCOUNT E_w_Kind_USER E_w_Kind_GROUP E_w_Kind_DOMAIN E_w_Kind_ALL_USERS E_w_Kind_PRINCIPAL E_w_Kind_DELETED_USER E_w_Kind_PRINCIPAL_SET E_w_Kind_DELETED_GROUP E_w_Kind_SERVICE_ACCOUNT E_w_Kind_DELETED_PRINCIPAL E_w_Kind_ALL_AUTHENTICATED_USERS E_w_Kind_DELETED_SERVICE_ACCOUNT) hZ (hwk hw 4 rfl) (hwk hw 3 rfl) (by decide) (by decide)) (g := (mkF m 9 #[.val (.int p1), .val (.int ((p1 &&& (2147483647 : Int32)) % (12 : Int32))), .unset] [(.int ((p1 &&& (2147483647 : Int32)) % (12 : Int32)))])) rfl (by rw [hml]; rfl) (argsL := [(.int ((p1 &&& (2147483647 : Int32)) % (12 : Int32)))]) (rest := []) (lenOf pd_0 rfl) rfl (by show 2 * 0 + _ ≤ _; exact Nat.le_of_eq rfl) (hb hby at_9) (fun _ _ => ⟨rfl, e0, (by decide : 0 + 0 ≤ _), (by decide : 0 + 0 ≤ _)⟩)
  dsimp only [Pt.U, Pt.locs, Pt.cells, Pt.slots] at X1 l1 y1 z1 st1 hQ1
  subst l1 y1 z1
  unfold Q_rm1 at hQ1
  obtain ⟨rfl, N1q, e1, f1_0⟩ := hQ1
  have N1 := Fr.app N0 N1q
  have c3 : Exa Z h0 (V1 ((p1 &&& (2147483647 : Int32)) % (12 : Int32)) w_Kind_ALL_USERS w_Kind_ALL_AUTHENTICATED_USERS w_Kind_USER w_Kind_SERVICE_ACCOUNT w_Kind_GROUP w_Kind_DOMAIN w_Kind_PRINCIPAL w_Kind_PRINCIPAL_SET w_Kind_DELETED_USER w_Kind_DELETED_SERVICE_ACCOUNT w_Kind_DELETED_GROUP w_Kind_DELETED_PRINCIPAL) "com/example/role_bindings/rolebindings/Member$Kind" := Exa.ext (O0).2 f1_0
  obtain ⟨cq2, kq2, q2a, q2b, q2c⟩ := isOf hZ e1 c3
  obtain ⟨_, _, ⟨T2, L2, k2, n2⟩, -, X2, ⟨Lc2, hQ2, l2, y2, z2⟩, st2⟩ := X1.virtualBack hx (y := (⟨"com/example/role_bindings/rolebindings/Member$Kind", "isIdentity", "()Z"⟩ : MethodName)) (z := (⟨"com/example/role_bindings/rolebindings/Member$Kind", "isIdentity", "()Z"⟩ : MethodName)) hown (mvT hZ (hwk hw 8 rfl)) (mvT hZ (hwk hw 9 rfl)) (notFace_of_selects (args := #[]) (mvT hZ (hwk hw 11 rfl))) (mvT hZ (hwk hw 11 rfl)) (mvT hZ (hwk hw 10 rfl)) (by decide) (backOf (W := 0) (rm2 l Z a0 hw [] (V1 ((p1 &&& (2147483647 : Int32)) % (12 : Int32)) w_Kind_ALL_USERS w_Kind_ALL_AUTHENTICATED_USERS w_Kind_USER w_Kind_SERVICE_ACCOUNT w_Kind_GROUP w_Kind_DOMAIN w_Kind_PRINCIPAL w_Kind_PRINCIPAL_SET w_Kind_DELETED_USER w_Kind_DELETED_SERVICE_ACCOUNT w_Kind_DELETED_GROUP w_Kind_DELETED_PRINCIPAL) w_Kind_USER w_Kind_SERVICE_ACCOUNT w_Kind_PRINCIPAL h0 n0 O0 S_Kind_USER S_Kind_SERVICE_ACCOUNT S_Kind_PRINCIPAL) hZ (hwk hw 12 rfl) (hwk hw 6 rfl) (by decide) (by decide)) q2a q2c (g := (mkF m 14 #[.val (.int p1), .val (.int ((p1 &&& (2147483647 : Int32)) % (12 : Int32))), .val (.ref (V1 ((p1 &&& (2147483647 : Int32)) % (12 : Int32)) w_Kind_ALL_USERS w_Kind_ALL_AUTHENTICATED_USERS w_Kind_USER w_Kind_SERVICE_ACCOUNT w_Kind_GROUP w_Kind_DOMAIN w_Kind_PRINCIPAL w_Kind_PRINCIPAL_SET w_Kind_DELETED_USER w_Kind_DELETED_SERVICE_ACCOUNT w_Kind_DELETED_GROUP w_Kind_DELETED_PRINCIPAL))] [(.ref (V1 ((p1 &&& (2147483647 : Int32)) % (12 : Int32)) w_Kind_ALL_USERS w_Kind_ALL_AUTHENTICATED_USERS w_Kind_USER w_Kind_SERVICE_ACCOUNT w_Kind_GROUP w_Kind_DOMAIN w_Kind_PRINCIPAL w_Kind_PRINCIPAL_SET w_Kind_DELETED_USER w_Kind_DELETED_SERVICE_ACCOUNT w_Kind_DELETED_GROUP w_Kind_DELETED_PRINCIPAL))])) rfl (by rw [hml]; rfl) (Steps.refl _) (argsL := []) (rest := []) (lenOf pd_1 rfl) rfl (by show 2 * 0 + _ ≤ _; exact Nat.le_of_eq rfl) (hb hby at_14) (fun _ _ => ⟨rfl, e1, (by decide : 0 + 0 ≤ _), (by decide : 0 + 0 ≤ _)⟩)
  dsimp only [Pt.U, Pt.locs, Pt.cells, Pt.slots] at X2 l2 y2 z2 st2 hQ2
  subst l2 y2 z2
  unfold Q_rm2 at hQ2
  obtain ⟨rfl, N2q, e2⟩ := hQ2
  have N2 := Fr.app N1 N2q
  obtain ⟨_, _, ⟨T4, L4, k4, n4⟩, -, X4, ⟨Lc4, hQ4, l4, y4, z4⟩, st4⟩ := Jvm.LawKit.callS X2 hx (y := (⟨"com/example/role_bindings/rolebindings/KindIsIdentityPinLaw", "namesOneIdentity", "(I)Z"⟩ : MethodName)) hown (mvT hZ (hwk hw 19 rfl)) (mvT hZ (hwk hw 20 rfl)) (mvT hZ (hwk hw 3 rfl)) (mvT hZ (hwk hw 21 rfl)) (by decide) (backOf (W := 1) (rm3 l Z a0 hw [] ((p1 &&& (2147483647 : Int32)) % (12 : Int32)) h0 n0 O0 ) hZ (hwk hw 21 rfl) (hwk hw 3 rfl) (by decide) (by decide)) (g := (mkF m 18 #[.val (.int p1), .val (.int ((p1 &&& (2147483647 : Int32)) % (12 : Int32))), .val (.ref (V1 ((p1 &&& (2147483647 : Int32)) % (12 : Int32)) w_Kind_ALL_USERS w_Kind_ALL_AUTHENTICATED_USERS w_Kind_USER w_Kind_SERVICE_ACCOUNT w_Kind_GROUP w_Kind_DOMAIN w_Kind_PRINCIPAL w_Kind_PRINCIPAL_SET w_Kind_DELETED_USER w_Kind_DELETED_SERVICE_ACCOUNT w_Kind_DELETED_GROUP w_Kind_DELETED_PRINCIPAL))] [(.int ((p1 &&& (2147483647 : Int32)) % (12 : Int32))), (.int (V2 (V1 ((p1 &&& (2147483647 : Int32)) % (12 : Int32)) w_Kind_ALL_USERS w_Kind_ALL_AUTHENTICATED_USERS w_Kind_USER w_Kind_SERVICE_ACCOUNT w_Kind_GROUP w_Kind_DOMAIN w_Kind_PRINCIPAL w_Kind_PRINCIPAL_SET w_Kind_DELETED_USER w_Kind_DELETED_SERVICE_ACCOUNT w_Kind_DELETED_GROUP w_Kind_DELETED_PRINCIPAL) w_Kind_USER w_Kind_SERVICE_ACCOUNT w_Kind_PRINCIPAL))])) rfl (by rw [hml]; rfl) (argsL := [(.int ((p1 &&& (2147483647 : Int32)) % (12 : Int32)))]) (rest := [(.int (V2 (V1 ((p1 &&& (2147483647 : Int32)) % (12 : Int32)) w_Kind_ALL_USERS w_Kind_ALL_AUTHENTICATED_USERS w_Kind_USER w_Kind_SERVICE_ACCOUNT w_Kind_GROUP w_Kind_DOMAIN w_Kind_PRINCIPAL w_Kind_PRINCIPAL_SET w_Kind_DELETED_USER w_Kind_DELETED_SERVICE_ACCOUNT w_Kind_DELETED_GROUP w_Kind_DELETED_PRINCIPAL) w_Kind_USER w_Kind_SERVICE_ACCOUNT w_Kind_PRINCIPAL))]) (lenOf pd_2 rfl) rfl (by show 2 * 0 + _ ≤ _; exact Nat.le_of_eq rfl) (hb hby at_18) (fun _ _ => ⟨rfl, e2, (by decide : 0 + 0 ≤ _), (by decide : 0 + 0 ≤ _)⟩)
  dsimp only [Pt.U, Pt.locs, Pt.cells, Pt.slots] at X4 l4 y4 z4 st4 hQ4
  subst l4 y4 z4
  unfold Q_rm3 at hQ4
  obtain ⟨rfl, N4q, e4⟩ := hQ4
  have N4 := Fr.app N2 N4q
  obtain ⟨fs, hr, hrun, hended, hW, hsame⟩ := X4.leave (v := some (.int (1 : Int32))) (fun h => by rw [Bd.returns] at h; cases h)
  refine ⟨_, _, pre0 _ ?_, hrun, hended, _, _, rfl, ?_, ⟨_, rfl⟩, hW, hsame.mono (by decide) (by decide)⟩
  · show Steps p.tables e below (s₁.setTop (mkF m 0 #[.val (.int p1), .unset, .unset] [])) _
    refine XS.iloadN X0.here hx rfl (hb hby at_0) rfl ?_
    show Steps p.tables e below (s₁.setTop (mkF m 1 #[.val (.int p1), .unset, .unset] [(.int p1)])) _
    refine X0.ldcInt hx hown (mvT hZ (hwk hw 0 rfl)) (g := (mkF m 1 #[.val (.int p1), .unset, .unset] [(.int p1)])) rfl (hb hby at_1) _ ?_
    show Steps p.tables e below (s₁.setTop (mkF m 3 #[.val (.int p1), .unset, .unset] [(.int (2147483647 : Int32)), (.int p1)])) _
    refine XS.iand X0.here hx rfl (hb hby at_3) rfl ?_
    show Steps p.tables e below (s₁.setTop (mkF m 4 #[.val (.int p1), .unset, .unset] [(.int (p1 &&& (2147483647 : Int32)))])) _
    refine XS.bipush X0.here hx rfl (hb hby at_4) ?_
    show Steps p.tables e below (s₁.setTop (mkF m 6 #[.val (.int p1), .unset, .unset] [(.int (12 : Int32)), (.int (p1 &&& (2147483647 : Int32)))])) _
    refine Jvm.RoadKit.iremM (g := (mkF m 6 #[.val (.int p1), .unset, .unset] [(.int (12 : Int32)), (.int (p1 &&& (2147483647 : Int32)))])) X0 hx rfl (hb hby at_6) rfl (by decide) ?_
    show Steps p.tables e below (s₁.setTop (mkF m 7 #[.val (.int p1), .unset, .unset] [(.int ((p1 &&& (2147483647 : Int32)) % (12 : Int32)))])) _
    refine XS.istoreN X0.here hx rfl (hb hby at_7) rfl (l' := #[.val (.int p1), .val (.int ((p1 &&& (2147483647 : Int32)) % (12 : Int32))), .unset]) rfl ?_
    show Steps p.tables e below (s₁.setTop (mkF m 8 #[.val (.int p1), .val (.int ((p1 &&& (2147483647 : Int32)) % (12 : Int32))), .unset] [])) _
    refine XS.iloadN X0.here hx rfl (hb hby at_8) rfl ?_
    show Steps p.tables e below (s₁.setTop (mkF m 9 #[.val (.int p1), .val (.int ((p1 &&& (2147483647 : Int32)) % (12 : Int32))), .unset] [(.int ((p1 &&& (2147483647 : Int32)) % (12 : Int32)))])) _
    refine st1 _ ?_
    show Steps p.tables e below (T1.setTop (mkF m 12 #[.val (.int p1), .val (.int ((p1 &&& (2147483647 : Int32)) % (12 : Int32))), .unset] [(.ref (V1 ((p1 &&& (2147483647 : Int32)) % (12 : Int32)) w_Kind_ALL_USERS w_Kind_ALL_AUTHENTICATED_USERS w_Kind_USER w_Kind_SERVICE_ACCOUNT w_Kind_GROUP w_Kind_DOMAIN w_Kind_PRINCIPAL w_Kind_PRINCIPAL_SET w_Kind_DELETED_USER w_Kind_DELETED_SERVICE_ACCOUNT w_Kind_DELETED_GROUP w_Kind_DELETED_PRINCIPAL))])) _
    refine XS.astoreN X1.here hx rfl (hb hby at_12) rfl rfl (l' := #[.val (.int p1), .val (.int ((p1 &&& (2147483647 : Int32)) % (12 : Int32))), .val (.ref (V1 ((p1 &&& (2147483647 : Int32)) % (12 : Int32)) w_Kind_ALL_USERS w_Kind_ALL_AUTHENTICATED_USERS w_Kind_USER w_Kind_SERVICE_ACCOUNT w_Kind_GROUP w_Kind_DOMAIN w_Kind_PRINCIPAL w_Kind_PRINCIPAL_SET w_Kind_DELETED_USER w_Kind_DELETED_SERVICE_ACCOUNT w_Kind_DELETED_GROUP w_Kind_DELETED_PRINCIPAL))]) rfl ?_
    show Steps p.tables e below (T1.setTop (mkF m 13 #[.val (.int p1), .val (.int ((p1 &&& (2147483647 : Int32)) % (12 : Int32))), .val (.ref (V1 ((p1 &&& (2147483647 : Int32)) % (12 : Int32)) w_Kind_ALL_USERS w_Kind_ALL_AUTHENTICATED_USERS w_Kind_USER w_Kind_SERVICE_ACCOUNT w_Kind_GROUP w_Kind_DOMAIN w_Kind_PRINCIPAL w_Kind_PRINCIPAL_SET w_Kind_DELETED_USER w_Kind_DELETED_SERVICE_ACCOUNT w_Kind_DELETED_GROUP w_Kind_DELETED_PRINCIPAL))] [])) _
    refine XS.aloadN X1.here hx rfl (hb hby at_13) rfl rfl ?_
    show Steps p.tables e below (T1.setTop (mkF m 14 #[.val (.int p1), .val (.int ((p1 &&& (2147483647 : Int32)) % (12 : Int32))), .val (.ref (V1 ((p1 &&& (2147483647 : Int32)) % (12 : Int32)) w_Kind_ALL_USERS w_Kind_ALL_AUTHENTICATED_USERS w_Kind_USER w_Kind_SERVICE_ACCOUNT w_Kind_GROUP w_Kind_DOMAIN w_Kind_PRINCIPAL w_Kind_PRINCIPAL_SET w_Kind_DELETED_USER w_Kind_DELETED_SERVICE_ACCOUNT w_Kind_DELETED_GROUP w_Kind_DELETED_PRINCIPAL))] [(.ref (V1 ((p1 &&& (2147483647 : Int32)) % (12 : Int32)) w_Kind_ALL_USERS w_Kind_ALL_AUTHENTICATED_USERS w_Kind_USER w_Kind_SERVICE_ACCOUNT w_Kind_GROUP w_Kind_DOMAIN w_Kind_PRINCIPAL w_Kind_PRINCIPAL_SET w_Kind_DELETED_USER w_Kind_DELETED_SERVICE_ACCOUNT w_Kind_DELETED_GROUP w_Kind_DELETED_PRINCIPAL))])) _
    refine st2.trans ?_
    show Steps p.tables e below (T2.setTop (mkF m 17 #[.val (.int p1), .val (.int ((p1 &&& (2147483647 : Int32)) % (12 : Int32))), .val (.ref (V1 ((p1 &&& (2147483647 : Int32)) % (12 : Int32)) w_Kind_ALL_USERS w_Kind_ALL_AUTHENTICATED_USERS w_Kind_USER w_Kind_SERVICE_ACCOUNT w_Kind_GROUP w_Kind_DOMAIN w_Kind_PRINCIPAL w_Kind_PRINCIPAL_SET w_Kind_DELETED_USER w_Kind_DELETED_SERVICE_ACCOUNT w_Kind_DELETED_GROUP w_Kind_DELETED_PRINCIPAL))] [(.int (V2 (V1 ((p1 &&& (2147483647 : Int32)) % (12 : Int32)) w_Kind_ALL_USERS w_Kind_ALL_AUTHENTICATED_USERS w_Kind_USER w_Kind_SERVICE_ACCOUNT w_Kind_GROUP w_Kind_DOMAIN w_Kind_PRINCIPAL w_Kind_PRINCIPAL_SET w_Kind_DELETED_USER w_Kind_DELETED_SERVICE_ACCOUNT w_Kind_DELETED_GROUP w_Kind_DELETED_PRINCIPAL) w_Kind_USER w_Kind_SERVICE_ACCOUNT w_Kind_PRINCIPAL))])) _
    refine XS.iloadN X2.here hx rfl (hb hby at_17) rfl ?_
    show Steps p.tables e below (T2.setTop (mkF m 18 #[.val (.int p1), .val (.int ((p1 &&& (2147483647 : Int32)) % (12 : Int32))), .val (.ref (V1 ((p1 &&& (2147483647 : Int32)) % (12 : Int32)) w_Kind_ALL_USERS w_Kind_ALL_AUTHENTICATED_USERS w_Kind_USER w_Kind_SERVICE_ACCOUNT w_Kind_GROUP w_Kind_DOMAIN w_Kind_PRINCIPAL w_Kind_PRINCIPAL_SET w_Kind_DELETED_USER w_Kind_DELETED_SERVICE_ACCOUNT w_Kind_DELETED_GROUP w_Kind_DELETED_PRINCIPAL))] [(.int ((p1 &&& (2147483647 : Int32)) % (12 : Int32))), (.int (V2 (V1 ((p1 &&& (2147483647 : Int32)) % (12 : Int32)) w_Kind_ALL_USERS w_Kind_ALL_AUTHENTICATED_USERS w_Kind_USER w_Kind_SERVICE_ACCOUNT w_Kind_GROUP w_Kind_DOMAIN w_Kind_PRINCIPAL w_Kind_PRINCIPAL_SET w_Kind_DELETED_USER w_Kind_DELETED_SERVICE_ACCOUNT w_Kind_DELETED_GROUP w_Kind_DELETED_PRINCIPAL) w_Kind_USER w_Kind_SERVICE_ACCOUNT w_Kind_PRINCIPAL))])) _
    refine st4 _ ?_
    show Steps p.tables e below (T4.setTop (mkF m 21 #[.val (.int p1), .val (.int ((p1 &&& (2147483647 : Int32)) % (12 : Int32))), .val (.ref (V1 ((p1 &&& (2147483647 : Int32)) % (12 : Int32)) w_Kind_ALL_USERS w_Kind_ALL_AUTHENTICATED_USERS w_Kind_USER w_Kind_SERVICE_ACCOUNT w_Kind_GROUP w_Kind_DOMAIN w_Kind_PRINCIPAL w_Kind_PRINCIPAL_SET w_Kind_DELETED_USER w_Kind_DELETED_SERVICE_ACCOUNT w_Kind_DELETED_GROUP w_Kind_DELETED_PRINCIPAL))] [(.int (V3 ((p1 &&& (2147483647 : Int32)) % (12 : Int32)))), (.int (V2 (V1 ((p1 &&& (2147483647 : Int32)) % (12 : Int32)) w_Kind_ALL_USERS w_Kind_ALL_AUTHENTICATED_USERS w_Kind_USER w_Kind_SERVICE_ACCOUNT w_Kind_GROUP w_Kind_DOMAIN w_Kind_PRINCIPAL w_Kind_PRINCIPAL_SET w_Kind_DELETED_USER w_Kind_DELETED_SERVICE_ACCOUNT w_Kind_DELETED_GROUP w_Kind_DELETED_PRINCIPAL) w_Kind_USER w_Kind_SERVICE_ACCOUNT w_Kind_PRINCIPAL))])) _
    refine XS.icmpNo X4.here hx rfl (hb hby at_21) rfl (teq (own_plain ((p1 &&& (2147483647 : Int32)) % (12 : Int32)) w_Kind_ALL_USERS w_Kind_ALL_AUTHENTICATED_USERS w_Kind_USER w_Kind_SERVICE_ACCOUNT w_Kind_GROUP w_Kind_DOMAIN w_Kind_PRINCIPAL w_Kind_PRINCIPAL_SET w_Kind_DELETED_USER w_Kind_DELETED_SERVICE_ACCOUNT w_Kind_DELETED_GROUP w_Kind_DELETED_PRINCIPAL (Fld.ne F_w_Kind_ALL_USERS_ordinal F_w_Kind_USER_ordinal (by simp)) (Fld.ne F_w_Kind_ALL_USERS_ordinal F_w_Kind_SERVICE_ACCOUNT_ordinal (by simp)) (Fld.ne F_w_Kind_ALL_USERS_ordinal F_w_Kind_PRINCIPAL_ordinal (by simp)) (Fld.ne F_w_Kind_ALL_AUTHENTICATED_USERS_ordinal F_w_Kind_USER_ordinal (by simp)) (Fld.ne F_w_Kind_ALL_AUTHENTICATED_USERS_ordinal F_w_Kind_SERVICE_ACCOUNT_ordinal (by simp)) (Fld.ne F_w_Kind_ALL_AUTHENTICATED_USERS_ordinal F_w_Kind_PRINCIPAL_ordinal (by simp)) (Fld.ne F_w_Kind_GROUP_ordinal F_w_Kind_USER_ordinal (by simp)) (Fld.ne F_w_Kind_GROUP_ordinal F_w_Kind_SERVICE_ACCOUNT_ordinal (by simp)) (Fld.ne F_w_Kind_GROUP_ordinal F_w_Kind_PRINCIPAL_ordinal (by simp)) (Fld.ne F_w_Kind_DOMAIN_ordinal F_w_Kind_USER_ordinal (by simp)) (Fld.ne F_w_Kind_DOMAIN_ordinal F_w_Kind_SERVICE_ACCOUNT_ordinal (by simp)) (Fld.ne F_w_Kind_DOMAIN_ordinal F_w_Kind_PRINCIPAL_ordinal (by simp)) (Fld.ne F_w_Kind_PRINCIPAL_SET_ordinal F_w_Kind_USER_ordinal (by simp)) (Fld.ne F_w_Kind_PRINCIPAL_SET_ordinal F_w_Kind_SERVICE_ACCOUNT_ordinal (by simp)) (Fld.ne F_w_Kind_PRINCIPAL_SET_ordinal F_w_Kind_PRINCIPAL_ordinal (by simp)) (Fld.ne F_w_Kind_DELETED_USER_ordinal F_w_Kind_USER_ordinal (by simp)) (Fld.ne F_w_Kind_DELETED_USER_ordinal F_w_Kind_SERVICE_ACCOUNT_ordinal (by simp)) (Fld.ne F_w_Kind_DELETED_USER_ordinal F_w_Kind_PRINCIPAL_ordinal (by simp)) (Fld.ne F_w_Kind_DELETED_SERVICE_ACCOUNT_ordinal F_w_Kind_USER_ordinal (by simp)) (Fld.ne F_w_Kind_DELETED_SERVICE_ACCOUNT_ordinal F_w_Kind_SERVICE_ACCOUNT_ordinal (by simp)) (Fld.ne F_w_Kind_DELETED_SERVICE_ACCOUNT_ordinal F_w_Kind_PRINCIPAL_ordinal (by simp)) (Fld.ne F_w_Kind_DELETED_GROUP_ordinal F_w_Kind_USER_ordinal (by simp)) (Fld.ne F_w_Kind_DELETED_GROUP_ordinal F_w_Kind_SERVICE_ACCOUNT_ordinal (by simp)) (Fld.ne F_w_Kind_DELETED_GROUP_ordinal F_w_Kind_PRINCIPAL_ordinal (by simp)) (Fld.ne F_w_Kind_DELETED_PRINCIPAL_ordinal F_w_Kind_USER_ordinal (by simp)) (Fld.ne F_w_Kind_DELETED_PRINCIPAL_ordinal F_w_Kind_SERVICE_ACCOUNT_ordinal (by simp)) (Fld.ne F_w_Kind_DELETED_PRINCIPAL_ordinal F_w_Kind_PRINCIPAL_ordinal (by simp)) : (V2 (V1 ((p1 &&& (2147483647 : Int32)) % (12 : Int32)) w_Kind_ALL_USERS w_Kind_ALL_AUTHENTICATED_USERS w_Kind_USER w_Kind_SERVICE_ACCOUNT w_Kind_GROUP w_Kind_DOMAIN w_Kind_PRINCIPAL w_Kind_PRINCIPAL_SET w_Kind_DELETED_USER w_Kind_DELETED_SERVICE_ACCOUNT w_Kind_DELETED_GROUP w_Kind_DELETED_PRINCIPAL) w_Kind_USER w_Kind_SERVICE_ACCOUNT w_Kind_PRINCIPAL) = (V3 ((p1 &&& (2147483647 : Int32)) % (12 : Int32))))).2 ?_
    show Steps p.tables e below (T4.setTop (mkF m 24 #[.val (.int p1), .val (.int ((p1 &&& (2147483647 : Int32)) % (12 : Int32))), .val (.ref (V1 ((p1 &&& (2147483647 : Int32)) % (12 : Int32)) w_Kind_ALL_USERS w_Kind_ALL_AUTHENTICATED_USERS w_Kind_USER w_Kind_SERVICE_ACCOUNT w_Kind_GROUP w_Kind_DOMAIN w_Kind_PRINCIPAL w_Kind_PRINCIPAL_SET w_Kind_DELETED_USER w_Kind_DELETED_SERVICE_ACCOUNT w_Kind_DELETED_GROUP w_Kind_DELETED_PRINCIPAL))] [])) _
    refine XS.iconst X4.here hx rfl (hb hby at_24) ?_
    show Steps p.tables e below (T4.setTop (mkF m 25 #[.val (.int p1), .val (.int ((p1 &&& (2147483647 : Int32)) % (12 : Int32))), .val (.ref (V1 ((p1 &&& (2147483647 : Int32)) % (12 : Int32)) w_Kind_ALL_USERS w_Kind_ALL_AUTHENTICATED_USERS w_Kind_USER w_Kind_SERVICE_ACCOUNT w_Kind_GROUP w_Kind_DOMAIN w_Kind_PRINCIPAL w_Kind_PRINCIPAL_SET w_Kind_DELETED_USER w_Kind_DELETED_SERVICE_ACCOUNT w_Kind_DELETED_GROUP w_Kind_DELETED_PRINCIPAL))] [(.int (1 : Int32))])) _
    refine XS.goto X4.here hx rfl (pc0 := 25) (pc' := 29) rfl (hb hby at_25) (by decide) (by decide) ?_
    show Steps p.tables e below (T4.setTop (mkF m 29 #[.val (.int p1), .val (.int ((p1 &&& (2147483647 : Int32)) % (12 : Int32))), .val (.ref (V1 ((p1 &&& (2147483647 : Int32)) % (12 : Int32)) w_Kind_ALL_USERS w_Kind_ALL_AUTHENTICATED_USERS w_Kind_USER w_Kind_SERVICE_ACCOUNT w_Kind_GROUP w_Kind_DOMAIN w_Kind_PRINCIPAL w_Kind_PRINCIPAL_SET w_Kind_DELETED_USER w_Kind_DELETED_SERVICE_ACCOUNT w_Kind_DELETED_GROUP w_Kind_DELETED_PRINCIPAL))] [(.int (1 : Int32))])) _
    exact Jvm.RoadKit.retOut X4 hx Bd.returns rfl (Or.inl ⟨rfl, by simp, _, rfl⟩) (hb hby at_29) hr
  · show Q_rm0 Z p1 w_Kind_USER w_Kind_GROUP w_Kind_DOMAIN w_Kind_ALL_USERS w_Kind_PRINCIPAL w_Kind_DELETED_USER w_Kind_PRINCIPAL_SET w_Kind_DELETED_GROUP w_Kind_SERVICE_ACCOUNT w_Kind_DELETED_PRINCIPAL w_Kind_ALL_AUTHENTICATED_USERS w_Kind_DELETED_SERVICE_ACCOUNT h0 n0 _ T4.heap _
    rw [e4]
    unfold Q_rm0
    exact ⟨rfl, N4, rfl⟩
theorem own_evR {args : Array Value} {s : State} {a b : Term} {y : Addr} (h : (Jvm.Cond.eq a b).value args s none s [] = some true) (hb : b.eval args s none [] s = some (.ref y)) : a.eval args s none [] s = some (.ref y) := by
  obtain ⟨x, z, h1, h2, h3, h4⟩ := cmp_v (Or.inl h)
  cases h2.symm.trans hb
  have hx : x.isRef = true := h4.2
  have q := gotT (eq_R h1 hb hx rfl) h
  rw [h1, q]
theorem own_len {args : Array Value} {s : State} {t : Term} {a : Addr} {cl : Cell} {ty : FieldType} {n : Int32} (A : Arr s s.heap a cl ty) (ev : t.eval args s none [] s = some (.ref a)) (h : (Term.length t).eval args s none [] s = some (.int n)) : cl.slots.size < 2 ^ 31 ∧ cl.slots.size.toInt32 = n := by
  have ha : s.arrayAt? a = some cl := A.fin (Vm.Alike.refl _)
  have hl := SBG.length_lt ev ha h
  have q := len_f ev ha hl
  exact ⟨hl, by simpa using Option.some.inj (q.symm.trans h)⟩
theorem own_arvU {s : State} {a : Addr} {cl : Cell} {ty : FieldType} {n : Int32} {dv : Value} (hf : Fit s) (A : Arr s s.heap a cl ty) (q : cl.slots.size < 2 ^ 31) (e : cl.slots.size.toInt32 = n) (hn : ¬ n < 0) : Arv s s.heap a cl.cls ty n cl.slots.toList dv := by
  have S : cl.slots.size = n.toNatClampNeg := by rw [← e]; simp only [Int32.toNatClampNeg, len_toInt q]; rfl
  have H : Has cl cl.slots.toList dv := fun j hj => by simp [hj]
  refine ⟨cl, A, rfl, S, hn, H, fun j hj => ?_⟩
  have e1 : (Nat.toInt32 j).toNatClampNeg = j := by simp only [Int32.toNatClampNeg, len_toInt (Nat.lt_trans hj q)]; rfl
  exact elem_fits (j := Nat.toInt32 j) hf A (idx_in hj q) (by rw [e1]; exact H j hj)
set_option maxRecDepth 65536 in
set_option maxHeartbeats 40000000 in
theorem comes_1 {Post : Tables → Env → Array Value → State → Outcome → State → Prop} (hpost : ∀ tb e args s v u, (limb_1_1.after args s (.returned v) u = true ∧ limb_1_2.after args s (.returned v) u = true ∧ True) → FrameEnd s (.returned v) u (Jvm.fieldLocs frame_1_writes args s ++ Jvm.arrayLocs frame_1_arrays args s ++ Jvm.staticLocs frame_1_statics s) 0 0 → Post tb e args s (.returned v) u) :
    ArmFor flags0 classFile x code maxLocals ret World_1 tables_1 room_1 Calls_1 rest_1 Pre_1 Post := by
  intro l hfl _ _ p e ha hc hk s m args below hf hA hF happ hP
  obtain ⟨hcalls, hrest, hpre⟩ := hP
  obtain ⟨-, -, -, hnamed, -, -, -, hat⟩ := (Spec.applies_iff hf).mp happ
  obtain ⟨hg, hn⟩ := and_e (Cond.before_iff.mp (show (Jvm.Cond.and given_1 narrow_1).before args s = true from hpre))
  obtain ⟨gg1, gg2⟩ := and_e hg
  obtain ⟨w0, rfl⟩ : ∃ w0 : Value, args = #[w0] := by
    have hs : args.size = 1 := by simpa [Cond.value, given_1] using gg1
    obtain ⟨L⟩ := args
    match L, hs with
    | [w0], _ => exact ⟨w0, rfl⟩
  have hw := fun d (hd : d ∈ tables_1) => atoms_spec (ws := Jvm.Cond.code x code maxLocals ret :: tables_1) hat d (List.mem_cons_of_mem _ hd)
  have hfit : Fit s := fun {y c} hc i hi => by
    obtain ⟨ha, rfl⟩ := Array.getElem?_eq_some_iff.mp hc
    have q := List.all_eq_true.mp ((Array.all_eq_true_iff_forall_mem.mp hF) _ (Array.getElem_mem ha)) i (List.mem_range.mpr hi)
    simpa [Array.getElem?_eq_getElem hi] using q
  obtain ⟨i0, ei0⟩ := is_v gg2
  obtain rfl : w0 = (.int i0) := Option.some.inj ei0
  obtain ⟨na1, na2⟩ := and_e hn
  obtain ⟨na3, na4⟩ := and_e na2
  obtain ⟨na5, na6⟩ := and_e na4
  obtain ⟨na7, na8⟩ := and_e na6
  obtain ⟨na9, na10⟩ := and_e na8
  obtain ⟨na11, na12⟩ := and_e na10
  obtain ⟨na13, na14⟩ := and_e na12
  obtain ⟨na15, na16⟩ := and_e na14
  obtain ⟨na17, na18⟩ := and_e na16
  obtain ⟨na19, na20⟩ := and_e na18
  obtain ⟨na21, na22⟩ := and_e na20
  obtain ⟨na23, na24⟩ := and_e na22
  obtain ⟨na25, na26⟩ := and_e na24
  obtain ⟨na27, na28⟩ := and_e na26
  obtain ⟨na29, na30⟩ := and_e na28
  obtain ⟨na31, na32⟩ := and_e na30
  obtain ⟨na33, na34⟩ := and_e na32
  obtain ⟨na35, na36⟩ := and_e na34
  obtain ⟨na37, na38⟩ := and_e na36
  obtain ⟨na39, na40⟩ := and_e na38
  obtain ⟨na41, na42⟩ := and_e na40
  obtain ⟨na43, na44⟩ := and_e na42
  obtain ⟨na45, na46⟩ := and_e na44
  obtain ⟨w_Kind_USER, ev47⟩ := exa_v na3
  have S_Kind_USER : Sta s s.heap "com/example/role_bindings/rolebindings/Member$Kind" "USER" "Lcom/example/role_bindings/rolebindings/Member$Kind;" (.ref w_Kind_USER) := Sta.start ev47 (Or.inr ⟨(hwk hw 6 rfl), (hwk hw 14 rfl)⟩)
  have E_w_Kind_USER : Exa s s.heap w_Kind_USER "com/example/role_bindings/rolebindings/Member$Kind" := Exa.start ev47 na3
  obtain ⟨w_Kind_GROUP, ev48⟩ := exa_v na25
  have S_Kind_GROUP : Sta s s.heap "com/example/role_bindings/rolebindings/Member$Kind" "GROUP" "Lcom/example/role_bindings/rolebindings/Member$Kind;" (.ref w_Kind_GROUP) := Sta.start ev48 (Or.inr ⟨(hwk hw 6 rfl), (hwk hw 29 rfl)⟩)
  have E_w_Kind_GROUP : Exa s s.heap w_Kind_GROUP "com/example/role_bindings/rolebindings/Member$Kind" := Exa.start ev48 na25
  obtain ⟨w_Kind_DOMAIN, ev49⟩ := exa_v na45
  have S_Kind_DOMAIN : Sta s s.heap "com/example/role_bindings/rolebindings/Member$Kind" "DOMAIN" "Lcom/example/role_bindings/rolebindings/Member$Kind;" (.ref w_Kind_DOMAIN) := Sta.start ev49 (Or.inr ⟨(hwk hw 6 rfl), (hwk hw 40 rfl)⟩)
  have E_w_Kind_DOMAIN : Exa s s.heap w_Kind_DOMAIN "com/example/role_bindings/rolebindings/Member$Kind" := Exa.start ev49 na45
  obtain ⟨w_Kind_ALL_USERS, ev50⟩ := exa_v na1
  have S_Kind_ALL_USERS : Sta s s.heap "com/example/role_bindings/rolebindings/Member$Kind" "ALL_USERS" "Lcom/example/role_bindings/rolebindings/Member$Kind;" (.ref w_Kind_ALL_USERS) := Sta.start ev50 (Or.inr ⟨(hwk hw 6 rfl), (hwk hw 7 rfl)⟩)
  have E_w_Kind_ALL_USERS : Exa s s.heap w_Kind_ALL_USERS "com/example/role_bindings/rolebindings/Member$Kind" := Exa.start ev50 na1
  obtain ⟨w_Kind_PRINCIPAL, ev51⟩ := exa_v na13
  have S_Kind_PRINCIPAL : Sta s s.heap "com/example/role_bindings/rolebindings/Member$Kind" "PRINCIPAL" "Lcom/example/role_bindings/rolebindings/Member$Kind;" (.ref w_Kind_PRINCIPAL) := Sta.start ev51 (Or.inr ⟨(hwk hw 6 rfl), (hwk hw 18 rfl)⟩)
  have E_w_Kind_PRINCIPAL : Exa s s.heap w_Kind_PRINCIPAL "com/example/role_bindings/rolebindings/Member$Kind" := Exa.start ev51 na13
  obtain ⟨w_Kind_DELETED_USER, ev52⟩ := exa_v na29
  have S_Kind_DELETED_USER : Sta s s.heap "com/example/role_bindings/rolebindings/Member$Kind" "DELETED_USER" "Lcom/example/role_bindings/rolebindings/Member$Kind;" (.ref w_Kind_DELETED_USER) := Sta.start ev52 (Or.inr ⟨(hwk hw 6 rfl), (hwk hw 31 rfl)⟩)
  have E_w_Kind_DELETED_USER : Exa s s.heap w_Kind_DELETED_USER "com/example/role_bindings/rolebindings/Member$Kind" := Exa.start ev52 na29
  obtain ⟨w_Kind_PRINCIPAL_SET, ev53⟩ := exa_v na17
  have S_Kind_PRINCIPAL_SET : Sta s s.heap "com/example/role_bindings/rolebindings/Member$Kind" "PRINCIPAL_SET" "Lcom/example/role_bindings/rolebindings/Member$Kind;" (.ref w_Kind_PRINCIPAL_SET) := Sta.start ev53 (Or.inr ⟨(hwk hw 6 rfl), (hwk hw 25 rfl)⟩)
  have E_w_Kind_PRINCIPAL_SET : Exa s s.heap w_Kind_PRINCIPAL_SET "com/example/role_bindings/rolebindings/Member$Kind" := Exa.start ev53 na17
  obtain ⟨w_Kind_DELETED_GROUP, ev54⟩ := exa_v na37
  have S_Kind_DELETED_GROUP : Sta s s.heap "com/example/role_bindings/rolebindings/Member$Kind" "DELETED_GROUP" "Lcom/example/role_bindings/rolebindings/Member$Kind;" (.ref w_Kind_DELETED_GROUP) := Sta.start ev54 (Or.inr ⟨(hwk hw 6 rfl), (hwk hw 35 rfl)⟩)
  have E_w_Kind_DELETED_GROUP : Exa s s.heap w_Kind_DELETED_GROUP "com/example/role_bindings/rolebindings/Member$Kind" := Exa.start ev54 na37
  obtain ⟨w_Kind_SERVICE_ACCOUNT, ev55⟩ := exa_v na9
  have S_Kind_SERVICE_ACCOUNT : Sta s s.heap "com/example/role_bindings/rolebindings/Member$Kind" "SERVICE_ACCOUNT" "Lcom/example/role_bindings/rolebindings/Member$Kind;" (.ref w_Kind_SERVICE_ACCOUNT) := Sta.start ev55 (Or.inr ⟨(hwk hw 6 rfl), (hwk hw 16 rfl)⟩)
  have E_w_Kind_SERVICE_ACCOUNT : Exa s s.heap w_Kind_SERVICE_ACCOUNT "com/example/role_bindings/rolebindings/Member$Kind" := Exa.start ev55 na9
  obtain ⟨w_Kind_DELETED_PRINCIPAL, ev56⟩ := exa_v na21
  have S_Kind_DELETED_PRINCIPAL : Sta s s.heap "com/example/role_bindings/rolebindings/Member$Kind" "DELETED_PRINCIPAL" "Lcom/example/role_bindings/rolebindings/Member$Kind;" (.ref w_Kind_DELETED_PRINCIPAL) := Sta.start ev56 (Or.inr ⟨(hwk hw 6 rfl), (hwk hw 27 rfl)⟩)
  have E_w_Kind_DELETED_PRINCIPAL : Exa s s.heap w_Kind_DELETED_PRINCIPAL "com/example/role_bindings/rolebindings/Member$Kind" := Exa.start ev56 na21
  obtain ⟨w_Kind_ALL_AUTHENTICATED_USERS, ev57⟩ := exa_v na33
  have S_Kind_ALL_AUTHENTICATED_USERS : Sta s s.heap "com/example/role_bindings/rolebindings/Member$Kind" "ALL_AUTHENTICATED_USERS" "Lcom/example/role_bindings/rolebindings/Member$Kind;" (.ref w_Kind_ALL_AUTHENTICATED_USERS) := Sta.start ev57 (Or.inr ⟨(hwk hw 6 rfl), (hwk hw 33 rfl)⟩)
  have E_w_Kind_ALL_AUTHENTICATED_USERS : Exa s s.heap w_Kind_ALL_AUTHENTICATED_USERS "com/example/role_bindings/rolebindings/Member$Kind" := Exa.start ev57 na33
  obtain ⟨w_Kind_DELETED_SERVICE_ACCOUNT, ev58⟩ := exa_v na41
  have S_Kind_DELETED_SERVICE_ACCOUNT : Sta s s.heap "com/example/role_bindings/rolebindings/Member$Kind" "DELETED_SERVICE_ACCOUNT" "Lcom/example/role_bindings/rolebindings/Member$Kind;" (.ref w_Kind_DELETED_SERVICE_ACCOUNT) := Sta.start ev58 (Or.inr ⟨(hwk hw 6 rfl), (hwk hw 37 rfl)⟩)
  have E_w_Kind_DELETED_SERVICE_ACCOUNT : Exa s s.heap w_Kind_DELETED_SERVICE_ACCOUNT "com/example/role_bindings/rolebindings/Member$Kind" := Exa.start ev58 na41
  have ev59 := own_eqI na5 rfl
  have F_w_Kind_ALL_USERS_ordinal : Fld s s.heap w_Kind_ALL_USERS "java/lang/Enum" "ordinal" "I" (.int (0 : Int32)) := Fld.start ((fld_at ev50).symm.trans ev59)
  have ev60 := own_eqI na7 rfl
  have F_w_Kind_USER_ordinal : Fld s s.heap w_Kind_USER "java/lang/Enum" "ordinal" "I" (.int (2 : Int32)) := Fld.start ((fld_at ev47).symm.trans ev60)
  have ev61 := own_eqI na11 rfl
  have F_w_Kind_SERVICE_ACCOUNT_ordinal : Fld s s.heap w_Kind_SERVICE_ACCOUNT "java/lang/Enum" "ordinal" "I" (.int (3 : Int32)) := Fld.start ((fld_at ev55).symm.trans ev61)
  have ev62 := own_eqI na15 rfl
  have F_w_Kind_PRINCIPAL_ordinal : Fld s s.heap w_Kind_PRINCIPAL "java/lang/Enum" "ordinal" "I" (.int (6 : Int32)) := Fld.start ((fld_at ev51).symm.trans ev62)
  have ev63 := own_eqI na19 rfl
  have F_w_Kind_PRINCIPAL_SET_ordinal : Fld s s.heap w_Kind_PRINCIPAL_SET "java/lang/Enum" "ordinal" "I" (.int (7 : Int32)) := Fld.start ((fld_at ev53).symm.trans ev63)
  have ev64 := own_eqI na23 rfl
  have F_w_Kind_DELETED_PRINCIPAL_ordinal : Fld s s.heap w_Kind_DELETED_PRINCIPAL "java/lang/Enum" "ordinal" "I" (.int (11 : Int32)) := Fld.start ((fld_at ev56).symm.trans ev64)
  have ev65 := own_eqI na27 rfl
  have F_w_Kind_GROUP_ordinal : Fld s s.heap w_Kind_GROUP "java/lang/Enum" "ordinal" "I" (.int (4 : Int32)) := Fld.start ((fld_at ev48).symm.trans ev65)
  have ev66 := own_eqI na31 rfl
  have F_w_Kind_DELETED_USER_ordinal : Fld s s.heap w_Kind_DELETED_USER "java/lang/Enum" "ordinal" "I" (.int (8 : Int32)) := Fld.start ((fld_at ev52).symm.trans ev66)
  have ev67 := own_eqI na35 rfl
  have F_w_Kind_ALL_AUTHENTICATED_USERS_ordinal : Fld s s.heap w_Kind_ALL_AUTHENTICATED_USERS "java/lang/Enum" "ordinal" "I" (.int (1 : Int32)) := Fld.start ((fld_at ev57).symm.trans ev67)
  have ev68 := own_eqI na39 rfl
  have F_w_Kind_DELETED_GROUP_ordinal : Fld s s.heap w_Kind_DELETED_GROUP "java/lang/Enum" "ordinal" "I" (.int (10 : Int32)) := Fld.start ((fld_at ev54).symm.trans ev68)
  have ev69 := own_eqI na43 rfl
  have F_w_Kind_DELETED_SERVICE_ACCOUNT_ordinal : Fld s s.heap w_Kind_DELETED_SERVICE_ACCOUNT "java/lang/Enum" "ordinal" "I" (.int (9 : Int32)) := Fld.start ((fld_at ev58).symm.trans ev69)
  have ev70 := own_eqI na46 rfl
  have F_w_Kind_DOMAIN_ordinal : Fld s s.heap w_Kind_DOMAIN "java/lang/Enum" "ordinal" "I" (.int (5 : Int32)) := Fld.start ((fld_at ev49).symm.trans ev70)
  obtain ⟨n, o, h1, h2, h3, _, L, rfl, hQ, hq⟩ := rm0 l s _ hw tables_1 i0 w_Kind_USER w_Kind_GROUP w_Kind_DOMAIN w_Kind_ALL_USERS w_Kind_PRINCIPAL w_Kind_DELETED_USER w_Kind_PRINCIPAL_SET w_Kind_DELETED_GROUP w_Kind_SERVICE_ACCOUNT w_Kind_DELETED_PRINCIPAL w_Kind_ALL_AUTHENTICATED_USERS w_Kind_DELETED_SERVICE_ACCOUNT s.heap s.heap.size (Old.start s) S_Kind_USER E_w_Kind_USER S_Kind_GROUP E_w_Kind_GROUP S_Kind_DOMAIN E_w_Kind_DOMAIN S_Kind_ALL_USERS E_w_Kind_ALL_USERS S_Kind_PRINCIPAL E_w_Kind_PRINCIPAL S_Kind_DELETED_USER E_w_Kind_DELETED_USER S_Kind_PRINCIPAL_SET E_w_Kind_PRINCIPAL_SET S_Kind_DELETED_GROUP E_w_Kind_DELETED_GROUP S_Kind_SERVICE_ACCOUNT E_w_Kind_SERVICE_ACCOUNT S_Kind_DELETED_PRINCIPAL E_w_Kind_DELETED_PRINCIPAL S_Kind_ALL_AUTHENTICATED_USERS E_w_Kind_ALL_AUTHENTICATED_USERS S_Kind_DELETED_SERVICE_ACCOUNT E_w_Kind_DELETED_SERVICE_ACCOUNT F_w_Kind_ALL_USERS_ordinal F_w_Kind_USER_ordinal F_w_Kind_SERVICE_ACCOUNT_ordinal F_w_Kind_PRINCIPAL_ordinal F_w_Kind_PRINCIPAL_SET_ordinal F_w_Kind_DELETED_PRINCIPAL_ordinal F_w_Kind_GROUP_ordinal F_w_Kind_DELETED_USER_ordinal F_w_Kind_ALL_AUTHENTICATED_USERS_ordinal F_w_Kind_DELETED_GROUP_ordinal F_w_Kind_DELETED_SERVICE_ACCOUNT_ordinal F_w_Kind_DOMAIN_ordinal p e ha hc hk s m _ below hf ((Spec.applies_iff_loose hf).mp happ).1 ⟨rfl, State.Warmed39.refl s, rfl⟩ trivial
  unfold Q_rm0 at hQ
  obtain ⟨rfl, N, -⟩ := hQ
  refine ⟨n, _, h1, h2, h3, hpost _ _ _ _ _ _ ⟨Cond.after_iff.mpr rfl, Cond.after_iff.mpr (eq_i res_at (Term.int_eval (1)) rfl), trivial⟩ ⟨hq.1, hq.2.1, (hq.2.2.sift fun y hy => Or.inr (N y hy)).mono (by decide) (by decide)⟩⟩
theorem main_1_1 : Claimed_1_1 := comes_1 fun _ _ _ _ _ _ h hF => ⟨h.1, hF⟩
theorem main_1_2 : Claimed_1_2 := comes_1 fun _ _ _ _ _ _ h hF => ⟨h.2.1, hF⟩
end Jvm.Pilot.@@N@@
namespace Jvm.Pilot.@@N@@
open Jvm Jvm.ClassFile Sem Op Lib Jvm.Free Jvm.Stand Jvm.Pilot.@@N@@.Jvm.D
/-! MADE BY PROGRAM (witnessworld.py) out of the Statement's table words and the real class files: 12 classes; the members and pool entries that the words name. The judged class is class 1, her method 3. -/
namespace start1
open Jvm.ClassFile
def u (s : String) : CpInfo := .utf8 (stringToUtf16 s)
/-- a pool by its gaps: so many unusable entries, then the entry; so many at the end -/
def gap : Nat → List CpInfo → List CpInfo
  | 0, r => r
  | n + 1, r => .unusable :: gap n r
def poolList (es : List (Nat × CpInfo)) (last : Nat) : List CpInfo := es.foldr (fun e r => gap e.1 (e.2 :: r)) (gap last [])
def pool (es : List (Nat × CpInfo)) (last : Nat) : Array CpInfo := ⟨poolList es last⟩
def fileOf (pool : Array CpInfo) (this : Nat) (attrs : Array Attribute := #[]) (ms : Array MethodInfo := #[]) (fl : Nat := 33) (sup : Nat := 0) (ifs : Array Nat := #[]) (fds : Array FieldInfo := #[]) : ClassFile where
  minorVersion := 0
  majorVersion := 65
  constantPool := pool
  accessFlags := fl
  thisClass := this
  superClass := sup
  interfaces := ifs
  fields := fds
  methods := ms
  attributes := attrs
def plain (name : String) (sup : Option ClassId) : Class where
  name := name
  kind := .ordinary
  loader := none
  accessFlags := 33
  super := sup
  interfaces := #[]
  cf := none
  fields := #[]
  methods := #[]
  instanceTypes := #[]
  staticTypes := #[]
  resolved := #[]
  callSites := []
  init := .initialized
  statics := none
  mirror := none

def pool0 : Array CpInfo := pool [(5, u "<init>"), (0, u "()V"), (1, .class_ 10), (1, u "java/lang/Object")] 113

def k0m0 : Method := { name := "<init>", desc := "()V", sig := { parameters := [], returnType := none }, accessFlags := 1, code := none }
/-- java/lang/Object -/
def k0 : Class := { plain "java/lang/Object" none with
  accessFlags := 33
  interfaces := #[]
  cf := some (fileOf pool0 8 #[] #[{ accessFlags := 1, nameIndex := 5, descriptorIndex := 6, attributes := #[] }] 33 0 #[] #[])
  fields := #[]
  methods := #[k0m0]
  instanceTypes := #[]
  staticTypes := #[]
  resolved := Array.replicate 124 none
  statics := none }

def pool1 : Array CpInfo := pool [(2, .class_ 4), (1, u "java/lang/Object"), (0, u "<init>"), (0, u "()V"), (0, .fieldref 8 9), (0, .class_ 10), (0, .nameAndType 11 12), (0, u "com/example/role_bindings/rolebindings/Member$Kind"), (0, u "ALL_USERS"), (0, u "Lcom/example/role_bindings/rolebindings/Member$Kind;"), (0, .fieldref 8 14), (0, .nameAndType 15 12), (0, u "ALL_AUTHENTICATED_USERS"), (0, .fieldref 8 17), (0, .nameAndType 18 12), (0, u "USER"), (0, .fieldref 8 20), (0, .nameAndType 21 12), (0, u "SERVICE_ACCOUNT"), (0, .fieldref 8 23), (0, .nameAndType 24 12), (0, u "GROUP"), (0, .fieldref 8 26), (0, .nameAndType 27 12), (0, u "DOMAIN"), (0, .fieldref 8 29), (0, .nameAndType 30 12), (0, u "PRINCIPAL"), (0, .fieldref 8 32), (0, .nameAndType 33 12), (0, u "PRINCIPAL_SET"), (0, .fieldref 8 35), (0, .nameAndType 36 12), (0, u "DELETED_USER"), (0, .fieldref 8 38), (0, .nameAndType 39 12), (0, u "DELETED_SERVICE_ACCOUNT"), (0, .fieldref 8 41), (0, .nameAndType 42 12), (0, u "DELETED_GROUP"), (0, .fieldref 8 44), (0, .nameAndType 45 12), (0, u "DELETED_PRINCIPAL"), (0, .integer 2147483647), (0, .methodref 48 49), (0, .class_ 50), (0, .nameAndType 51 52), (0, u "com/example/role_bindings/rolebindings/KindIsIdentityPinLaw"), (0, u "kindAt"), (0, u "(I)Lcom/example/role_bindings/rolebindings/Member$Kind;"), (0, .methodref 8 54), (0, .nameAndType 55 56), (0, u "isIdentity"), (0, u "()Z"), (0, .methodref 48 58), (0, .nameAndType 59 60), (0, u "namesOneIdentity"), (0, u "(I)Z"), (3, u "law")] 6

def k1m0 : Method := { name := "<init>", desc := "()V", sig := { parameters := [], returnType := none }, accessFlags := 1, code := none }
def k1c1 : Code := { maxStack := 2, maxLocals := 1, code := method_2_code, exceptionTable := #[], attributes := #[] }
def k1m1 : Method := { name := "kindAt", desc := "(I)Lcom/example/role_bindings/rolebindings/Member$Kind;", sig := { parameters := [.int], returnType := some (.object "com/example/role_bindings/rolebindings/Member$Kind") }, accessFlags := 10, code := some k1c1 }
def k1c2 : Code := { maxStack := 2, maxLocals := 1, code := method_3_code, exceptionTable := #[], attributes := #[] }
def k1m2 : Method := { name := "namesOneIdentity", desc := "(I)Z", sig := { parameters := [.int], returnType := some .boolean }, accessFlags := 10, code := some k1c2 }
def k1c3 : Code := { maxStack := 2, maxLocals := 3, code := code, exceptionTable := #[], attributes := #[] }
def k1m3 : Method := { name := "law", desc := "(I)Z", sig := { parameters := [.int], returnType := some .boolean }, accessFlags := 9, code := some k1c3 }
/-- com/example/role_bindings/rolebindings/KindIsIdentityPinLaw -/
def k1 : Class := { plain "com/example/role_bindings/rolebindings/KindIsIdentityPinLaw" (some 0) with
  accessFlags := 49
  interfaces := #[]
  cf := some (fileOf pool1 48 #[] #[{ accessFlags := 1, nameIndex := 5, descriptorIndex := 6, attributes := #[] }, { accessFlags := 10, nameIndex := 51, descriptorIndex := 52, attributes := #[] }, { accessFlags := 10, nameIndex := 59, descriptorIndex := 60, attributes := #[] }, { accessFlags := 9, nameIndex := 64, descriptorIndex := 60, attributes := #[] }] 49 2 #[] #[])
  fields := #[]
  methods := #[k1m0, k1m1, k1m2, k1m3]
  instanceTypes := #[]
  staticTypes := #[]
  resolved := Array.replicate 71 none
  statics := none }

def pool2 : Array CpInfo := pool [(1, .class_ 2), (0, u "java/lang/constant/Constable"), (0, .class_ 4), (0, u "java/lang/Object")] 6

/-- java/lang/constant/Constable -/
def k2 : Class := { plain "java/lang/constant/Constable" (some 0) with
  accessFlags := 1537
  interfaces := #[]
  cf := some (fileOf pool2 1 #[] #[] 1537 3 #[] #[])
  fields := #[]
  methods := #[]
  instanceTypes := #[]
  staticTypes := #[]
  resolved := Array.replicate 11 none
  statics := none }

def pool3 : Array CpInfo := pool [(1, .class_ 2), (0, u "java/lang/Comparable"), (0, .class_ 4), (0, u "java/lang/Object")] 7

/-- java/lang/Comparable -/
def k3 : Class := { plain "java/lang/Comparable" (some 0) with
  accessFlags := 1537
  interfaces := #[]
  cf := some (fileOf pool3 1 #[] #[] 1537 3 #[] #[])
  fields := #[]
  methods := #[]
  instanceTypes := #[]
  staticTypes := #[]
  resolved := Array.replicate 12 none
  statics := none }

def pool4 : Array CpInfo := pool [(1, .class_ 2), (0, u "java/io/Serializable"), (0, .class_ 4), (0, u "java/lang/Object")] 2

/-- java/io/Serializable -/
def k4 : Class := { plain "java/io/Serializable" (some 0) with
  accessFlags := 1537
  interfaces := #[]
  cf := some (fileOf pool4 1 #[] #[] 1537 3 #[] #[])
  fields := #[]
  methods := #[]
  instanceTypes := #[]
  staticTypes := #[]
  resolved := Array.replicate 7 none
  statics := none }

def pool5 : Array CpInfo := pool [(2, .class_ 4), (1, u "java/lang/Enum"), (0, u "name"), (0, u "Ljava/lang/String;"), (2, u "ordinal"), (0, u "I"), (1, .class_ 14), (1, u "java/lang/Object"), (4, u "hash"), (86, .class_ 108), (1, u "java/lang/Enum$EnumDesc"), (2, .class_ 112), (0, u "java/lang/constant/Constable"), (0, .class_ 114), (0, u "java/lang/Comparable"), (0, .class_ 116), (0, u "java/io/Serializable")] 87

/-- java/lang/Enum -/
def k5 : Class := { plain "java/lang/Enum" (some 0) with
  accessFlags := 1057
  interfaces := #[2, 3, 4]
  cf := some (fileOf pool5 2 #[.nestMembers #[106]] #[] 1057 12 #[111, 113, 115] #[{ accessFlags := 18, nameIndex := 5, descriptorIndex := 6, attributes := #[] }, { accessFlags := 18, nameIndex := 9, descriptorIndex := 10, attributes := #[] }, { accessFlags := 2, nameIndex := 19, descriptorIndex := 10, attributes := #[] }])
  fields := #[{ name := "name", type := (.object "java/lang/String"), accessFlags := 18, slot := 0, constantValue := 0 }, { name := "ordinal", type := .int, accessFlags := 18, slot := 1, constantValue := 0 }, { name := "hash", type := .int, accessFlags := 2, slot := 2, constantValue := 0 }]
  methods := #[]
  instanceTypes := #[(.object "java/lang/String"), .int, .int]
  staticTypes := #[]
  resolved := Array.replicate 204 none
  statics := none }

def pool6 : Array CpInfo := pool [(1, .class_ 2), (0, u "com/example/role_bindings/rolebindings/Member"), (0, .class_ 4), (0, u "com/example/role_bindings/rolebindings/Member$Kind"), (2, u "ALL_USERS"), (0, u "Lcom/example/role_bindings/rolebindings/Member$Kind;"), (2, u "ALL_AUTHENTICATED_USERS"), (0, .fieldref 3 13), (0, .nameAndType 14 8), (0, u "USER"), (0, .fieldref 3 16), (0, .nameAndType 17 8), (0, u "SERVICE_ACCOUNT"), (2, u "GROUP"), (2, u "DOMAIN"), (0, .fieldref 3 25), (0, .nameAndType 26 8), (0, u "PRINCIPAL"), (2, u "PRINCIPAL_SET"), (2, u "DELETED_USER"), (2, u "DELETED_SERVICE_ACCOUNT"), (2, u "DELETED_GROUP"), (2, u "DELETED_PRINCIPAL"), (2, u "$VALUES"), (0, u "[Lcom/example/role_bindings/rolebindings/Member$Kind;"), (6, .class_ 54), (1, u "java/lang/Enum"), (8, u "prefix"), (0, u "Ljava/lang/String;"), (16, u "pattern"), (0, u "Ljava/util/regex/Pattern;"), (2, u "form"), (90, u "isIdentity"), (0, u "()Z")] 27

def k6c0 : Code := { maxStack := 2, maxLocals := 1, code := prog_3_method_4_code, exceptionTable := #[], attributes := #[] }
def k6m0 : Method := { name := "isIdentity", desc := "()Z", sig := { parameters := [], returnType := some .boolean }, accessFlags := 1, code := some k6c0 }
/-- com/example/role_bindings/rolebindings/Member$Kind -/
def k6 : Class := { plain "com/example/role_bindings/rolebindings/Member$Kind" (some 5) with
  accessFlags := 16433
  interfaces := #[]
  cf := some (fileOf pool6 3 #[.nestHost 1] #[{ accessFlags := 1, nameIndex := 176, descriptorIndex := 177, attributes := #[] }] 16433 52 #[] #[{ accessFlags := 16409, nameIndex := 7, descriptorIndex := 8, attributes := #[] }, { accessFlags := 16409, nameIndex := 11, descriptorIndex := 8, attributes := #[] }, { accessFlags := 16409, nameIndex := 14, descriptorIndex := 8, attributes := #[] }, { accessFlags := 16409, nameIndex := 17, descriptorIndex := 8, attributes := #[] }, { accessFlags := 16409, nameIndex := 20, descriptorIndex := 8, attributes := #[] }, { accessFlags := 16409, nameIndex := 23, descriptorIndex := 8, attributes := #[] }, { accessFlags := 16409, nameIndex := 26, descriptorIndex := 8, attributes := #[] }, { accessFlags := 16409, nameIndex := 29, descriptorIndex := 8, attributes := #[] }, { accessFlags := 16409, nameIndex := 32, descriptorIndex := 8, attributes := #[] }, { accessFlags := 16409, nameIndex := 35, descriptorIndex := 8, attributes := #[] }, { accessFlags := 16409, nameIndex := 38, descriptorIndex := 8, attributes := #[] }, { accessFlags := 16409, nameIndex := 41, descriptorIndex := 8, attributes := #[] }, { accessFlags := 18, nameIndex := 63, descriptorIndex := 64, attributes := #[] }, { accessFlags := 18, nameIndex := 81, descriptorIndex := 82, attributes := #[] }, { accessFlags := 18, nameIndex := 85, descriptorIndex := 64, attributes := #[] }, { accessFlags := 4122, nameIndex := 44, descriptorIndex := 45, attributes := #[] }])
  fields := #[{ name := "ALL_USERS", type := (.object "com/example/role_bindings/rolebindings/Member$Kind"), accessFlags := 16409, slot := 0, constantValue := 0 }, { name := "ALL_AUTHENTICATED_USERS", type := (.object "com/example/role_bindings/rolebindings/Member$Kind"), accessFlags := 16409, slot := 1, constantValue := 0 }, { name := "USER", type := (.object "com/example/role_bindings/rolebindings/Member$Kind"), accessFlags := 16409, slot := 2, constantValue := 0 }, { name := "SERVICE_ACCOUNT", type := (.object "com/example/role_bindings/rolebindings/Member$Kind"), accessFlags := 16409, slot := 3, constantValue := 0 }, { name := "GROUP", type := (.object "com/example/role_bindings/rolebindings/Member$Kind"), accessFlags := 16409, slot := 4, constantValue := 0 }, { name := "DOMAIN", type := (.object "com/example/role_bindings/rolebindings/Member$Kind"), accessFlags := 16409, slot := 5, constantValue := 0 }, { name := "PRINCIPAL", type := (.object "com/example/role_bindings/rolebindings/Member$Kind"), accessFlags := 16409, slot := 6, constantValue := 0 }, { name := "PRINCIPAL_SET", type := (.object "com/example/role_bindings/rolebindings/Member$Kind"), accessFlags := 16409, slot := 7, constantValue := 0 }, { name := "DELETED_USER", type := (.object "com/example/role_bindings/rolebindings/Member$Kind"), accessFlags := 16409, slot := 8, constantValue := 0 }, { name := "DELETED_SERVICE_ACCOUNT", type := (.object "com/example/role_bindings/rolebindings/Member$Kind"), accessFlags := 16409, slot := 9, constantValue := 0 }, { name := "DELETED_GROUP", type := (.object "com/example/role_bindings/rolebindings/Member$Kind"), accessFlags := 16409, slot := 10, constantValue := 0 }, { name := "DELETED_PRINCIPAL", type := (.object "com/example/role_bindings/rolebindings/Member$Kind"), accessFlags := 16409, slot := 11, constantValue := 0 }, { name := "prefix", type := (.object "java/lang/String"), accessFlags := 18, slot := 3, constantValue := 0 }, { name := "pattern", type := (.object "java/util/regex/Pattern"), accessFlags := 18, slot := 4, constantValue := 0 }, { name := "form", type := (.object "java/lang/String"), accessFlags := 18, slot := 5, constantValue := 0 }, { name := "$VALUES", type := (.array (.object "com/example/role_bindings/rolebindings/Member$Kind")), accessFlags := 4122, slot := 12, constantValue := 0 }]
  methods := #[k6m0]
  instanceTypes := #[(.object "java/lang/String"), .int, .int, (.object "java/lang/String"), (.object "java/util/regex/Pattern"), (.object "java/lang/String")]
  staticTypes := #[(.object "com/example/role_bindings/rolebindings/Member$Kind"), (.object "com/example/role_bindings/rolebindings/Member$Kind"), (.object "com/example/role_bindings/rolebindings/Member$Kind"), (.object "com/example/role_bindings/rolebindings/Member$Kind"), (.object "com/example/role_bindings/rolebindings/Member$Kind"), (.object "com/example/role_bindings/rolebindings/Member$Kind"), (.object "com/example/role_bindings/rolebindings/Member$Kind"), (.object "com/example/role_bindings/rolebindings/Member$Kind"), (.object "com/example/role_bindings/rolebindings/Member$Kind"), (.object "com/example/role_bindings/rolebindings/Member$Kind"), (.object "com/example/role_bindings/rolebindings/Member$Kind"), (.object "com/example/role_bindings/rolebindings/Member$Kind"), (.array (.object "com/example/role_bindings/rolebindings/Member$Kind"))]
  resolved := Array.replicate 205 none
  statics := some 0 }

def pool7 : Array CpInfo := pool [(1, u "java/lang/Cloneable"), (0, .class_ 1), (0, u "java/lang/Object"), (0, .class_ 3)] 3

/-- java/lang/Cloneable -/
def k7 : Class := { plain "java/lang/Cloneable" (some 0) with
  accessFlags := 1537
  interfaces := #[]
  cf := some (fileOf pool7 2 #[] #[] 1537 4 #[] #[])
  fields := #[]
  methods := #[]
  instanceTypes := #[]
  staticTypes := #[]
  resolved := Array.replicate 8 none
  statics := none }

/-- the primitive byte -/
def k8 : Class := { plain "byte" none with kind := .primitive 'B', accessFlags := 0x411 }
/-- [B -/
def k9 : Class := { plain "[B" (some 0) with kind := .array 8 .byte, interfaces := #[7, 4], accessFlags := 1041 }

/-- the primitive int -/
def k10 : Class := { plain "int" none with kind := .primitive 'I', accessFlags := 0x411 }
/-- [I -/
def k11 : Class := { plain "[I" (some 0) with kind := .array 10 .int, interfaces := #[7, 4], accessFlags := 1041 }

def heap : Heap := #[{ cls := 6, slots := #[.ref 1, .ref 2, .ref 3, .ref 4, .ref 5, .ref 6, .ref 7, .ref 8, .ref 9, .ref 10, .ref 11, .ref 12, .null], vm := .statics 6 },
  { cls := 6, slots := #[.null, .int 0, .int 0, .null, .null, .null], vm := .none },
  { cls := 6, slots := #[.null, .int 1, .int 0, .null, .null, .null], vm := .none },
  { cls := 6, slots := #[.null, .int 2, .int 0, .null, .null, .null], vm := .none },
  { cls := 6, slots := #[.null, .int 3, .int 0, .null, .null, .null], vm := .none },
  { cls := 6, slots := #[.null, .int 4, .int 0, .null, .null, .null], vm := .none },
  { cls := 6, slots := #[.null, .int 5, .int 0, .null, .null, .null], vm := .none },
  { cls := 6, slots := #[.null, .int 6, .int 0, .null, .null, .null], vm := .none },
  { cls := 6, slots := #[.null, .int 7, .int 0, .null, .null, .null], vm := .none },
  { cls := 6, slots := #[.null, .int 8, .int 0, .null, .null, .null], vm := .none },
  { cls := 6, slots := #[.null, .int 9, .int 0, .null, .null, .null], vm := .none },
  { cls := 6, slots := #[.null, .int 10, .int 0, .null, .null, .null], vm := .none },
  { cls := 6, slots := #[.null, .int 11, .int 0, .null, .null, .null], vm := .none }]
def classes : Array Class := #[k0, k1, k2, k3, k4, k5, k6, k7, k8, k9, k10, k11]
def interned : List (Array UInt16 × Addr) := []
def slotsUsed : Nat := 85
def theMethod : MethodId := ⟨1, 3⟩
def args0 : Array Value := #[.int 5]
def aboutOver (below : List Frame) : State where
  vm := { classes := classes, interned := interned.toArray }
  heap := heap
  slotsUsed := slotsUsed
  threads := #[{ frames := .invoking theMethod args0 :: below }]
def below0 : List Frame := [.native { method := ⟨0, 0⟩, args := #[] }]
def about1 : State := aboutOver below0
def p0 : Program := .bare "" "" ""
def e0 : Env := launch0.env 0 0 0
theorem w_frames : about1.frames = Frame.invoking theMethod args0 :: below0 := rfl
set_option maxRecDepth 65536 in
theorem w_args : argsFit about1.vm theMethod args0 = true := by decide +kernel
set_option maxRecDepth 65536 in
theorem w_heap : heapFits about1 = true := by decide +kernel
set_option maxRecDepth 65536 in
theorem w_runnable : about1.curStatus? = some .runnable := by decide +kernel
set_option maxRecDepth 65536 in
theorem w_alone : about1.alone = true := by decide +kernel
set_option maxRecDepth 65536 in
theorem w_named : about1.methodNamed? x = some theMethod := by decide +kernel
set_option maxRecDepth 65536 in
theorem w_hears : about1.hears theMethod below0 = true := by decide +kernel
set_option maxRecDepth 65536 in
theorem w_ripe : about1.ripe theMethod args0 below0 = true := by decide +kernel
theorem w_running : about1.status = .running := rfl
set_option maxRecDepth 65536 in
theorem w_room : about1.hasRoom e0.platform room_1 = true :=
  launch0.hasRoom_least _ room_1 (by decide +kernel) (by decide +kernel) (by decide +kernel) (by decide +kernel) (by decide +kernel) (by decide +kernel)
theorem allAtoms_all (ts : List Jvm.Cond) (a : Array Jvm.Value) (st : Jvm.State) : (allAtoms ts).before a st = ts.all (fun c => c.before a st) := by
  induction ts with
  | nil => rfl
  | cons c t ih =>
    show (Jvm.Cond.and c (allAtoms t)).before a st = _
    rw [Jvm.Cond.before_and, ih, List.all_cons]
def words1 : List Jvm.Cond := Jvm.Cond.code x code maxLocals ret :: tables_1
/-- a 'code' word, met by the world's own term for the bytes: nothing is compared byte by byte -/
theorem code_word {y : MethodName} {bytes : ByteArray} {mx : Nat} {rt : Option FieldType} {a : Array Value} {s : State} {m : MethodId} {meth : Method} {c : Code} (h1 : s.methodNamed? y = some m) (h2 : s.vm.method? m = some meth) (h3 : meth.code = some c) (h4 : c.code = bytes)
    (h5 : (c.maxLocals == mx && c.exceptionTable.isEmpty && decide (c.maxStack ≤ mostOperands) && decide (meth.sig.returnType = rt) && !meth.locks && decide (parseMethodDescriptor y.desc = some meth.sig)) = true) : (Jvm.Cond.code y bytes mx rt).before a s = true := by
  simp only [Bool.and_eq_true, beq_iff_eq, Bool.not_eq_true', decide_eq_true_eq] at h5
  obtain ⟨⟨⟨⟨⟨g1, g2⟩, g3⟩, g4⟩, g5⟩, g6⟩ := h5
  simp [Cond.before, Cond.holds, Cond.value, h1, h2, h3, h4, g1, g2, g3, g4, g5, g6]
def isCode : Jvm.Cond → Bool
  | .code _ _ _ _ => true
  | _ => false
theorem all_split {L : List Jvm.Cond} {P : Jvm.Cond → Bool} (h1 : L.all (fun c => isCode c || P c) = true) (h2 : ∀ c ∈ L.filter isCode, P c = true) : L.all P = true := by
  refine List.all_eq_true.mpr fun c hc => ?_
  have h := List.all_eq_true.mp h1 c hc
  rcases Bool.eq_false_or_eq_true (isCode c) with hi | hi
  · exact h2 c (List.mem_filter.mpr ⟨hc, hi⟩)
  · simpa [hi] using h
set_option maxRecDepth 65536 in
theorem w_c0 : (Jvm.Cond.code x code maxLocals ret).before args0 about1 = true := code_word (m := ⟨1, 3⟩) (meth := k1m3) (c := k1c3) (by decide +kernel) rfl rfl rfl (by decide +kernel)
set_option maxRecDepth 65536 in
theorem w_c1 : (Jvm.Cond.code ({ cls := "com/example/role_bindings/rolebindings/KindIsIdentityPinLaw", name := "kindAt", desc := "(I)Lcom/example/role_bindings/rolebindings/Member$Kind;" } : Jvm.MethodName) method_2_code (1 : Nat) (Option.some (Jvm.ClassFile.FieldType.object "com/example/role_bindings/rolebindings/Member$Kind"))).before args0 about1 = true := code_word (m := ⟨1, 1⟩) (meth := k1m1) (c := k1c1) (by decide +kernel) rfl rfl rfl (by decide +kernel)
set_option maxRecDepth 65536 in
theorem w_c2 : (Jvm.Cond.code ({ cls := "com/example/role_bindings/rolebindings/Member$Kind", name := "isIdentity", desc := "()Z" } : Jvm.MethodName) prog_3_method_4_code (1 : Nat) (Option.some Jvm.ClassFile.FieldType.boolean)).before args0 about1 = true := code_word (m := ⟨6, 0⟩) (meth := k6m0) (c := k6c0) (by decide +kernel) rfl rfl rfl (by decide +kernel)
set_option maxRecDepth 65536 in
theorem w_c3 : (Jvm.Cond.code ({ cls := "com/example/role_bindings/rolebindings/KindIsIdentityPinLaw", name := "namesOneIdentity", desc := "(I)Z" } : Jvm.MethodName) method_3_code (1 : Nat) (Option.some Jvm.ClassFile.FieldType.boolean)).before args0 about1 = true := code_word (m := ⟨1, 2⟩) (meth := k1m2) (c := k1c2) (by decide +kernel) rfl rfl rfl (by decide +kernel)
def codes1 : List Jvm.Cond := [Jvm.Cond.code x code maxLocals ret, Jvm.Cond.code ({ cls := "com/example/role_bindings/rolebindings/KindIsIdentityPinLaw", name := "kindAt", desc := "(I)Lcom/example/role_bindings/rolebindings/Member$Kind;" } : Jvm.MethodName) method_2_code (1 : Nat) (Option.some (Jvm.ClassFile.FieldType.object "com/example/role_bindings/rolebindings/Member$Kind")), Jvm.Cond.code ({ cls := "com/example/role_bindings/rolebindings/Member$Kind", name := "isIdentity", desc := "()Z" } : Jvm.MethodName) prog_3_method_4_code (1 : Nat) (Option.some Jvm.ClassFile.FieldType.boolean), Jvm.Cond.code ({ cls := "com/example/role_bindings/rolebindings/KindIsIdentityPinLaw", name := "namesOneIdentity", desc := "(I)Z" } : Jvm.MethodName) method_3_code (1 : Nat) (Option.some Jvm.ClassFile.FieldType.boolean)]
set_option maxRecDepth 65536 in
theorem codes_eq : words1.filter isCode = codes1 := rfl
theorem w_codes : ∀ c ∈ words1.filter isCode, c.before args0 about1 = true := by
  rw [codes_eq]
  intro c hc
  simp only [codes1, List.mem_cons, List.not_mem_nil, or_false] at hc
  rcases hc with rfl | rfl | rfl | rfl
  · exact w_c0
  · exact w_c1
  · exact w_c2
  · exact w_c3
set_option maxRecDepth 65536 in
theorem w_t1 : (words1.take 24).all (fun c => isCode c || c.before args0 about1) = true := by decide +kernel
set_option maxRecDepth 65536 in
theorem w_t2 : (words1.drop 24).all (fun c => isCode c || c.before args0 about1) = true := by decide +kernel
theorem w_tables : (allAtoms (Jvm.Cond.code x code maxLocals ret :: tables_1)).before args0 about1 = true := by
  rw [allAtoms_all]
  show words1.all (fun c => c.before args0 about1) = true
  refine all_split ?_ w_codes
  rw [← List.take_append_drop 24 words1, List.all_append, w_t1, w_t2]
  rfl
set_option maxRecDepth 65536 in
theorem w_case : (Jvm.Cond.and given_1 narrow_1).before args0 about1 = true := by decide +kernel
theorem w_applies : (headSpec (Jvm.Cond.code x code maxLocals ret :: tables_1) room_1).applies x e0.platform about1 = true :=
  (Spec.applies_iff w_frames).mpr ⟨w_running, w_runnable, w_alone, w_named, w_hears, w_ripe, w_room, w_tables⟩
theorem atStart : AtStart classFile x code maxLocals ret World_1 tables_1 room_1 Calls_1 rest_1 Pre_1 launch0 p0 e0 about1 theMethod args0 below0 :=
  ⟨lists_1, trivial, launch0.admits_env _ _ _, launch0.least_env, fairChoices_fair.cas, fairChoices_fair.clock, w_frames, w_args, w_heap, w_applies, trivial, trivial, w_case⟩
end start1
theorem witness_1 : WitnessClaimed_1 := ⟨start1.p0, start1.e0, start1.about1, start1.theMethod, start1.args0, start1.below0, start1.atStart⟩
end Jvm.Pilot.@@N@@
